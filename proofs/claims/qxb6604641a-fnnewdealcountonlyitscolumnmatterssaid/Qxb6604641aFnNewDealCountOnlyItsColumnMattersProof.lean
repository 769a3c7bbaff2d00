/-
  THE PROOF OF 'Rows.FnNewDealCountOnlyItsColumnMattersSaid': the frame after the guide's template, the walk out of Qxb6604641aDcC.
-/
import Derived.Test.Qxb6604641aRows
import Derived.Test.Qxb6604641aDcC
import Derived.WalkKit
import Derived.ProofKit
import Derived.OpenShut
import Derived.ShutString
import Derived.ChangeOld
import Derived.Below
import Derived.SliceStrings
namespace Go.Proofs.Qxb6604641a.fnNewDealCountOnlyItsColumnMatters
open Go.ChangeShapes Go.WideShapes Go.ChangeAt Go.RowKit
open Dc
set_option linter.unusedVariables false

theorem own : ownKnob Try.prog.godebug = none := by kernel_rfl
theorem laidOut : laidOutB Try.prog = true := by kernel_rfl
theorem cells9 : Try.prog.cellsOf 9 = 1 := by kernel_rfl
theorem cells3 : Try.prog.cellsOf 3 = 1 := by kernel_rfl

theorem seg_of {W : World} {a : Addr} {ss : List ByteArray} {n : Nat} (hn : n ≤ ss.length) (hc : ∀ i, i < ss.length → W.cell? (a.add i) = some (.string (ss.getD i ByteArray.empty))) : SegS W (some a) (ss.take n) := by
  intro k hk
  have hk' : k < ss.length := by simp at hk; omega
  obtain ⟨b, off, spot⟩ := a
  have hspot : spot = none := by simpa [Addr.add] using World.cell?_spot (hc 0 (by omega))
  subst hspot
  refine ⟨b, off, rfl, fun i hi => ?_⟩
  have hi' : i < n := by simp at hi; omega
  have := hc i (by omega)
  rw [Go.WideShapes.add_plain] at this
  rw [this]
  simp [List.getD, hi']
theorem segi_of {W : World} {a : Addr} {zs : List Int} {n : Nat} (hn : n ≤ zs.length) (hc : ∀ i, i < zs.length → W.cell? (a.add i) = some (.int .i64 (zs.getD i 0))) : SegI W (some a) (zs.take n) := by
  intro k hk
  have hk' : k < zs.length := by simp at hk; omega
  obtain ⟨b, off, spot⟩ := a
  have hspot : spot = none := by simpa [Addr.add] using World.cell?_spot (hc 0 (by omega))
  subst hspot
  refine ⟨b, off, rfl, fun i hi => ?_⟩
  have hi' : i < n := by simp at hi; omega
  have := hc i (by omega)
  rw [Go.WideShapes.add_plain] at this
  rw [this]
  simp [List.getD, hi']

theorem open_names {H : Type} {enc : TypeId × Value → H} {W : World} {v : Value} {d : DataW H} {p : List MemPlace} {r : Reach} {b0 : Nat} (hv : Value.okWide Try.prog W r b0 22 v) (h : DataW.Trod enc Try.prog W 0 (fun _ => true) true 22 v d p) :
    ∃ a len cap ss, v = .slice a len cap ∧ SegS W a ss ∧ len = ss.length ∧ (∀ s ∈ ss, s.size ≤ maxLen) ∧ (a = none → ss = [] ∧ cap = 0) := by
  obtain ⟨a, len, cap, rfl⟩ := okWide_slice Try.underlying22 hv
  obtain ⟨fuel, hf⟩ := h
  rcases open_strings Try.underlying22 Try.underlying9 cells9 hf with ⟨hcs, _⟩ | ⟨a, len, cap, ss, hcs, _, hl, hm, hz, _, hcell, hws⟩
  · obtain h := (List.cons.inj hcs).1
    exact ⟨none, 0, 0, [], h, fun k hk => absurd hk (by simp), rfl, fun s hs => (by cases hs), fun _ => ⟨rfl, rfl⟩⟩
  · obtain h := (List.cons.inj hcs).1
    simp at hz
    exact ⟨some a, len, cap, ss.take len, h, seg_of (by omega) hcell, by simp; omega, fun s hs => hws s (List.mem_of_mem_take hs), fun e => by cases e⟩

theorem open_idx {H : Type} {enc : TypeId × Value → H} {W : World} {v : Value} {d : DataW H} {p : List MemPlace} {r : Reach} {b0 : Nat} (hv : Value.okWide Try.prog W r b0 23 v) (h : DataW.Trod enc Try.prog W 0 (fun _ => true) true 23 v d p) :
    ∃ a len cap zs, v = .slice a len cap ∧ SegI W a zs ∧ len = zs.length := by
  obtain ⟨a, len, cap, rfl⟩ := okWide_slice Try.underlying23 hv
  obtain ⟨fuel, hf⟩ := h
  rcases open_ints Try.underlying23 Try.underlying3 cells3 hf with ⟨hcs, _⟩ | ⟨a, len, cap, zs, hcs, _, hl, hm, hz, _, hcell, hwz⟩
  · obtain h := (List.cons.inj hcs).1
    exact ⟨none, 0, 0, [], h, fun k hk => absurd hk (by simp), rfl⟩
  · obtain h := (List.cons.inj hcs).1
    simp at hz
    exact ⟨some a, len, cap, zs.take len, h, segi_of (by omega) hcell, by simp; omega⟩

set_option maxRecDepth 100000 in
theorem lifted (os : Os) (started : os.Started) (H : Type) (enc : TypeId × Value → H) :
    ReturnsInHanded {} Try.checked os 3 .any (Rows.fnNewDealCountOnlyItsColumnMattersSpec.pre6 enc Try.prog Try.f3 Rows.fnNewDealCountOnlyItsColumnMattersRow.domain false) (Rows.fnNewDealCountOnlyItsColumnMattersSpec.post enc Try.prog Try.f3 false true false false) := by
  refine returnsInHanded_of_change (C := Try.checked) own started (by kernel_rfl) Try.func3
    (ChangeSpec.witness6 (enc := enc) (C := Try.checked) false ⟨#[], #[.slice none 0 0, .slice none 0 0, .int .i64 0], []⟩ 8 (by kernel_rfl) (by kernel_rfl) (by kernel_rfl) (by kernel_rfl)) ?_
  intro W base args ds gs before hval0 hW hcnd _
  have hval : ∀ (j : Nat) t v, Try.f3.params[j]? = some t → args[j]? = some v → Value.okWide Try.prog W .any base t v := hval0
  have hW' := hW
  obtain ⟨p, q, hA0, hV, rfl, hfz, hnd⟩ := hW
  have hA : DataW.TrodAll enc Try.prog W 0 (fun _ => true) true Try.f3.params.toList args.toList ds p := hA0
  rw [Try.params3] at hA hval
  obtain ⟨v0, vs0, d0, ds0, p0, q0, hargs, rfl, rfl, h0, r0⟩ := trodAll_cons hA
  obtain ⟨v1, vs1, d1, ds1, p1, q1, rfl, rfl, rfl, h1, r1⟩ := trodAll_cons r0
  obtain ⟨v2, vs2, d2, ds2, p2, q2, rfl, rfl, rfl, h2, r2⟩ := trodAll_cons r1
  obtain ⟨rfl, rfl, rfl⟩ := trodAll_nil r2
  obtain rfl : args = #[v0, v1, v2] := by cases args; simp_all
  obtain ⟨rfl, rfl⟩ := trodVars_none hV
  have lt0 : ∀ x ∈ p0, x.block < W.heap.size := by obtain ⟨m, hm⟩ := h0; exact DataW.trod_lt m _ _ _ hm
  have lt1 : ∀ x ∈ p1, x.block < W.heap.size := by obtain ⟨m, hm⟩ := h1; exact DataW.trod_lt m _ _ _ hm
  obtain ⟨a, n, c, ns, rfl, hs, hl, hms, hn⟩ := open_names (hval 0 22 v0 rfl rfl) h0
  obtain ⟨a', m, c', zs, rfl, hi, hl'⟩ := open_idx (hval 1 23 v1 rfl rfl) h1
  obtain ⟨width, rfl, rfl, rfl, w2⟩ := open_int Try.underlying3 (hval 2 3 v2 rfl rfl) h2
  clear hA0 hval0
  refine (law_any a a' ns zs n m c c' width W hs hi hl hl' hms hn).mono fun e W' ⟨he, bel⟩ => ?_
  subst he
  exact ⟨_, rfl, _, _, _, [], _, [], hW', trodAll_mk1 (shut_bool Try.underlying4 _), (trodAll_cons_mk (Below.trod laidOut (by kernel_rfl) (of_decide_eq_true (by kernel_rfl)) h0 bel lt0) (trodAll_cons_mk (Below.trod laidOut (by kernel_rfl) (of_decide_eq_true (by kernel_rfl)) h1 bel lt1) (trodAll_cons_mk (shut_int Try.underlying3 w2) trodAll_mk0))), rfl, bel.frame _, fun h => by cases h⟩

theorem over : Rows.fnNewDealCountOnlyItsColumnMattersRow.holds Try.pinned (OpenSpec.ofChange Rows.fnNewDealCountOnlyItsColumnMattersSpec) :=
  OpenClaim.holds_of_wide 3 Try.f3 rfl rfl rfl rfl rfl rfl rfl ⟨rfl, rfl, rfl, rfl, rfl⟩ rfl rfl rfl rfl rfl (by kernel_rfl) Try.func3 (by kernel_rfl)
    (of_decide_eq_true (by kernel_rfl)) (by unfold Func.isWrapper; first | (rw [if_pos (by decide +kernel)]; kernel_rfl) | (rw [if_neg (by decide +kernel)]; exact ⟨rfl, rfl⟩))
    (fun os started H enc _ => lifted os started H enc)

/-- THE STATEMENT -/
theorem proved : Rows.FnNewDealCountOnlyItsColumnMattersSaid := over
end Go.Proofs.Qxb6604641a.fnNewDealCountOnlyItsColumnMatters
