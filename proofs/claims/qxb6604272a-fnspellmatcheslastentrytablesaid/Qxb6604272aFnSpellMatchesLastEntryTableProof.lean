/-
  THE PROOF OF 'Rows.FnSpellMatchesLastEntryTableSaid': the frame after the guide's template, the walk out of Qxb6604272aSpK.
-/
import Derived.Test.Qxb6604272aRows
import Derived.Test.Qxb6604272aSpK
import Derived.WalkKit
import Derived.ProofKit
import Derived.OpenShut
import Derived.ShutString
import Derived.ChangeOld
import Derived.Below
import Derived.SliceStrings
import Derived.Deep.Slices
import Derived.Lib.SmallJoins
namespace Go.Proofs.Qxb6604272a.fnSpellMatchesLastEntryTable
open Go.ChangeShapes Go.WideShapes Go.ChangeAt Go.RowKit Go.Joins
open Go.ChangeMaps (open_string shut_string)
open Sp
set_option linter.unusedVariables false

theorem own : ownKnob Try.prog.godebug = none := by kernel_rfl
theorem laidOut : laidOutB Try.prog = true := by kernel_rfl
theorem cells9 : Try.prog.cellsOf 9 = 1 := by kernel_rfl
theorem cells24 : Try.prog.cellsOf 24 = 1 := by kernel_rfl
theorem cells27 : Try.prog.cellsOf 27 = 3 := by kernel_rfl

theorem seg_of {W : World} {a : Addr} {ss : List ByteArray} {n : Nat} (hn : n ≤ ss.length) (hc : ∀ i, i < ss.length → W.cell? (a.add i) = some (.string (ss.getD i ByteArray.empty))) : Seg W (some a) (ss.take n) := by
  intro k hk
  have hk' : k < ss.length := by simp at hk; omega
  obtain ⟨b, off, spot⟩ := a
  have hspot : spot = none := by simpa [Addr.add] using World.cell?_spot (hc 0 (by omega))
  subst hspot
  refine ⟨b, off, rfl, fun i hi => ?_⟩
  have hi' : i < n := by simp at hi; omega
  have := hc i (by omega)
  rw [Go.WideShapes.add_plain] at this
  rw [this]
  simp [List.getD, hi']

theorem strs_in {H : Type} {enc : TypeId × Value → H} {W : World} {n : Nat} {v : Value} {x : DataW H × List MemPlace} (h : DataW.trod enc Try.prog W 0 (fun _ => true) true n 24 [v] = some x) :
    ∃ a len cap ss, v = .slice a len cap ∧ SA W a ss len cap ∧ ∀ s ∈ ss, s.size ≤ maxLen := by
  rcases open_strings Try.underlying24 Try.underlying9 cells9 h with ⟨hcs, _⟩ | ⟨a, len, cap, ss, hcs, _, hl, hm, hz, _, hcell, hws⟩
  · obtain rfl := (List.cons.inj hcs).1
    exact ⟨none, 0, 0, [], rfl, ⟨fun k hk => absurd hk (by simp), rfl, by simp, fun _ => ⟨rfl, rfl⟩⟩, fun s hs => by cases hs⟩
  · obtain rfl := (List.cons.inj hcs).1
    simp at hz
    refine ⟨some a, len, cap, ss.take len, rfl, ⟨seg_of (by omega) hcell, by simp; omega, by simp; omega, fun e => by cases e⟩, fun s hs => hws s (List.mem_of_mem_take hs)⟩

theorem pick_list {Pd : Nat → In → Prop} : ∀ n, (∀ i, i < n → ∃ x, Pd i x) → ∃ xs : List In, xs.length = n ∧ ∀ i, i < n → Pd i (xs.getD i none')
  | 0, _ => ⟨[], rfl, fun i hi => absurd hi (by omega)⟩
  | n + 1, h => by
    obtain ⟨xs, hl, hx⟩ := pick_list n (fun i hi => h i (by omega))
    obtain ⟨x, hp⟩ := h n (by omega)
    refine ⟨xs ++ [x], by simp [hl], fun i hi => ?_⟩
    by_cases e : i = n
    · subst e
      have : (xs ++ [x]).getD i none' = x := by simp [List.getD, ← hl]
      rw [this]; exact hp
    · have : (xs ++ [x]).getD i none' = xs.getD i none' := by simp [List.getD, List.getElem?_append_left (show i < xs.length by omega)]
      rw [this]; exact hx i (by omega)

theorem lists_in {H : Type} {enc : TypeId × Value → H} {W : World} {n : Nat} {v : Value} {x : DataW H × List MemPlace} (h : DataW.trod enc Try.prog W 0 (fun _ => true) true n 25 [v] = some x) :
    ∃ a len cap xs, v = .slice a len cap ∧ LA W a xs len cap := by
  rcases Go.Deep.open_slice1 Try.underlying25 cells24 h with ⟨hcs, _⟩ | ⟨a, len, cap, m, n', V, D, Pl, hcs, _, hl, hm, hmm, _, hx⟩
  · obtain rfl := (List.cons.inj hcs).1
    exact ⟨none, 0, 0, [], rfl, ⟨⟨fun k hk => absurd hk (by simp), fun x hx => by cases hx⟩, rfl, by simp, fun _ => ⟨rfl, rfl⟩⟩⟩
  · obtain rfl := (List.cons.inj hcs).1
    simp at hmm
    obtain ⟨xs, hxl, hxp⟩ := pick_list (Pd := fun i x => V i = sl x ∧ Seg W x.1 x.2.1 ∧ x.2.1.length ≤ maxLen ∧ (x.1 = none → x.2.2 = 0 ∧ x.2.1 = [])) len (fun i hi => by
      obtain ⟨a', len', cap', ss, hv, hsa, _⟩ := strs_in (hx i (by omega)).2
      exact ⟨(a', ss, cap'), by rw [hv, hsa.2.1]; rfl, hsa.1, hsa.2.2.1, fun e => ⟨(hsa.2.2.2 e).2, (hsa.2.2.2 e).1⟩⟩)
    refine ⟨some a, len, cap, xs, rfl, ⟨⟨fun k hk => ?_, fun x hx' => ?_⟩, hxl.symm, by rw [hxl]; omega, fun e => by cases e⟩⟩
    · obtain ⟨b, off, spot⟩ := a
      have hspot : spot = none := by simpa [Addr.add] using World.cell?_spot (hx 0 (by omega)).1
      subst hspot
      refine ⟨b, off, rfl, fun i hi => ?_⟩
      have := (hx i (by omega)).1
      rw [Go.WideShapes.add_plain] at this
      rw [this, (hxp i (by omega)).1]
    · obtain ⟨i, hi, rfl⟩ := List.getElem_of_mem hx'
      have := (hxp i (by omega)).2
      rw [show xs.getD i none' = xs[i] by simp [List.getD, hi]] at this
      exact this

theorem open_sa {H : Type} {enc : TypeId × Value → H} {W : World} {v : Value} {d : DataW H} {p : List MemPlace} {r : Reach} {b0 : Nat} (hv : Value.okWide Try.prog W r b0 24 v) (h : DataW.Trod enc Try.prog W 0 (fun _ => true) true 24 v d p) :
    ∃ a len cap ss, v = .slice a len cap ∧ SA W a ss len cap ∧ ∀ s ∈ ss, s.size ≤ maxLen := by
  obtain ⟨a, len, cap, rfl⟩ := okWide_slice Try.underlying24 hv
  obtain ⟨fuel, hf⟩ := h
  exact strs_in hf
theorem open_la {H : Type} {enc : TypeId × Value → H} {W : World} {v : Value} {d : DataW H} {p : List MemPlace} {r : Reach} {b0 : Nat} (hv : Value.okWide Try.prog W r b0 25 v) (h : DataW.Trod enc Try.prog W 0 (fun _ => true) true 25 v d p) :
    ∃ a len cap xs, v = .slice a len cap ∧ LA W a xs len cap := by
  obtain ⟨a, len, cap, rfl⟩ := okWide_slice Try.underlying25 hv
  obtain ⟨fuel, hf⟩ := h
  exact lists_in hf
theorem open_fl {H : Type} {enc : TypeId × Value → H} {W : World} {v : Value} {d : DataW H} {p : List MemPlace} {r : Reach} {b0 : Nat} (hv : Value.okWide Try.prog W r b0 27 v) (h : DataW.Trod enc Try.prog W 0 (fun _ => true) true 27 v d p) :
    ∃ f0 f1 f2, v = .agg #[.bool f0, .bool f1, .bool f2] := by
  obtain ⟨c0, c1, c2, y0, y1, y2, m, rfl, _, _, h0, h1, h2⟩ := open_agg3 Try.underlying27 (by kernel_rfl) cells27 hv h
  obtain ⟨a0, e0, _⟩ := DataW.trod_bool Try.underlying4 h0
  obtain ⟨a1, e1, _⟩ := DataW.trod_bool Try.underlying4 h1
  obtain ⟨a2, e2, _⟩ := DataW.trod_bool Try.underlying4 h2
  simp at e0 e1 e2
  subst e0 e1 e2
  exact ⟨_, _, _, rfl⟩

theorem keys_ok {ks : List ByteArray} (h : ∀ s ∈ ks, s.size ≤ maxLen) (i : Nat) (hi : i < ks.length) : (ks.getD i ByteArray.empty).size ≤ maxLen := by
  refine h _ ?_
  rw [List.getD_eq_getElem?_getD, List.getElem?_eq_getElem hi]; exact List.getElem_mem hi

set_option maxRecDepth 100000 in
theorem lifted (os : Os) (started : os.Started) (H : Type) (enc : TypeId × Value → H) :
    ReturnsInHanded {} Try.checked os 4 .any (Rows.fnSpellMatchesLastEntryTableSpec.pre6 enc Try.prog Try.f4 Rows.fnSpellMatchesLastEntryTableRow.domain false) (Rows.fnSpellMatchesLastEntryTableSpec.post enc Try.prog Try.f4 false true false false) := by
  refine returnsInHanded_of_change (C := Try.checked) own started (by kernel_rfl) Try.func4
    (ChangeSpec.witness6 (enc := enc) (C := Try.checked) false ⟨#[], #[.slice none 0 0, .slice none 0 0, .slice none 0 0, .slice none 0 0, .string ByteArray.empty, .string ByteArray.empty, .slice none 0 0, .string ByteArray.empty, .slice none 0 0, .agg #[.bool false, .bool false, .bool false], .string ByteArray.empty, .string ByteArray.empty], []⟩ 8 (by kernel_rfl) (by kernel_rfl) (by kernel_rfl) (by kernel_rfl)) ?_
  intro W base args ds gs before hval0 hW hcnd _
  have hval : ∀ (j : Nat) t v, Try.f4.params[j]? = some t → args[j]? = some v → Value.okWide Try.prog W .any base t v := hval0
  have hW' := hW
  obtain ⟨p, q, hA0, hV, rfl, hfz, hnd⟩ := hW
  have hA : DataW.TrodAll enc Try.prog W 0 (fun _ => true) true Try.f4.params.toList args.toList ds p := hA0
  rw [Try.params4] at hA hval
  obtain ⟨v0, vs0, d0, ds0, p0, q0, hargs, rfl, rfl, h0, r0⟩ := trodAll_cons hA
  obtain ⟨v1, vs1, d1, ds1, p1, q1, rfl, rfl, rfl, h1, r1⟩ := trodAll_cons r0
  obtain ⟨v2, vs2, d2, ds2, p2, q2, rfl, rfl, rfl, h2, r2⟩ := trodAll_cons r1
  obtain ⟨v3, vs3, d3, ds3, p3, q3, rfl, rfl, rfl, h3, r3⟩ := trodAll_cons r2
  obtain ⟨v4, vs4, d4, ds4, p4, q4, rfl, rfl, rfl, h4, r4⟩ := trodAll_cons r3
  obtain ⟨v5, vs5, d5, ds5, p5, q5, rfl, rfl, rfl, h5, r5⟩ := trodAll_cons r4
  obtain ⟨v6, vs6, d6, ds6, p6, q6, rfl, rfl, rfl, h6, r6⟩ := trodAll_cons r5
  obtain ⟨v7, vs7, d7, ds7, p7, q7, rfl, rfl, rfl, h7, r7⟩ := trodAll_cons r6
  obtain ⟨v8, vs8, d8, ds8, p8, q8, rfl, rfl, rfl, h8, r8⟩ := trodAll_cons r7
  obtain ⟨v9, vs9, d9, ds9, p9, q9, rfl, rfl, rfl, h9, r9⟩ := trodAll_cons r8
  obtain ⟨v10, vs10, d10, ds10, p10, q10, rfl, rfl, rfl, h10, r10⟩ := trodAll_cons r9
  obtain ⟨v11, vs11, d11, ds11, p11, q11, rfl, rfl, rfl, h11, r11⟩ := trodAll_cons r10
  obtain ⟨rfl, rfl, rfl⟩ := trodAll_nil r11
  obtain rfl : args = #[v0, v1, v2, v3, v4, v5, v6, v7, v8, v9, v10, v11] := by cases args; simp_all
  obtain ⟨rfl, rfl⟩ := trodVars_none hV
  have lt0 : ∀ x ∈ p0, x.block < W.heap.size := by obtain ⟨m, hm⟩ := h0; exact DataW.trod_lt m _ _ _ hm
  have lt1 : ∀ x ∈ p1, x.block < W.heap.size := by obtain ⟨m, hm⟩ := h1; exact DataW.trod_lt m _ _ _ hm
  have lt2 : ∀ x ∈ p2, x.block < W.heap.size := by obtain ⟨m, hm⟩ := h2; exact DataW.trod_lt m _ _ _ hm
  have lt3 : ∀ x ∈ p3, x.block < W.heap.size := by obtain ⟨m, hm⟩ := h3; exact DataW.trod_lt m _ _ _ hm
  have lt4 : ∀ x ∈ p4, x.block < W.heap.size := by obtain ⟨m, hm⟩ := h4; exact DataW.trod_lt m _ _ _ hm
  have lt5 : ∀ x ∈ p5, x.block < W.heap.size := by obtain ⟨m, hm⟩ := h5; exact DataW.trod_lt m _ _ _ hm
  have lt6 : ∀ x ∈ p6, x.block < W.heap.size := by obtain ⟨m, hm⟩ := h6; exact DataW.trod_lt m _ _ _ hm
  have lt7 : ∀ x ∈ p7, x.block < W.heap.size := by obtain ⟨m, hm⟩ := h7; exact DataW.trod_lt m _ _ _ hm
  have lt8 : ∀ x ∈ p8, x.block < W.heap.size := by obtain ⟨m, hm⟩ := h8; exact DataW.trod_lt m _ _ _ hm
  have lt9 : ∀ x ∈ p9, x.block < W.heap.size := by obtain ⟨m, hm⟩ := h9; exact DataW.trod_lt m _ _ _ hm
  have lt10 : ∀ x ∈ p10, x.block < W.heap.size := by obtain ⟨m, hm⟩ := h10; exact DataW.trod_lt m _ _ _ hm
  have lt11 : ∀ x ∈ p11, x.block < W.heap.size := by obtain ⟨m, hm⟩ := h11; exact DataW.trod_lt m _ _ _ hm
  obtain ⟨ak, lk, ck, ks, rfl, H0, M0⟩ := open_sa (hval 0 24 v0 rfl rfl) h0
  obtain ⟨an, ln, cn, ns, rfl, H1, M1⟩ := open_sa (hval 1 24 v1 rfl rfl) h1
  obtain ⟨az, ls, cs, sc, rfl, H3, M3⟩ := open_sa (hval 3 24 v3 rfl rfl) h3
  obtain ⟨ap, lp, cp, ps, rfl, H6, M6⟩ := open_sa (hval 6 24 v6 rfl rfl) h6
  obtain ⟨ax, lq, cx, qs, rfl, H8, M8⟩ := open_sa (hval 8 24 v8 rfl rfl) h8
  obtain ⟨aa, la, ca, xs, rfl, H2⟩ := open_la (hval 2 25 v2 rfl rfl) h2
  obtain ⟨f0, f1, f2, rfl⟩ := open_fl (hval 9 27 v9 rfl rfl) h9
  have k4 := h4
  obtain ⟨kw, rfl, rfl, rfl, w4⟩ := open_string Try.underlying9 (hval 4 9 v4 rfl rfl) h4
  have k5 := h5
  obtain ⟨tn, rfl, rfl, rfl, w5⟩ := open_string Try.underlying9 (hval 5 9 v5 rfl rfl) h5
  have k7 := h7
  obtain ⟨sf, rfl, rfl, rfl, w7⟩ := open_string Try.underlying9 (hval 7 9 v7 rfl rfl) h7
  have k10 := h10
  obtain ⟨ch, rfl, rfl, rfl, w10⟩ := open_string Try.underlying9 (hval 10 9 v10 rfl rfl) h10
  have k11 := h11
  obtain ⟨co, rfl, rfl, rfl, w11⟩ := open_string Try.underlying9 (hval 11 9 v11 rfl rfl) h11
  clear hA0 hval0
  refine (law_any ak an aa az ap ax ks ns xs sc ps qs lk ln la ls lp lq ck cn ca cs cp cx kw tn sf ch co f0 f1 f2 W H0 H1 H2 H3 H6 H8 (keys_ok M0) w4).mono fun e W' ⟨he, bel⟩ => ?_
  subst he
  exact ⟨_, rfl, _, _, _, [], _, [], hW', trodAll_mk1 (shut_bool Try.underlying4 _), (trodAll_cons_mk (Below.trod laidOut (by kernel_rfl) (of_decide_eq_true (by kernel_rfl)) h0 bel lt0) (trodAll_cons_mk (Below.trod laidOut (by kernel_rfl) (of_decide_eq_true (by kernel_rfl)) h1 bel lt1) (trodAll_cons_mk (Below.trod laidOut (by kernel_rfl) (of_decide_eq_true (by kernel_rfl)) h2 bel lt2) (trodAll_cons_mk (Below.trod laidOut (by kernel_rfl) (of_decide_eq_true (by kernel_rfl)) h3 bel lt3) (trodAll_cons_mk (Below.trod laidOut (by kernel_rfl) (of_decide_eq_true (by kernel_rfl)) k4 bel lt4) (trodAll_cons_mk (Below.trod laidOut (by kernel_rfl) (of_decide_eq_true (by kernel_rfl)) k5 bel lt5) (trodAll_cons_mk (Below.trod laidOut (by kernel_rfl) (of_decide_eq_true (by kernel_rfl)) h6 bel lt6) (trodAll_cons_mk (Below.trod laidOut (by kernel_rfl) (of_decide_eq_true (by kernel_rfl)) k7 bel lt7) (trodAll_cons_mk (Below.trod laidOut (by kernel_rfl) (of_decide_eq_true (by kernel_rfl)) h8 bel lt8) (trodAll_cons_mk (Below.trod laidOut (by kernel_rfl) (of_decide_eq_true (by kernel_rfl)) h9 bel lt9) (trodAll_cons_mk (Below.trod laidOut (by kernel_rfl) (of_decide_eq_true (by kernel_rfl)) k10 bel lt10) (trodAll_cons_mk (Below.trod laidOut (by kernel_rfl) (of_decide_eq_true (by kernel_rfl)) k11 bel lt11) trodAll_mk0)))))))))))), rfl, bel.frame _, fun h => by cases h⟩

theorem over : Rows.fnSpellMatchesLastEntryTableRow.holds Try.pinned (OpenSpec.ofChange Rows.fnSpellMatchesLastEntryTableSpec) :=
  OpenClaim.holds_of_wide 4 Try.f4 rfl rfl rfl rfl rfl rfl rfl ⟨rfl, rfl, rfl, rfl, rfl⟩ rfl rfl rfl rfl rfl (by kernel_rfl) Try.func4 (by kernel_rfl)
    (of_decide_eq_true (by kernel_rfl)) (by unfold Func.isWrapper; first | (rw [if_pos (by decide +kernel)]; kernel_rfl) | (rw [if_neg (by decide +kernel)]; exact ⟨rfl, rfl⟩))
    (fun os started H enc _ => lifted os started H enc)

/-- THE STATEMENT -/
theorem proved : Rows.FnSpellMatchesLastEntryTableSaid := over
end Go.Proofs.Qxb6604272a.fnSpellMatchesLastEntryTable
