import Derived.Test.Qxb6604641aDcA
import Derived.Maps.OwnSet
import Derived.Deep.RegionHeld
import Derived.Deep.QuietTactic
import Derived.BigQuiet
namespace Go.Proofs.Qxb6604641a.Dc
open Go.RowKit
open Go.Maps (Keyed string_keyed)
open Go.WideMaps (keyOf_string_mk)

theorem law : Keyed Try.prog 9 := string_keyed Try.underlying9
/-- The map's elements as they are. -/
def RR (v : Value) : Option (DataW Value × List MemPlace) := some (.held v, [])
theorem zeroE (w : World) : (zeroValue 3).run Try.prog w = .ok (.int .i64 0) w := by kernel_rfl
def keyL (s : ByteArray) : Lit := .string s.data.toList

theorem data_inj {a b : ByteArray} (h : a.data.toList = b.data.toList) : a = b := by
  obtain ⟨⟨x⟩⟩ := a
  obtain ⟨⟨y⟩⟩ := b
  exact congrArg (fun l => ByteArray.mk (Array.mk l)) h
theorem str_eq (a : ByteArray) : (a.toList == [108, 101, 100, 103, 101, 114, 95, 100, 101, 97, 108, 115]) = true ↔ a = KW := by
  rw [beq_iff_eq, ByteArray.toList_eq]
  constructor
  · intro h; exact data_inj h
  · intro h; rw [h]

/-- What the map holds at the column's name. -/
def AtKW (D : DataW Value) (o : Option Int) : Prop :=
  match o with
  | none => Maps.has D (keyL KW) = false
  | some z => Maps.has D (keyL KW) = true ∧ D.atKey (keyL KW) (.held (.int .i64 0)) = .held (.int .i64 z)

def MapAt (wr : World) (M k : Nat) (o : Option Int) : Prop := ∃ D, wr.ownsMap Try.prog 9 RR M k D ∧ AtKW D o

theorem map_start (w : World) : MapAt (w.alloc (.map #[] 0)) w.heap.size 0 none := ⟨_, World.ownsMap_made w _ _ _, rfl⟩

theorem map_step {wr : World} {M k : Nat} {o : Option Int} (h : MapAt wr M k o) (hk : k < 65536) (s : ByteArray) (z : Int) (hs : s.size ≤ maxLen) :
    ∃ w1, (Instr.mapUpdate 26 (.map (some M)) (.string s) (.int .i64 z)).run Try.prog wr = .ok () w1 ∧ MapAt w1 M (k + 1) (if (s.toList == [108, 101, 100, 103, 101, 114, 95, 100, 101, 97, 108, 115]) = true then some z else o) ∧ wr.grownBy w1 (some M) := by
  obtain ⟨D, ho, hat⟩ := h
  obtain ⟨w1, hrun, ho1, hg⟩ := ho.update law Try.underlying26 (by unfold maxLen; omega) (keyOf_string_mk Try.underlying9 hs) (show RR (.int .i64 z) = some (.held (.int .i64 z), []) from rfl)
  refine ⟨w1, hrun, ⟨_, ho1, ?_⟩, hg⟩
  split
  · next h =>
    obtain rfl := (str_eq s).1 h
    exact ⟨Maps.has_put_same (k := keyL KW) ho.isMap trivial _, Maps.atKey_put_same (k := keyL KW) ho.isMap trivial _ _⟩
  · next h =>
    have hne : keyL KW ≠ keyL s := fun e => h ((str_eq s).2 (data_inj (Lit.string.inj e)).symm)
    unfold AtKW at hat ⊢
    cases o with
    | none => exact (Maps.has_put_other (k := keyL s) (k' := keyL KW) hne _).trans hat
    | some z' => exact ⟨(Maps.has_put_other (k := keyL s) (k' := keyL KW) hne _).trans hat.1, (Maps.atKey_put_other (k := keyL s) (k' := keyL KW) hne _ _).trans hat.2⟩

/-- 'v, ok := m["ledger_deals"]', in whatever world that keeps what was there. -/
def Look (w : World) (m : Option Nat) (o : Option Int) : Prop :=
  ∃ z, (∀ W, Below w.heap.size w W → (Instr.lookup 26 (.map m) (.string KW) true).run Try.prog W = .ok (.tuple #[.int .i64 z, .bool o.isSome]) W) ∧ (o.isSome = true → z = o.getD 0)

theorem Look.kept {w w' : World} {m : Option Nat} {o : Option Int} (h : Look w m o) (hb : Below w.heap.size w w') : Look w' m o := by
  obtain ⟨z, h1, h2⟩ := h
  exact ⟨z, fun W hW => h1 W (hb.trans (hW.mono hb.size)), h2⟩

theorem kw_size : KW.size ≤ maxLen := by decide
theorem look_none (w : World) : Look w none none := ⟨0, fun W _ => Maps.look_nil true law Try.underlying26 (zeroE W) (keyOf_string_mk Try.underlying9 kw_size), fun h => by cases h⟩

theorem map_look {wr : World} {M k : Nat} {o : Option Int} (h : MapAt wr M k o) : Look wr (some M) o := by
  obtain ⟨D, ho, hat⟩ := h
  have hone : ∀ W, Below wr.heap.size wr W → ∃ v, (Instr.lookup 26 (.map (some M)) (.string KW) true).run Try.prog W = .ok (.tuple #[v, .bool (Maps.has D (keyL KW))]) W ∧ (DataW.held v : DataW Value) = D.atKey (keyL KW) (.held (.int .i64 0)) := by
    intro W hW
    have hlt := ho.lt
    obtain ⟨es, clock, e1, e2⟩ := ho
    have hoW : W.ownsMap Try.prog 9 RR M k D := ⟨es, clock, (hW.block M hlt).trans e1, e2⟩
    obtain ⟨v', ps, hrun, hv⟩ := hoW.look_ok law Try.underlying26 (zeroE W) (show RR (.int .i64 0) = some (.held (.int .i64 0), []) from rfl) (keyOf_string_mk Try.underlying9 kw_size)
    exact ⟨v', hrun, (Prod.mk.inj (Option.some.inj hv)).1⟩
  unfold AtKW at hat
  cases o with
  | some z =>
    refine ⟨z, fun W hW => ?_, fun _ => rfl⟩
    obtain ⟨v, h1, h2⟩ := hone W hW
    rw [hat.2] at h2
    cases h2
    rw [hat.1] at h1
    exact h1
  | none =>
    refine ⟨0, fun W hW => ?_, fun h => by cases h⟩
    obtain ⟨v, h1, h2⟩ := hone W hW
    rw [Maps.atKey_of_not_has hat] at h2
    cases h2
    rw [hat] at h1
    exact h1

theorem drewN_below {w W : World} (h : Below w.heap.size w W) (n : Nat) : Below w.heap.size w (W.drewN n) := ⟨h.os, h.tape, h.output, h.size, h.block⟩

/-- The column that is found. -/
def col (o : Option Int) : Int := match o with | none => -1 | some z => z

set_option maxHeartbeats 1000000 in
theorem new_any (m : Option Nat) (o : Option Int) (width : Int) (w : World) (HL : Hid (Look w m o)) :
    Calls Try.prog 10 #[.map m, .int .i64 width] w fun e w' => e = .returned (.pointer (some ⟨w.heap.size, 0, none⟩)) ∧ w' = w.alloc (.cells #[.int .i64 (col o), .int .i64 width, .int .i64 0, .string { data := #[] }, .int .i64 0, .int .i64 0] 36) := by
  obtain ⟨z, hl, hz⟩ := HL.out
  clear HL
  cases o with
  | none =>
    have h := hl (w.alloc (.cells #[.int .i64 (-1), .int .i64 width, .int .i64 0, .string { data := #[] }, .int .i64 0, .int .i64 0] 36)) ((Below.refl _ _).alloc (Nat.le_refl _) _)
    clear hl hz
    go_enter Try.func10, Try.ntmps10
    go_wp2
    go_ret
    exact ⟨rfl, rfl⟩
  | some z' =>
    obtain rfl := hz rfl
    have h := hl (w.alloc (.cells #[.int .i64 (-1), .int .i64 width, .int .i64 0, .string { data := #[] }, .int .i64 0, .int .i64 0] 36)) ((Below.refl _ _).alloc (Nat.le_refl _) _)
    clear hl hz
    go_enter Try.func10, Try.ntmps10
    go_wp2
    go_ret
    exact ⟨rfl, rfl⟩

set_option maxHeartbeats 1000000 in
theorem zznew_any (m : Option Nat) (o : Option Int) (width : Int) (w : World) (HL : Hid (Look w m o)) :
    Calls Try.prog 8 #[.map m, .int .i64 width] w fun e w' => e = .returned (.tuple #[.int .i64 (col o), .int .i64 width, .int .i64 0, .string { data := #[] }, .int .i64 0, .int .i64 0]) ∧ Below w.heap.size w w' := by
  have N := new_any m o width w HL
  generalize col o = cv at N ⊢
  go_enter Try.func8, Try.ntmps8
  go_wp2_with fail
  refine N.mono ?_
  rintro e w' ⟨rfl, rfl⟩
  clear N HL
  go_wp2
  go_quiet (fail)
  go_wp2
  exact bodyPost_ret (v := .tuple #[.int .i64 cv, .int .i64 width, .int .i64 0, .string { data := #[] }, .int .i64 0, .int .i64 0]) (by simp [results, Try.results8, go_sem]) rfl ⟨rfl, drewN_below ((Below.refl _ _).alloc (Nat.le_refl _) _) _⟩

set_option maxHeartbeats 1000000 in
theorem header_any (a a' : Option Addr) (ns : List ByteArray) (zs : List Int) (n m c c' : Nat) (w : World) (HS : Hid (SegS w a ns)) (HI : Hid (SegI w a' zs)) (LS : Hid (n = ns.length)) (LI : Hid (m = zs.length)) (h1 : n ≤ 65536)
    (HM : Hid (∀ s ∈ ns, s.size ≤ maxLen)) (HN : Hid (a = none → ns = [] ∧ c = 0)) :
    Calls Try.prog 6 #[.slice a n c, .slice a' m c'] w fun e w' => ∃ mm, e = .returned (.map mm) ∧ Below w.heap.size w w' ∧ Look w' mm (lastI ns zs (min n m)) := by
  have q22 : ∀ (w : World) (a : Option Addr) (n c n' c' : Nat), (binOp .eql 22 (.slice a n c) (.slice none n' c')).run Try.prog w = .ok (.bool a.isNone) w := fun w a n c n' c' => Lib.run_eql_slice_nil w _ _ a n c n' c' Try.underlying22
  have hmm := @run_makeMap Try.prog
  cases a with
  | none =>
    obtain ⟨rfl, rfl⟩ := HN.out rfl
    obtain rfl := LS.out
    go_enter Try.func6, Try.ntmps6
    go_wp2
    go_ret
    exact ⟨none, rfl, Below.refl _ _, look_none _⟩
  | some x =>
    clear HN
    have hm1 : min n m ≤ n := Nat.min_le_left _ _
    have hm2 : min n m ≤ m := Nat.min_le_right _ _
    have HMIN : Hid (∀ w, Calls Try.prog 9 #[.int .i64 n, .int .i64 m] w fun e w' => e = .returned (.int .i64 ((min n m : Nat) : Int)) ∧ w' = w) := min_any n m
    generalize min n m = q at hm1 hm2 HMIN ⊢
    go_enter Try.func6, Try.ntmps6
    go_wp2_with fail
    refine (HMIN.out _).mono ?_
    rintro e w' ⟨rfl, hw⟩
    obtain rfl := hw.symm
    clear hw HMIN
    go_wp2
    go_loopw [7] (fun i wr => ∃ k : Nat, k ≤ q ∧ i = .int .i64 k ∧ Hid (MapAt wr w.heap.size k (lastI ns zs k)) ∧ Hid (Below w.heap.size w wr)) (fun i _ => q - (intOf i).toNat)
    case atStart => exact ⟨0, by omega, rfl, map_start w, (Below.refl _ _).alloc (Nat.le_refl _) _⟩
    case round =>
      obtain ⟨k, hk, rfl, HMA, HB⟩ := hrel
      by_cases hlt : k < q
      · have hk1 : k < ns.length := by have := LS.out; omega
        have hk2 : k < zs.length := by have := LI.out; omega
        obtain ⟨b, off, e, hc⟩ := HS.out k hk1
        obtain rfl := Option.some.inj e
        obtain ⟨b', off', rfl, hc'⟩ := HI.out k hk2
        have hsz : (ns.getD k ByteArray.empty).size ≤ maxLen := HM.out _ (by rw [List.getD_eq_getElem?_getD, List.getElem?_eq_getElem hk1]; exact List.getElem_mem hk1)
        obtain ⟨w1, hrun, hM1, hg1⟩ := map_step (wr := wr.drew) HMA.out (by omega) (ns.getD k ByteArray.empty) (zs.getD k 0) hsz
        have HB1 : Hid (Below w.heap.size w w1) := (HB.out.drew).grown hg1 HB.out.size (fun k h => by cases h; exact Nat.le_refl _)
        have HM1 : Hid (MapAt w1 w.heap.size (k + 1) (lastI ns zs (k + 1))) := hM1
        have d1 := below_cell HB.out (hc k hk1)
        have d2 := below_cell HB.out (hc' k hk2)
        have e1 := below_cell HB1.out (hc k hk1)
        have e2 := below_cell HB1.out (hc' k hk2)
        have hn : k < n := by omega
        have hmm' : k < m := by omega
        clear hc hc' hk1 hk2 hM1 hg1 hsz e
        generalize ns.getD k ByteArray.empty = s1 at hrun d1 e1
        generalize zs.getD k 0 = z2 at hrun d2 e2
        go_wp2
        go_region_held (fun w' => w'.cell? ⟨b, off + k, none⟩ = some (.string s1) ∧ w'.cell? ⟨b', off' + k, none⟩ = some (.int .i64 z2)) (go_keep) (fail)
        go_wp2
        go_roundw
        case rel => exact ⟨k + 1, by omega, by go_num, HM1, HB1⟩
        case measure => simp [intOf]; omega
      · obtain rfl : k = q := by omega
        go_wp2
        go_ret
        exact ⟨some w.heap.size, rfl, HB.out, map_look HMA.out⟩
end Go.Proofs.Qxb6604641a.Dc
