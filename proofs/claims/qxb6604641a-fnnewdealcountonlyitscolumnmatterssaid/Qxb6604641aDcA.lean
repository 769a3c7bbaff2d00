import Derived.Test.Qxb6604641aChecked
import Derived.WalkKit
import Derived.Below
import Derived.WalkSpells
import Derived.Lib.SliceRun
namespace Go.Proofs.Qxb6604641a.Dc
open Go.RowKit

/-- The column's name. -/
abbrev KW : ByteArray := { data := #[108, 101, 100, 103, 101, 114, 95, 100, 101, 97, 108, 115] }

def SegS (w : World) (a : Option Addr) (ss : List ByteArray) : Prop :=
  ∀ k, k < ss.length → ∃ b off, a = some ⟨b, off, none⟩ ∧ ∀ i, i < ss.length → w.cell? ⟨b, off + i, none⟩ = some (.string (ss.getD i ByteArray.empty))
def SegI (w : World) (a : Option Addr) (zs : List Int) : Prop :=
  ∀ k, k < zs.length → ∃ b off, a = some ⟨b, off, none⟩ ∧ ∀ i, i < zs.length → w.cell? ⟨b, off + i, none⟩ = some (.int .i64 (zs.getD i 0))

theorem below_cell {W w1 : World} {a : Addr} {v : Value} (hb : Below W.heap.size W w1) (h : W.cell? a = some v) : w1.cell? a = some v := (hb.cell (block_lt_of_cell h)).trans h
theorem SegS.kept {w w' : World} {a : Option Addr} {ss : List ByteArray} (h : SegS w a ss) (hb : Below w.heap.size w w') : SegS w' a ss := by
  intro k hk
  obtain ⟨b, off, e, hc⟩ := h k hk
  exact ⟨b, off, e, fun i hi => below_cell hb (hc i hi)⟩
theorem SegI.kept {w w' : World} {a : Option Addr} {zs : List Int} (h : SegI w a zs) (hb : Below w.heap.size w w') : SegI w' a zs := by
  intro k hk
  obtain ⟨b, off, e, hc⟩ := h k hk
  exact ⟨b, off, e, fun i hi => below_cell hb (hc i hi)⟩

/-- Some bool is handed back. -/
def RetB (e : Ending) : Prop := ∃ b, e = .returned (.bool b)

set_option maxHeartbeats 1000000 in
theorem bytes_any (a a' : Option Addr) (ss : List ByteArray) (n m c c' : Nat) (width : Int) (w : World) (HS : Hid (SegS w a ss)) (LS : Hid (n = ss.length)) :
    Calls Try.prog 4 #[.slice a n c, .slice a' m c', .int .i64 width] w fun e w' => RetB e ∧ w' = w := by
  go_enter Try.func4, Try.ntmps4
  go_wp2
  all_goals first | (go_ret; exact ⟨⟨_, rfl⟩, rfl⟩) | skip
  go_loop [7, 8] (fun t i => ∃ (k : Nat) (q : Int), k ≤ n ∧ 0 ≤ q ∧ q ≤ 1048576 ∧ i = .int .i64 k ∧ t = .int .i64 q) (fun _ i => n - (intOf i).toNat)
  case atStart => exact ⟨0, _, by omega, by omega, by omega, rfl, rfl⟩
  case round =>
    obtain ⟨k, q, hk, hq0, hq1, rfl, rfl⟩ := hrel
    by_cases hlt : k < n
    · obtain ⟨b, off, rfl, hc⟩ := HS.out k (LS.out ▸ hlt)
      have hck := hc k (LS.out ▸ hlt)
      clear hc
      generalize ss.getD k ByteArray.empty = s at hck
      go_wp2
      all_goals first | (go_ret; exact ⟨⟨_, rfl⟩, rfl⟩) | skip
      go_round
      case rel => exact ⟨k + 1, _, by omega, by omega, by omega, by go_num, rfl⟩
      case measure => simp [intOf]; omega
    · go_wp2
      all_goals (go_ret; exact ⟨⟨_, rfl⟩, rfl⟩)

/-- 'too big' is answered, or the lengths are small. -/
def Big (e : Ending) (n m : Nat) : Prop := e = .returned (.bool true) ∨ (e = .returned (.bool false) ∧ n ≤ 65536 ∧ m ≤ 65536)

set_option maxHeartbeats 1000000 in
theorem big_any (a a' : Option Addr) (ss : List ByteArray) (n m c c' : Nat) (w : World) (HS : Hid (SegS w a ss)) (LS : Hid (n = ss.length)) :
    Calls Try.prog 5 #[.slice a n c, .slice a' m c'] w fun e w' => Big e n m ∧ w' = w := by
  by_cases h1 : n ≤ 65536
  · by_cases h2 : m ≤ 65536
    · go_enter Try.func5, Try.ntmps5
      go_wp2
      all_goals first | (go_ret; exact ⟨.inl rfl, rfl⟩) | skip
      go_loop [5, 6] (fun t i => ∃ (k : Nat) (q : Int), k ≤ n ∧ i = .int .i64 k ∧ t = .int .i64 q) (fun _ i => n - (intOf i).toNat)
      case atStart => exact ⟨0, _, by omega, rfl, rfl⟩
      case round =>
        obtain ⟨k, q, hk, rfl, rfl⟩ := hrel
        by_cases hlt : k < n
        · obtain ⟨b, off, rfl, hc⟩ := HS.out k (LS.out ▸ hlt)
          have hck := hc k (LS.out ▸ hlt)
          clear hc
          generalize ss.getD k ByteArray.empty = s at hck
          go_wp2
          · go_ret
            exact ⟨.inl rfl, rfl⟩
          · go_round
            case rel => exact ⟨k + 1, _, by omega, by go_num, rfl⟩
            case measure => simp [intOf]; omega
        · go_wp2
          go_ret
          exact ⟨.inr ⟨rfl, h1, h2⟩, rfl⟩
    · go_enter Try.func5, Try.ntmps5
      go_wp2
      go_ret
      exact ⟨.inl rfl, rfl⟩
  · go_enter Try.func5, Try.ntmps5
    go_wp2
    go_ret
    exact ⟨.inl rfl, rfl⟩

theorem min_any (n m : Nat) (w : World) : Calls Try.prog 9 #[.int .i64 n, .int .i64 m] w fun e w' => e = .returned (.int .i64 ((min n m : Nat) : Int)) ∧ w' = w := by
  by_cases h : n < m
  · rw [Nat.min_eq_left (by omega)]
    go_enter Try.func9, Try.ntmps9
    go_wp2
    go_ret
    exact ⟨rfl, rfl⟩
  · rw [Nat.min_eq_right (by omega)]
    go_enter Try.func9, Try.ntmps9
    go_wp2
    go_ret
    exact ⟨rfl, rfl⟩

/-- The number at the last place that bears the column's name, of the first k pairs. -/
def lastI (ns : List ByteArray) (zs : List Int) : Nat → Option Int
  | 0 => none
  | k + 1 => if ((ns.getD k ByteArray.empty).toList == [108, 101, 100, 103, 101, 114, 95, 100, 101, 97, 108, 115]) = true then some (zs.getD k 0) else lastI ns zs k

set_option maxHeartbeats 1000000 in
theorem last_any (a a' : Option Addr) (ns : List ByteArray) (zs : List Int) (n m c c' : Nat) (w : World) (HS : Hid (SegS w a ns)) (HI : Hid (SegI w a' zs)) (LS : Hid (n = ns.length)) (LI : Hid (m = zs.length)) (h1 : n ≤ 65536) :
    Calls Try.prog 7 #[.slice a n c, .slice a' m c'] w fun e w' => e = .returned (.tuple #[.bool (lastI ns zs (min n m)).isSome, .int .i64 ((lastI ns zs (min n m)).getD 0)]) ∧ w' = w := by
  have hm1 : min n m ≤ n := Nat.min_le_left _ _
  have hm2 : min n m ≤ m := Nat.min_le_right _ _
  have HMIN : Hid (∀ w, Calls Try.prog 9 #[.int .i64 n, .int .i64 m] w fun e w' => e = .returned (.int .i64 ((min n m : Nat) : Int)) ∧ w' = w) := min_any n m
  generalize min n m = q at hm1 hm2 HMIN ⊢
  go_enter Try.func7, Try.ntmps7
  go_wp2_with fail
  refine (HMIN.out _).mono ?_
  rintro e w' ⟨rfl, hw⟩
  obtain rfl := hw.symm
  clear hw HMIN
  go_wp2
  go_loop [6, 7, 9] (fun f z i => ∃ k : Nat, k ≤ q ∧ i = .int .i64 k ∧ f = .bool (lastI ns zs k).isSome ∧ z = .int .i64 ((lastI ns zs k).getD 0)) (fun _ _ i => q - (intOf i).toNat)
  case atStart => exact ⟨0, by omega, rfl, rfl, rfl⟩
  case round =>
    obtain ⟨k, hk, rfl, rfl, rfl⟩ := hrel
    by_cases hlt : k < q
    · have hk1 : k < ns.length := by have := LS.out; omega
      have hk2 : k < zs.length := by have := LI.out; omega
      obtain ⟨b, off, rfl, hc⟩ := HS.out k hk1
      obtain ⟨b', off', rfl, hc'⟩ := HI.out k hk2
      have hck := hc k hk1
      have hck' := hc' k hk2
      have hn : k < n := by omega
      have hmm : k < m := by omega
      have HL : Hid (lastI ns zs (k + 1) = if ((ns.getD k ByteArray.empty).toList == [108, 101, 100, 103, 101, 114, 95, 100, 101, 97, 108, 115]) = true then some (zs.getD k 0) else lastI ns zs k) := rfl
      clear hc hc' hk1 hk2
      generalize ns.getD k ByteArray.empty = s at hck HL
      generalize zs.getD k 0 = z at hck' HL
      generalize lastI ns zs k = o at HL ⊢
      go_wp2
      · have he : (s.toList == [108, 101, 100, 103, 101, 114, 95, 100, 101, 97, 108, 115]) = true := by assumption
        go_round
        case rel => exact ⟨k + 1, by omega, by go_num, by rw [HL.out, if_pos he]; rfl, by rw [HL.out, if_pos he]; rfl⟩
        case measure => simp [intOf]; omega
      · have he : (s.toList == [108, 101, 100, 103, 101, 114, 95, 100, 101, 97, 108, 115]) = false := by assumption
        go_round
        case rel => exact ⟨k + 1, by omega, by go_num, by rw [HL.out, he]; rfl, by rw [HL.out, he]; rfl⟩
        case measure => simp [intOf]; omega
    · obtain rfl : k = q := by omega
      go_wp2
      go_ret2
      exact ⟨rfl, rfl⟩
end Go.Proofs.Qxb6604641a.Dc
