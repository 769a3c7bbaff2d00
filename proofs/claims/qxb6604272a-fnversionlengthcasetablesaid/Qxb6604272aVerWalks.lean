import Derived.Test.Qxb6604272aChecked
import Derived.WalkKit
import Derived.Below
namespace Go.Proofs.Qxb6604272a.Ver
open Go.RowKit

theorem ret_int {k : IntKind} {a b : Int} (h : a = b) : Ending.returned (.int k a) = .returned (.int k b) := by rw [h]
theorem ret_bool {a b : Bool} (h : a = b) : Ending.returned (.bool a) = .returned (.bool b) := by rw [h]

def dig (c : Int) : Bool := decide (48 ≤ c ∧ c ≤ 57)
def spc (c : Int) : Bool := decide (c = 32 ∨ c = 9 ∨ c = 10 ∨ c = 13 ∨ c = 12 ∨ c = 11)

set_option maxHeartbeats 400000 in
theorem isdigit_any (c : Int) (w : World) : Calls Try.prog 23 #[.int .u8 c] w fun e w' => e = .returned (.bool (dig c)) ∧ w' = w := by
  go_enter Try.func23, Try.ntmps23
  go_wp2
  all_goals
    go_ret
    exact ⟨ret_bool (by rw [Bool.eq_iff_iff]; simp [dig]; omega), rfl⟩

set_option maxHeartbeats 400000 in
theorem zzdigit_any (c : Int) (w : World) : Calls Try.prog 17 #[.int .u8 c] w fun e w' => e = .returned (.bool (dig c)) ∧ w' = w := by
  go_enter Try.func17, Try.ntmps17
  go_wp2
  all_goals
    go_ret
    exact ⟨ret_bool (by rw [Bool.eq_iff_iff]; simp [dig]; omega), rfl⟩

theorem spc_last (c : Int) : (c == 32 || c == 9 || c == 10 || c == 13 || c == 12 || c == 11) = spc c := by
  rw [Bool.eq_iff_iff]; simp [spc]; omega

set_option maxHeartbeats 400000 in
theorem isspace_any (c : Int) (w : World) : Calls Try.prog 24 #[.int .u8 c] w fun e w' => e = .returned (.bool (spc c)) ∧ w' = w := by
  go_enter Try.func24, Try.ntmps24
  go_wp2
  all_goals
    go_ret
    exact ⟨ret_bool (by first | exact spc_last c | (rw [Bool.eq_iff_iff]; simp [spc]; omega)), rfl⟩

set_option maxHeartbeats 400000 in
theorem zzspace_any (c : Int) (w : World) : Calls Try.prog 18 #[.int .u8 c] w fun e w' => e = .returned (.bool (spc c)) ∧ w' = w := by
  go_enter Try.func18, Try.ntmps18
  go_wp2
  all_goals
    go_ret
    exact ⟨ret_bool (by first | exact spc_last c | (rw [Bool.eq_iff_iff]; simp [spc]; omega)), rfl⟩

theorem bytes_ok (s : ByteArray) (w : World) (h : s.size ≤ 1048576) : Calls Try.prog 5 #[.string s] w fun e w' => e = .returned (.bool true) ∧ w' = w := by
  go_enter Try.func5, Try.ntmps5
  go_wp2
  go_ret
  exact ⟨rfl, rfl⟩

theorem bytes_no (s : ByteArray) (w : World) (h : 1048576 < s.size) : Calls Try.prog 5 #[.string s] w fun e w' => e = .returned (.bool false) ∧ w' = w := by
  go_enter Try.func5, Try.ntmps5
  go_wp2
  go_ret
  exact ⟨rfl, rfl⟩

/-- The byte at k, as a number; 0 behind the end. -/
def bt (s : ByteArray) (k : Nat) : Int := if h : k < s.size then ((s[k]'h).toNat : Int) else 0
theorem bt_at (s : ByteArray) (k : Nat) (h : k < s.size) : ((s[k]'h).toNat : Int) = bt s k := by simp [bt, h]

/-- The documented rule. -/
def ver (s : ByteArray) : Int :=
  if 5 ≤ s.size ∧ (List.range 5).all (fun i => dig (bt s i)) = true then (if 7 ≤ s.size ∧ dig (bt s 5) = true ∧ spc (bt s 6) = true then 6 else 5) else 0

theorem five_iff (s : ByteArray) : (List.range 5).all (fun i => dig (bt s i)) = true ↔ ∀ i, i < 5 → dig (bt s i) = true := by
  rw [List.all_eq_true]; exact ⟨fun h i hi => h i (List.mem_range.2 hi), fun h i hi => h i (List.mem_range.1 hi)⟩
theorem ver_short (s : ByteArray) (h : s.size < 5) : ver s = 0 := by unfold ver; rw [if_neg (by omega)]
theorem ver_not (s : ByteArray) (k : Nat) (h : k < 5) (hd : dig (bt s k) = false) : ver s = 0 := by
  unfold ver; rw [if_neg]; rintro ⟨_, h2⟩; have := (five_iff s).1 h2 k h; rw [hd] at this; cases this
theorem ver_six (s : ByteArray) (h : 7 ≤ s.size) (ha : ∀ i, i < 6 → dig (bt s i) = true) (hs : spc (bt s 6) = true) : ver s = 6 := by
  unfold ver; rw [if_pos ⟨by omega, (five_iff s).2 fun i hi => ha i (by omega)⟩, if_pos ⟨h, ha 5 (by omega), hs⟩]
theorem ver_five (s : ByteArray) (h : 5 ≤ s.size) (ha : ∀ i, i < 5 → dig (bt s i) = true) (hs : s.size < 7 ∨ dig (bt s 5) = false ∨ spc (bt s 6) = false) : ver s = 5 := by
  unfold ver; rw [if_pos ⟨h, (five_iff s).2 ha⟩, if_neg]
  rintro ⟨h1, h2, h3⟩
  rcases hs with hs | hs | hs
  · omega
  · rw [hs] at h2; cases h2
  · rw [hs] at h3; cases h3

end Go.Proofs.Qxb6604272a.Ver
