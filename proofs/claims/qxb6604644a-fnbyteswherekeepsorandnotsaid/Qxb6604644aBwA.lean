import Derived.Test.Qxb6604644aChecked
import Derived.WalkKit
import Derived.Below
namespace Go.Proofs.Qxb6604644a.Bw
open Go.RowKit

set_option maxHeartbeats 1000000 in
theorem pred_any (T : Nat) (c : Nat) (b : Bool) (w : World) (hc : c < 256) (h : w.cell? ⟨T, c, none⟩ = some (.bool b)) :
    Calls Try.prog 14 #[.int .u8 c, .pointer (some ⟨T, 0, none⟩)] w fun e w' => e = .returned (.bool b) ∧ w' = w := by
  go_enter Try.func14, Try.ntmps14
  go_wp2
  go_ret
  exact ⟨rfl, rfl⟩

theorem wrap_u64 (n : Int) : IntKind.u64.wrap n = n % 18446744073709551616 := by simp [IntKind.wrap, IntKind.bits, IntKind.signed]

theorem or_bit (x k : Nat) (hx : x < 18446744073709551616) (hk : k < 64) : bits .or .u64 (x : Int) (IntKind.u64.wrap (2 ^ k)) = ((x ||| 2 ^ k : Nat) : Int) := by
  have h2 : 2 ^ k < 18446744073709551616 := by
    calc 2 ^ k < 2 ^ 64 := Nat.pow_lt_pow_right (by decide) hk
      _ = 18446744073709551616 := by decide
  have e : IntKind.u64.wrap (2 ^ k) = ((2 ^ k : Nat) : Int) := by
    rw [wrap_u64, show (2 : Int) ^ k = ((2 ^ k : Nat) : Int) from (Int.natCast_pow 2 k).symm]
    generalize 2 ^ k = y at h2
    omega
  rw [e, bits_or_u64_nat x (2 ^ k) hx h2]

set_option maxHeartbeats 1000000 in
theorem add_any (B : Nat) (c x : Nat) (w : World) (hc : c < 256) (HX : Hid (x < 18446744073709551616)) (h : w.cell? ⟨B, c / 64, none⟩ = some (.int .u64 x)) (hf : w.frozen? ⟨B, c / 64, none⟩ = false) :
    Calls Try.prog 16 #[.pointer (some ⟨B, 0, none⟩), .int .u8 c] w fun e w' => e = .returned (.tuple #[]) ∧ w' = (w.setCell ⟨B, c / 64, none⟩ (.int .u64 ((x ||| 2 ^ (c % 64) : Nat) : Int))).drew := by
  go_enter Try.func16, Try.ntmps16
  go_wp2
  go_region
  go_wp2
  go_end0
  exact ⟨rfl, by rw [or_bit x (c % 64) HX.out (by omega)]⟩

/-- Word q of the set of the bytes below k for which t says true. -/
def PW (x q : Nat) (t : Nat → Bool) (k : Nat) : Prop := x < 18446744073709551616 ∧ ∀ j, j < 64 → x.testBit j = (decide (64 * q + j < k) && t (64 * q + j))

theorem pw_zero (q : Nat) (t : Nat → Bool) : PW 0 q t 0 := ⟨by decide, fun j _ => by simp⟩

theorem pw_skip {x q : Nat} {t : Nat → Bool} {k : Nat} (h : PW x q t k) (hk : t k = false ∨ k / 64 ≠ q) : PW x q t (k + 1) := by
  refine ⟨h.1, fun j hj => ?_⟩
  rw [h.2 j hj]
  by_cases e : 64 * q + j = k
  · rcases hk with hk | hk
    · rw [e, hk]; simp
    · exact absurd (by omega) hk
  · congr 1
    rw [decide_eq_decide]
    omega

theorem pw_add {x q : Nat} {t : Nat → Bool} {k : Nat} (h : PW x q t k) (hk : t k = true) (hq : k / 64 = q) : PW (x ||| 2 ^ (k % 64)) q t (k + 1) := by
  have h2 : 2 ^ (k % 64) < 18446744073709551616 := by
    calc 2 ^ (k % 64) < 2 ^ 64 := Nat.pow_lt_pow_right (by decide) (Nat.mod_lt _ (by decide))
      _ = 18446744073709551616 := by decide
  refine ⟨Nat.or_lt_two_pow (n := 64) h.1 h2, fun j hj => ?_⟩
  rw [Nat.testBit_or, h.2 j hj, Nat.testBit_two_pow]
  by_cases e : 64 * q + j = k
  · have e2 : k % 64 = j := by omega
    rw [e, hk]
    simp [e2]
  · have e2 : ¬ k % 64 = j := by omega
    simp only [e2, decide_false, Bool.or_false]
    congr 1
    rw [decide_eq_decide]
    omega
end Go.Proofs.Qxb6604644a.Bw
