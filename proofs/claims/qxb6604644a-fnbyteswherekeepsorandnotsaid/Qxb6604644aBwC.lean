import Derived.Test.Qxb6604644aBwB
import Derived.Deep.MidRow
namespace Go.Proofs.Qxb6604644a.Bw
open Go.RowKit

theorem info22 : (Try.prog.info? 22).map (·.size) = some 256 := by kernel_rfl

theorem range_of {W : World} {b : Nat} {cs : Array Value} {t : Nat → Bool} (h : Tab cs t) (hc : ∀ i, i < 256 → W.cell? ⟨b, i, none⟩ = some (.bool (t i))) : W.rangeAt b 0 cs.toList := by
  intro j v hv
  rw [Array.getElem?_toList] at hv
  have hj : j < 256 := by
    have := (Array.getElem?_eq_some_iff.1 hv).1
    rw [h.1] at this; exact this
  rw [h.2 j hj] at hv
  rw [Nat.zero_add, hc j hj]; exact hv
theorem tab_len {cs : Array Value} {t : Nat → Bool} (h : Tab cs t) : (Try.prog.info? 22).map (·.size) = some cs.toList.length := by
  rw [Array.length_toList, h.1]; exact info22

theorem words_new (W : World) (t : Nat → Bool) (x0 x1 x2 x3 : Nat) (h : Words t x0 x1 x2 x3) (ty : TypeId) (q : Nat) (hq : q < 4) :
    ∃ x : Nat, (W.alloc (.cells #[.int .u64 x0, .int .u64 x1, .int .u64 x2, .int .u64 x3] ty)).cell? ⟨W.heap.size, q, none⟩ = some (.int .u64 x) ∧ PW x q t 256 := by
  match q, hq with
  | 0, _ => exact ⟨x0, by simp, h.1⟩
  | 1, _ => exact ⟨x1, by simp, h.2.1⟩
  | 2, _ => exact ⟨x2, by simp, h.2.2.1⟩
  | 3, _ => exact ⟨x3, by simp, h.2.2.2⟩

theorem bit_eq {x k : Nat} {t : Nat → Bool} (h : PW x (k / 64) t 256) (hk : k < 256) : (bits .and .u64 ((x : Int) / 2 ^ (k % 64)) 1 == 1) = t k := by
  have e1 : ((x : Int) / 2 ^ (k % 64)) = ((x / 2 ^ (k % 64) : Nat) : Int) := by
    rw [show (2 : Int) ^ (k % 64) = ((2 ^ (k % 64) : Nat) : Int) from (Int.natCast_pow 2 (k % 64)).symm]; exact (Int.natCast_ediv _ _).symm
  have hd : x / 2 ^ (k % 64) < 18446744073709551616 := Nat.lt_of_le_of_lt (Nat.div_le_self _ _) h.1
  have e2 := bits_and_u64_nat (x / 2 ^ (k % 64)) 1 hd (by decide)
  have e3 := h.2 (k % 64) (Nat.mod_lt _ (by decide))
  rw [show 64 * (k / 64) + k % 64 = k by omega, Nat.testBit_eq_decide_div_mod_eq] at e3
  rw [e1, show (1 : Int) = ((1 : Nat) : Int) from rfl, e2, Nat.and_one_is_mod]
  simp only [hk, decide_true, Bool.true_and] at e3
  rw [← e3, Bool.eq_iff_iff]
  simp
  omega

set_option maxRecDepth 100000 in
set_option maxHeartbeats 1000000 in
theorem members_any (cs : Array Value) (t : Nat → Bool) (w : World) (HT : Hid (Tab cs t)) :
    Calls Try.prog 3 #[.agg cs] w fun e w' => e = .returned (.bool true) ∧ Below w.heap.size w w' := by
  have HC : Hid (∀ i, i < 256 → (w.alloc (.cells cs 22)).cell? ⟨w.heap.size, i, none⟩ = some (.bool (t i))) := fun i hi => tab_new HT.out i hi
  go_enter Try.func3, Try.ntmps3
  go_wp2_with (first | (refine wpList_load_mid rfl 22 (.tmp 1) rfl w.heap.size 0 rfl cs.toList _ (range_of HT.out HC.out) Try.underlying22 rfl (tab_len HT.out) ?_; rw [Array.toArray_toList]))
  have HA : Hid (Below w.heap.size w (w.alloc (.cells cs 22))) := (Below.refl _ _).alloc (Nat.le_refl _) _
  generalize (w.alloc (.cells cs 22)) = W at HC HA ⊢
  refine (zz_any cs t W HT).mono ?_
  rintro e W1 ⟨x0, x1, x2, x3, rfl, hb, hw⟩
  have HC1 : Hid (∀ i, i < 256 → W1.cell? ⟨w.heap.size, i, none⟩ = some (.bool (t i))) := fun i hi => below_cell hb (HC.out i hi)
  have HB1 : Hid (Below w.heap.size w W1) := below_up HA.out hb
  have HW : Hid (Words t x0 x1 x2 x3) := hw
  clear hb hw HC HA HT
  go_wp2
  have hA : Below W1.heap.size W1 (W1.alloc (.cells #[.int .u64 x0, .int .u64 x1, .int .u64 x2, .int .u64 x3] 24)) := (Below.refl _ _).alloc (Nat.le_refl _) _
  have HC2 : Hid (∀ i, i < 256 → (W1.alloc (.cells #[.int .u64 x0, .int .u64 x1, .int .u64 x2, .int .u64 x3] 24)).cell? ⟨w.heap.size, i, none⟩ = some (.bool (t i))) := fun i hi => below_cell hA (HC1.out i hi)
  have HX : Hid (∀ q, q < 4 → ∃ x : Nat, (W1.alloc (.cells #[.int .u64 x0, .int .u64 x1, .int .u64 x2, .int .u64 x3] 24)).cell? ⟨W1.heap.size, q, none⟩ = some (.int .u64 x) ∧ PW x q t 256) := fun q hq => words_new W1 t x0 x1 x2 x3 HW.out 24 q hq
  have HB2 : Hid (Below w.heap.size w (W1.alloc (.cells #[.int .u64 x0, .int .u64 x1, .int .u64 x2, .int .u64 x3] 24))) := below_up HB1.out hA
  clear hA HC1 HB1 HW
  generalize (W1.alloc (.cells #[.int .u64 x0, .int .u64 x1, .int .u64 x2, .int .u64 x3] 24)) = W2 at HC2 HX HB2 ⊢
  go_loop [4] (fun i => ∃ k : Nat, k ≤ 256 ∧ i = .int .i64 k) (fun i => 256 - (intOf i).toNat)
  case atStart => exact ⟨0, by omega, rfl⟩
  case round =>
    obtain ⟨k, hk, rfl⟩ := hrel
    by_cases hlt : k < 256
    · have hck := HC2.out k hlt
      obtain ⟨x, hx, hp⟩ := HX.out (k / 64) (by omega)
      have hbit := bit_eq hp hlt
      clear hp
      go_wp2
      go_round
      case rel => exact ⟨k + 1, by omega, by go_num⟩
      case measure => simp [intOf]; omega
    · go_wp2
      go_ret
      exact ⟨rfl, HB2.out⟩
end Go.Proofs.Qxb6604644a.Bw
