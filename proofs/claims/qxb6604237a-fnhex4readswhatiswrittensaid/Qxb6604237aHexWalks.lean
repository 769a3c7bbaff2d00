import Derived.Test.Qxb6604237aChecked
import Derived.WalkKit
import Derived.Below
namespace Go.Proofs.Qxb6604237a.Hex
open Go.RowKit

/-- The hex digit of d. -/
def hexc (up : Bool) (d : Int) : Int := if d < 10 then 48 + d else if up then 55 + d else 87 + d

theorem ret_int {k : IntKind} {a b : Int} (h : a = b) : Ending.returned (.int k a) = .returned (.int k b) := by rw [h]

theorem up_at (d : Int) (h0 : 0 ≤ d) (h1 : d ≤ 15) (hh : d.toNat < (ByteArray.mk #[48, 49, 50, 51, 52, 53, 54, 55, 56, 57, 65, 66, 67, 68, 69, 70]).size) :
    (((ByteArray.mk #[48, 49, 50, 51, 52, 53, 54, 55, 56, 57, 65, 66, 67, 68, 69, 70])[d.toNat]'hh).toNat : Int) = hexc true d := by
  obtain ⟨n, rfl⟩ := Int.eq_ofNat_of_zero_le h0
  have hn : n ≤ 15 := by omega
  match n, hn with
  | 0, _ => rfl
  | 1, _ => rfl
  | 2, _ => rfl
  | 3, _ => rfl
  | 4, _ => rfl
  | 5, _ => rfl
  | 6, _ => rfl
  | 7, _ => rfl
  | 8, _ => rfl
  | 9, _ => rfl
  | 10, _ => rfl
  | 11, _ => rfl
  | 12, _ => rfl
  | 13, _ => rfl
  | 14, _ => rfl
  | 15, _ => rfl
  | _ + 16, h => omega

theorem lo_at (d : Int) (h0 : 0 ≤ d) (h1 : d ≤ 15) (hh : d.toNat < (ByteArray.mk #[48, 49, 50, 51, 52, 53, 54, 55, 56, 57, 97, 98, 99, 100, 101, 102]).size) :
    (((ByteArray.mk #[48, 49, 50, 51, 52, 53, 54, 55, 56, 57, 97, 98, 99, 100, 101, 102])[d.toNat]'hh).toNat : Int) = hexc false d := by
  obtain ⟨n, rfl⟩ := Int.eq_ofNat_of_zero_le h0
  have hn : n ≤ 15 := by omega
  match n, hn with
  | 0, _ => rfl
  | 1, _ => rfl
  | 2, _ => rfl
  | 3, _ => rfl
  | 4, _ => rfl
  | 5, _ => rfl
  | 6, _ => rfl
  | 7, _ => rfl
  | 8, _ => rfl
  | 9, _ => rfl
  | 10, _ => rfl
  | 11, _ => rfl
  | 12, _ => rfl
  | 13, _ => rfl
  | 14, _ => rfl
  | 15, _ => rfl
  | _ + 16, h => omega

set_option maxHeartbeats 400000 in
theorem hexchar_any (d : Int) (up : Bool) (w : World) (h0 : 0 ≤ d) (h1 : d ≤ 15) :
    Calls Try.prog 17 #[.int .i32 d, .bool up] w fun e w' => e = .returned (.int .u8 (hexc up d)) ∧ w' = w := by
  cases up
  · go_enter Try.func17, Try.ntmps17
    go_wp2
    go_ret
    exact ⟨ret_int (lo_at d h0 h1 _), rfl⟩
  · go_enter Try.func17, Try.ntmps17
    go_wp2
    go_ret
    exact ⟨ret_int (up_at d h0 h1 _), rfl⟩

/-- What hex4 makes of a digit's byte. -/
def hexv (c : Int) : Int := if c ≤ 57 then c - 48 else if c ≤ 70 then c - 55 else c - 87

def IsHex (c : Int) : Prop := (48 ≤ c ∧ c ≤ 57) ∨ (97 ≤ c ∧ c ≤ 102) ∨ (65 ≤ c ∧ c ≤ 70)

def val (cs : List Int) : Nat → Int
  | 0 => 0
  | k + 1 => val cs k * 16 + hexv (cs.getD k 0)

theorem hexv_bd {c : Int} (h : IsHex c) : 0 ≤ hexv c ∧ hexv c ≤ 15 := by
  unfold IsHex at h; unfold hexv; split
  · omega
  · split <;> omega

theorem hexc_is (up : Bool) (d : Int) (h0 : 0 ≤ d) (h1 : d ≤ 15) : IsHex (hexc up d) ∧ hexv (hexc up d) = d := by
  cases up <;> simp only [hexc, IsHex, hexv] <;> (repeat' split) <;> simp_all <;> omega

theorem pow_bd (cs : List Int) (h : ∀ k, k < 4 → IsHex (cs.getD k 0)) : ∀ k, k ≤ 4 → 0 ≤ val cs k ∧ val cs k < 16 ^ k
  | 0, _ => by simp [val]
  | k + 1, hk => by
    have ih := pow_bd cs h k (by omega)
    have hb := hexv_bd (h k (by omega))
    rw [show (16 : Int) ^ (k + 1) = 16 ^ k * 16 from Int.pow_succ 16 k]
    simp only [val]
    omega

theorem val_bd (cs : List Int) (h : ∀ k, k < 4 → IsHex (cs.getD k 0)) (k : Nat) (hk : k < 4) : 0 ≤ val cs k ∧ val cs k < 4096 := by
  have := pow_bd cs h k (by omega)
  match k, hk with
  | 0, _ => omega
  | 1, _ => omega
  | 2, _ => omega
  | 3, _ => omega

theorem or4 (v d : Int) (h0 : 0 ≤ v) (h1 : v < 4096) (h2 : 0 ≤ d) (h3 : d ≤ 15) : bits .or .i32 (v * 16) d = v * 16 + d :=
  bits_join .i32 16 (by decide) (fun n a b => by simp only [IntKind.wrap, IntKind.signed, IntKind.bits]; simp; omega) 4 (v * 16) d (by omega) (by omega) (by omega) h2 (by omega) (by omega)

theorem digit (c : Int) (h : 48 ≤ c ∧ c ≤ 57) : hexv c = c - 48 := by unfold hexv; rw [if_pos h.2]
theorem lower (c : Int) (h : 97 ≤ c ∧ c ≤ 102) : hexv c = c - 87 := by unfold hexv; rw [if_neg (by omega), if_neg (by omega)]
theorem upper (c : Int) (h : 65 ≤ c ∧ c ≤ 70) : hexv c = c - 55 := by unfold hexv; rw [if_neg (by omega), if_pos h.2]

set_option maxHeartbeats 400000 in
theorem hex4_any (b off len cap : Nat) (cs : List Int) (w : World) (hl : 5 ≤ len) (hlc : len ≤ cap) (hm : cap ≤ maxLen)
    (h0 : w.cell? ⟨b, off, none⟩ = some (.int .u8 117))
    (hc : ∀ k, k < 4 → w.cell? ⟨b, off + 1 + k, none⟩ = some (.int .u8 (cs.getD k 0)))
    (hx : ∀ k, k < 4 → IsHex (cs.getD k 0)) :
    Calls Try.prog 25 #[.slice (some ⟨b, off, none⟩) len cap] w fun e w' => e = .returned (.tuple #[.int .i32 (val cs 4), .bool true]) ∧ w' = w := by
  unfold maxLen at hm
  go_enter Try.func25, Try.ntmps25
  go_wp2
  go_loop [4, 19] (fun u i => ∃ k : Nat, k ≤ 4 ∧ i = .int .i64 k ∧ u = .int .i32 (val cs k)) (fun _ i => 4 - (intOf i).toNat)
  case atStart => exact ⟨0, Nat.zero_le _, rfl, rfl⟩
  case round =>
    obtain ⟨k, hk, rfl, rfl⟩ := hrel
    by_cases hlt : k < 4
    · have hck := hc k hlt
      have hvb := val_bd cs hx k hlt
      have hxk := hx k hlt
      have hn : val cs (k + 1) = val cs k * 16 + hexv (cs.getD k 0) := rfl
      obtain ⟨c, ec⟩ : ∃ c, c = cs.getD k 0 := ⟨_, rfl⟩
      obtain ⟨v, ev⟩ : ∃ v, v = val cs k := ⟨_, rfl⟩
      rw [← ec] at hck hxk hn
      rw [← ev] at hvb hn ⊢
      have HC : Hid (c = cs.getD k 0) := ec
      have HV : Hid (v = val cs k) := ev
      have HN : Hid (val cs (k + 1) = v * 16 + hexv c) := hn
      clear ec ev hn hc hx h0
      rcases hxk with hh | hh | hh
      all_goals
        go_wp2
        go_round
        case rel => exact ⟨k + 1, by omega, by go_num, congrArg (Value.int .i32) (by rw [HN.out, or4 v _ hvb.1 hvb.2 (by omega) (by omega)]; first | rw [digit c hh] | rw [lower c hh] | rw [upper c hh])⟩
        case measure => simp [intOf]; omega
    · go_wp2
      go_ret2
      obtain rfl : k = 4 := by omega
      exact ⟨rfl, rfl⟩

set_option maxHeartbeats 400000 in
theorem zzhex4_any (b off len cap : Nat) (cs : List Int) (w : World) (hl : 5 ≤ len) (hlc : len ≤ cap) (hm : cap ≤ maxLen)
    (h0 : w.cell? ⟨b, off, none⟩ = some (.int .u8 117))
    (hc : ∀ k, k < 4 → w.cell? ⟨b, off + 1 + k, none⟩ = some (.int .u8 (cs.getD k 0)))
    (hx : ∀ k, k < 4 → IsHex (cs.getD k 0)) :
    Calls Try.prog 14 #[.slice (some ⟨b, off, none⟩) len cap] w fun e w' => e = .returned (.tuple #[.int .i32 (val cs 4), .bool true]) ∧ w' = w := by
  have H := hex4_any b off len cap cs w hl hlc hm h0 hc hx
  clear h0 hc hx
  go_enter Try.func14, Try.ntmps14
  go_wp2_with fail
  refine H.mono ?_
  rintro e w' ⟨rfl, rfl⟩
  go_wp2
  go_ret2
  exact ⟨rfl, rfl⟩

theorem bytes_ok (a0 : Int) (a1 : Bool) (a2 : Option Addr) (len cap : Nat) (w : World) (h : len ≤ 1048576) :
    Calls Try.prog 16 #[.int .i32 a0, .bool a1, .slice a2 len cap] w fun e w' => e = .returned (.bool true) ∧ w' = w := by
  go_enter Try.func16, Try.ntmps16
  go_wp2
  go_ret
  exact ⟨rfl, rfl⟩

theorem bytes_no (a0 : Int) (a1 : Bool) (a2 : Option Addr) (len cap : Nat) (w : World) (h : 1048576 < len) :
    Calls Try.prog 16 #[.int .i32 a0, .bool a1, .slice a2 len cap] w fun e w' => e = .returned (.bool false) ∧ w' = w := by
  go_enter Try.func16, Try.ntmps16
  go_wp2
  go_ret
  exact ⟨rfl, rfl⟩

/-- The four digits of u. -/
def digs (up : Bool) (u : Int) : List Int := [hexc up (u / 4096 % 16), hexc up (u / 256 % 16), hexc up (u / 16 % 16), hexc up (u % 16)]

theorem digs_val (up : Bool) (u : Int) (h0 : 0 ≤ u) (h1 : u ≤ 65535) : val (digs up u) 4 = u := by
  have e1 := (hexc_is up (u / 4096 % 16) (by omega) (by omega)).2
  have e2 := (hexc_is up (u / 256 % 16) (by omega) (by omega)).2
  have e3 := (hexc_is up (u / 16 % 16) (by omega) (by omega)).2
  have e4 := (hexc_is up (u % 16) (by omega) (by omega)).2
  show (((0 * 16 + hexv (hexc up (u / 4096 % 16))) * 16 + hexv (hexc up (u / 256 % 16))) * 16 + hexv (hexc up (u / 16 % 16))) * 16 + hexv (hexc up (u % 16)) = u
  rw [e1, e2, e3, e4]
  omega

theorem digs_hex (up : Bool) (u : Int) (k : Nat) (hk : k < 4) : IsHex ((digs up u).getD k 0) := by
  match k, hk with
  | 0, _ => exact (hexc_is up (u / 4096 % 16) (by omega) (by omega)).1
  | 1, _ => exact (hexc_is up (u / 256 % 16) (by omega) (by omega)).1
  | 2, _ => exact (hexc_is up (u / 16 % 16) (by omega) (by omega)).1
  | 3, _ => exact (hexc_is up (u % 16) (by omega) (by omega)).1

end Go.Proofs.Qxb6604237a.Hex
