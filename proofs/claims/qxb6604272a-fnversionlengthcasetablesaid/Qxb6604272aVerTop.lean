import Derived.Test.Qxb6604272aVerWalks
namespace Go.Proofs.Qxb6604272a.Ver
open Go.RowKit

theorem step {s : ByteArray} {k : Nat} (HD : Hid (∀ i, i < k → dig (bt s i) = true)) (hd : dig (bt s k) = true) : Hid (∀ i, i < k + 1 → dig (bt s i) = true) := by
  intro i hi
  by_cases e : i = k
  · subst e; exact hd
  · exact HD.out i (by omega)

set_option maxHeartbeats 1000000 in
theorem version_any (s : ByteArray) (w : World) (hs : s.size ≤ 1048576) : Calls Try.prog 16 #[.string s] w fun e w' => e = .returned (.int .i64 (ver s)) ∧ w' = w := by
  go_enter Try.func16, Try.ntmps16
  go_wp2
  go_loop [3] (fun n => ∃ k : Nat, k ≤ 6 ∧ k ≤ s.size ∧ n = .int .i64 k ∧ Hid (∀ i, i < k → dig (bt s i) = true)) (fun n => 6 - (intOf n).toNat)
  case atStart => exact ⟨0, by omega, by omega, rfl, fun i h => by omega⟩
  case round =>
    obtain ⟨k, hk6, hks, rfl, HD⟩ := hrel
    by_cases hlt : k < s.size
    · by_cases h6 : k < 6
      · have hb := bt_at s k hlt
        cases hd : dig (bt s k)
        · by_cases h5 : k < 5
          all_goals
            go_wp2_with (go_at_call 23; refine (isdigit_any _ _).mono ?_; rintro e w' ⟨rfl, hw⟩; obtain rfl := hw.symm; clear hw)
            go_ret
          · exact ⟨ret_int (ver_not s k h5 hd).symm, rfl⟩
          · obtain rfl : k = 5 := by omega
            exact ⟨ret_int (ver_five s (by omega) HD.out (.inr (.inl hd))).symm, rfl⟩
        · go_wp2_with (go_at_call 23; refine (isdigit_any _ _).mono ?_; rintro e w' ⟨rfl, hw⟩; obtain rfl := hw.symm; clear hw)
          go_round
          case rel => exact ⟨k + 1, by omega, by omega, by go_num, step HD hd⟩
          case measure => simp [intOf]; omega
      · obtain rfl : k = 6 := by omega
        have hb := bt_at s 6 hlt
        cases hd : spc (bt s 6)
        all_goals
          go_wp2_with (go_at_call 24; refine (isspace_any _ _).mono ?_; rintro e w' ⟨rfl, hw⟩; obtain rfl := hw.symm; clear hw)
          go_ret
        · exact ⟨ret_int (ver_five s (by omega) (fun i h => HD.out i (by omega)) (.inr (.inr hd))).symm, rfl⟩
        · exact ⟨ret_int (ver_six s (by omega) HD.out hd).symm, rfl⟩
    · obtain rfl : k = s.size := by omega
      by_cases h5 : s.size < 5
      · go_wp2
        go_ret
        exact ⟨ret_int (ver_short s h5).symm, rfl⟩
      · by_cases h6 : s.size < 6
        all_goals
          go_wp2
          go_ret
          exact ⟨ret_int (ver_five s (by omega) (fun i h => HD.out i (by omega)) (.inl (by omega))).symm, rfl⟩

set_option maxHeartbeats 1000000 in
theorem model_any (s : ByteArray) (w : World) (hs : s.size ≤ 1048576) : Calls Try.prog 7 #[.string s] w fun e w' => e = .returned (.int .i64 (ver s)) ∧ w' = w := by
  by_cases h5 : s.size < 5
  · go_enter Try.func7, Try.ntmps7
    go_wp2
    go_ret
    exact ⟨ret_int (ver_short s h5).symm, rfl⟩
  · go_enter Try.func7, Try.ntmps7
    go_wp2
    go_loop [3] (fun n => ∃ k : Nat, k ≤ 5 ∧ n = .int .i64 k ∧ Hid (∀ i, i < k → dig (bt s i) = true)) (fun n => 5 - (intOf n).toNat)
    case atStart => exact ⟨0, by omega, rfl, fun i h => by omega⟩
    case round =>
      obtain ⟨k, hk5, rfl, HD⟩ := hrel
      by_cases hlt : k < 5
      · have hls : k < s.size := by omega
        have hb := bt_at s k hls
        cases hd : dig (bt s k)
        all_goals
          go_wp2_with (go_at_call 17; refine (zzdigit_any _ _).mono ?_; rintro e w' ⟨rfl, hw⟩; obtain rfl := hw.symm; clear hw)
        · go_ret
          exact ⟨ret_int (ver_not s k hlt hd).symm, rfl⟩
        · go_round
          case rel => exact ⟨k + 1, by omega, by go_num, step HD hd⟩
          case measure => simp [intOf]; omega
      · obtain rfl : k = 5 := by omega
        by_cases h7 : 7 ≤ s.size
        · have h56 : 5 < s.size := by omega
          have h67 : 6 < s.size := by omega
          have hb5 := bt_at s 5 h56
          have hb6 := bt_at s 6 h67
          cases hd : dig (bt s 5)
          · go_wp2_with (first | (go_at_call 17; refine (zzdigit_any _ _).mono ?_; rintro e w' ⟨rfl, hw⟩; obtain rfl := hw.symm; clear hw) | (go_at_call 18; refine (zzspace_any _ _).mono ?_; rintro e w' ⟨rfl, hw⟩; obtain rfl := hw.symm; clear hw))
            go_ret
            exact ⟨ret_int (ver_five s (by omega) HD.out (.inr (.inl hd))).symm, rfl⟩
          · cases hp : spc (bt s 6)
            all_goals
              go_wp2_with (first | (go_at_call 17; refine (zzdigit_any _ _).mono ?_; rintro e w' ⟨rfl, hw⟩; obtain rfl := hw.symm; clear hw) | (go_at_call 18; refine (zzspace_any _ _).mono ?_; rintro e w' ⟨rfl, hw⟩; obtain rfl := hw.symm; clear hw))
              go_ret
            · exact ⟨ret_int (ver_five s (by omega) HD.out (.inr (.inr hp))).symm, rfl⟩
            · exact ⟨ret_int (ver_six s (by omega) (step HD hd) hp).symm, rfl⟩
        · go_wp2
          go_ret
          exact ⟨ret_int (ver_five s (by omega) HD.out (.inl (by omega))).symm, rfl⟩

theorem zzversion_any (s : ByteArray) (w : World) (hs : s.size ≤ 1048576) : Calls Try.prog 6 #[.string s] w fun e w' => e = .returned (.int .i64 (ver s)) ∧ w' = w := by
  go_enter Try.func6, Try.ntmps6
  go_wp2_with (go_at_call 16; refine (version_any _ _ hs).mono ?_; rintro e w' ⟨rfl, hw⟩; obtain rfl := hw.symm; clear hw)
  go_ret
  exact ⟨rfl, rfl⟩

theorem top (s : ByteArray) (w : World) : Calls Try.prog 3 #[.string s] w fun e w' => e = .returned (.bool true) ∧ w' = w := by
  by_cases hs : s.size ≤ 1048576
  · go_enter Try.func3, Try.ntmps3
    go_wp2_with (first
      | (go_at_call 5; refine (bytes_ok _ _ hs).mono ?_; rintro e w' ⟨rfl, hw⟩; obtain rfl := hw.symm; clear hw)
      | (go_at_call 6; refine (zzversion_any _ _ hs).mono ?_; rintro e w' ⟨rfl, hw⟩; obtain rfl := hw.symm; clear hw)
      | (go_at_call 7; refine (model_any _ _ hs).mono ?_; rintro e w' ⟨rfl, hw⟩; obtain rfl := hw.symm; clear hw))
    go_ret
    exact ⟨rfl, rfl⟩
  · go_enter Try.func3, Try.ntmps3
    go_wp2_with (go_at_call 5; refine (bytes_no _ _ (by omega)).mono ?_; rintro e w' ⟨rfl, hw⟩; obtain rfl := hw.symm; clear hw)
    go_ret
    exact ⟨rfl, rfl⟩
end Go.Proofs.Qxb6604272a.Ver
