import Derived.Test.Qxb6604272aSpA
namespace Go.Proofs.Qxb6604272a.Sp
open Go.RowKit

/-- Some bool is handed back. -/
def RetB (e : Ending) : Prop := ∃ b, e = .returned (.bool b)

set_option maxRecDepth 1000000 in
set_option maxHeartbeats 8000000 in
theorem bytes_any (ak an aa az ap ax : Option Addr) (ks ns : List ByteArray) (xs : List In) (sc ps qs : List ByteArray) (lk ln la ls lp lq ck cn ca cs cp cx : Nat) (s1 s2 s3 s4 s5 : ByteArray) (f0 f1 f2 : Bool) (w : World)
    (HK : Hid (Seg w ak ks)) (HN : Hid (Seg w an ns)) (HX : Hid (Segs w aa xs)) (HS : Hid (Seg w az sc)) (HP : Hid (Seg w ap ps)) (HQ : Hid (Seg w ax qs))
    (LK : Hid (lk = ks.length)) (LN : Hid (ln = ns.length)) (LA : Hid (la = xs.length)) (LS : Hid (ls = sc.length)) (LP : Hid (lp = ps.length)) (LQ : Hid (lq = qs.length)) :
    Calls Try.prog 8 #[.slice ak lk ck, .slice an ln cn, .slice aa la ca, .slice az ls cs, .string s1, .string s2, .slice ap lp cp, .string s3, .slice ax lq cx, .agg #[.bool f0, .bool f1, .bool f2], .string s4, .string s5] w
      fun e w' => RetB e ∧ Below w.heap.size w w' := by
  go_enter Try.func8, Try.ntmps8
  go_wp2
  all_goals first | (go_ret; exact ⟨⟨_, rfl⟩, (Below.refl _ _).alloc (Nat.le_refl _) _⟩) | skip
  go_loop [25, 26] (fun t i => ∃ (k : Nat) (n : Int), k ≤ lk ∧ 0 ≤ n ∧ n ≤ 1048576 ∧ i = .int .i64 k ∧ t = .int .i64 n) (fun _ i => lk - (intOf i).toNat)
  case atStart => exact ⟨0, _, by omega, by omega, by omega, rfl, rfl⟩
  case round =>
    obtain ⟨k, n, hk, hn0, hn1, rfl, rfl⟩ := hrel
    by_cases hlt : k < lk
    · obtain ⟨b, off, rfl, hc⟩ := HK.out k (LK.out ▸ hlt)
      have hck := hc k (LK.out ▸ hlt)
      have hb := block_lt_of_cell hck
      simp only at hb
      clear hc
      obtain ⟨s, hs⟩ : ∃ s, s = ks.getD k ByteArray.empty := ⟨_, rfl⟩
      rw [← hs] at hck
      clear hs
      go_wp2
      all_goals first | (go_ret; exact ⟨⟨_, rfl⟩, (Below.refl _ _).alloc (Nat.le_refl _) _⟩) | skip
      go_round
      case rel => exact ⟨k + 1, _, by omega, by omega, by omega, by go_num, rfl⟩
      case measure => simp [intOf]; omega
    · go_wp2
      all_goals first | (go_ret; exact ⟨⟨_, rfl⟩, (Below.refl _ _).alloc (Nat.le_refl _) _⟩) | skip
      go_loop [25, 27] (fun t i => ∃ (k : Nat) (n : Int), k ≤ ln ∧ 0 ≤ n ∧ n ≤ 1048576 ∧ i = .int .i64 k ∧ t = .int .i64 n) (fun _ i => ln - (intOf i).toNat)
      case atStart => exact ⟨0, _, by omega, by omega, by omega, rfl, rfl⟩
      case round =>
        obtain ⟨k, n, hk, hn0, hn1, rfl, rfl⟩ := hrel
        by_cases hlt : k < ln
        · obtain ⟨b, off, rfl, hc⟩ := HN.out k (LN.out ▸ hlt)
          have hck := hc k (LN.out ▸ hlt)
          have hb := block_lt_of_cell hck
          simp only at hb
          clear hc
          obtain ⟨s, hs⟩ : ∃ s, s = ns.getD k ByteArray.empty := ⟨_, rfl⟩
          rw [← hs] at hck
          clear hs
          go_wp2
          all_goals first | (go_ret; exact ⟨⟨_, rfl⟩, (Below.refl _ _).alloc (Nat.le_refl _) _⟩) | skip
          go_round
          case rel => exact ⟨k + 1, _, by omega, by omega, by omega, by go_num, rfl⟩
          case measure => simp [intOf]; omega
        · go_wp2
          all_goals first | (go_ret; exact ⟨⟨_, rfl⟩, (Below.refl _ _).alloc (Nat.le_refl _) _⟩) | skip
          go_loop [25, 28] (fun t i => ∃ (k : Nat) (n : Int), k ≤ la ∧ 0 ≤ n ∧ n ≤ 1048576 ∧ i = .int .i64 k ∧ t = .int .i64 n) (fun _ i => la - (intOf i).toNat)
          case atStart => exact ⟨0, _, by omega, by omega, by omega, rfl, rfl⟩
          case round =>
            obtain ⟨k, n, hk, hn0, hn1, rfl, rfl⟩ := hrel
            by_cases hlt : k < la
            · have hkx : k < xs.length := LA.out ▸ hlt
              obtain ⟨b, off, rfl, hc⟩ := HX.out.1 k hkx
              have hck := hc k hkx
              have hb := block_lt_of_cell hck
              simp only at hb
              have hin := HX.out.2 (xs.getD k none') (by rw [List.getD_eq_getElem?_getD, List.getElem?_eq_getElem hkx]; exact List.getElem_mem hkx)
              clear hc hkx
              obtain ⟨x, hx⟩ : ∃ x, x = xs.getD k none' := ⟨_, rfl⟩
              rw [← hx] at hck hin
              clear hx
              obtain ⟨xa, xss, xc⟩ := x
              have HI : Hid (Seg w xa xss) := hin.1
              clear hin
              obtain ⟨lx, hlx⟩ : ∃ lx, lx = xss.length := ⟨_, rfl⟩
              have hck' : w.cell? ⟨b, off + k, none⟩ = some (.slice xa lx xc) := by rw [hlx]; exact hck
              have LX : Hid (lx = xss.length) := hlx
              clear hck hlx
              go_wp2
              all_goals first | (go_ret; exact ⟨⟨_, rfl⟩, (Below.refl _ _).alloc (Nat.le_refl _) _⟩) | skip
              go_loop [25, 29] (fun t i => ∃ (k2 : Nat) (n : Int), k2 ≤ lx ∧ 0 ≤ n ∧ n ≤ 1048576 ∧ i = .int .i64 k2 ∧ t = .int .i64 n) (fun _ i => lx - (intOf i).toNat)
              case atStart => exact ⟨0, _, by omega, by omega, by omega, rfl, rfl⟩
              case round =>
                obtain ⟨k2, n2, hk2, hn20, hn21, rfl, rfl⟩ := hrel
                by_cases hlt2 : k2 < lx
                · obtain ⟨b2, off2, rfl, hc2⟩ := HI.out k2 (LX.out ▸ hlt2)
                  have hck2 := hc2 k2 (LX.out ▸ hlt2)
                  have hb2 := block_lt_of_cell hck2
                  simp only at hb2
                  clear hc2
                  obtain ⟨s, hs⟩ : ∃ s, s = xss.getD k2 ByteArray.empty := ⟨_, rfl⟩
                  rw [← hs] at hck2
                  clear hs
                  go_wp2
                  all_goals first | (go_ret; exact ⟨⟨_, rfl⟩, (Below.refl _ _).alloc (Nat.le_refl _) _⟩) | skip
                  go_round
                  case rel => exact ⟨k2 + 1, _, by omega, by omega, by omega, by go_num, rfl⟩
                  case measure => simp [intOf]; omega
                · go_wp2
                  go_round
                  case rel => exact ⟨k + 1, _, by omega, by omega, by omega, by go_num, rfl⟩
                  case measure => simp [intOf]; omega
            · go_wp2
              all_goals first | (go_ret; exact ⟨⟨_, rfl⟩, (Below.refl _ _).alloc (Nat.le_refl _) _⟩) | skip
              go_loop [25, 30] (fun t i => ∃ (k : Nat) (n : Int), k ≤ ls ∧ 0 ≤ n ∧ n ≤ 1048576 ∧ i = .int .i64 k ∧ t = .int .i64 n) (fun _ i => ls - (intOf i).toNat)
              case atStart => exact ⟨0, _, by omega, by omega, by omega, rfl, rfl⟩
              case round =>
                obtain ⟨k, n, hk, hn0, hn1, rfl, rfl⟩ := hrel
                by_cases hlt : k < ls
                · obtain ⟨b, off, rfl, hc⟩ := HS.out k (LS.out ▸ hlt)
                  have hck := hc k (LS.out ▸ hlt)
                  have hb := block_lt_of_cell hck
                  simp only at hb
                  clear hc
                  obtain ⟨s, hs⟩ : ∃ s, s = sc.getD k ByteArray.empty := ⟨_, rfl⟩
                  rw [← hs] at hck
                  clear hs
                  go_wp2
                  all_goals first | (go_ret; exact ⟨⟨_, rfl⟩, (Below.refl _ _).alloc (Nat.le_refl _) _⟩) | skip
                  go_round
                  case rel => exact ⟨k + 1, _, by omega, by omega, by omega, by go_num, rfl⟩
                  case measure => simp [intOf]; omega
                · go_wp2
                  all_goals first | (go_ret; exact ⟨⟨_, rfl⟩, (Below.refl _ _).alloc (Nat.le_refl _) _⟩) | skip
                  go_loop [25, 31] (fun t i => ∃ (k : Nat) (n : Int), k ≤ lp ∧ 0 ≤ n ∧ n ≤ 1048576 ∧ i = .int .i64 k ∧ t = .int .i64 n) (fun _ i => lp - (intOf i).toNat)
                  case atStart => exact ⟨0, _, by omega, by omega, by omega, rfl, rfl⟩
                  case round =>
                    obtain ⟨k, n, hk, hn0, hn1, rfl, rfl⟩ := hrel
                    by_cases hlt : k < lp
                    · obtain ⟨b, off, rfl, hc⟩ := HP.out k (LP.out ▸ hlt)
                      have hck := hc k (LP.out ▸ hlt)
                      have hb := block_lt_of_cell hck
                      simp only at hb
                      clear hc
                      obtain ⟨s, hs⟩ : ∃ s, s = ps.getD k ByteArray.empty := ⟨_, rfl⟩
                      rw [← hs] at hck
                      clear hs
                      go_wp2
                      all_goals first | (go_ret; exact ⟨⟨_, rfl⟩, (Below.refl _ _).alloc (Nat.le_refl _) _⟩) | skip
                      go_round
                      case rel => exact ⟨k + 1, _, by omega, by omega, by omega, by go_num, rfl⟩
                      case measure => simp [intOf]; omega
                    · go_wp2
                      all_goals first | (go_ret; exact ⟨⟨_, rfl⟩, (Below.refl _ _).alloc (Nat.le_refl _) _⟩) | skip
                      go_loop [25, 32] (fun t i => ∃ (k : Nat) (n : Int), k ≤ lq ∧ 0 ≤ n ∧ n ≤ 1048576 ∧ i = .int .i64 k ∧ t = .int .i64 n) (fun _ i => lq - (intOf i).toNat)
                      case atStart => exact ⟨0, _, by omega, by omega, by omega, rfl, rfl⟩
                      case round =>
                        obtain ⟨k, n, hk, hn0, hn1, rfl, rfl⟩ := hrel
                        by_cases hlt : k < lq
                        · obtain ⟨b, off, rfl, hc⟩ := HQ.out k (LQ.out ▸ hlt)
                          have hck := hc k (LQ.out ▸ hlt)
                          have hb := block_lt_of_cell hck
                          simp only at hb
                          clear hc
                          obtain ⟨s, hs⟩ : ∃ s, s = qs.getD k ByteArray.empty := ⟨_, rfl⟩
                          rw [← hs] at hck
                          clear hs
                          go_wp2
                          all_goals first | (go_ret; exact ⟨⟨_, rfl⟩, (Below.refl _ _).alloc (Nat.le_refl _) _⟩) | skip
                          go_round
                          case rel => exact ⟨k + 1, _, by omega, by omega, by omega, by go_num, rfl⟩
                          case measure => simp [intOf]; omega
                        · go_wp2
                          all_goals first | (go_ret; exact ⟨⟨_, rfl⟩, (Below.refl _ _).alloc (Nat.le_refl _) _⟩) | skip
end Go.Proofs.Qxb6604272a.Sp
