import Derived.Test.Qxb6604272aSpA
import Derived.Deep.QuietTactic
import Derived.BigQuiet
namespace Go.Proofs.Qxb6604272a.Sp
open Go.RowKit

theorem str_eq (a b : ByteArray) : (a.toList == b.toList) = true ↔ a = b := by
  rw [beq_iff_eq, ByteArray.toList_eq, ByteArray.toList_eq]
  constructor
  · intro h
    obtain ⟨⟨x⟩⟩ := a
    obtain ⟨⟨y⟩⟩ := b
    exact congrArg (fun l => ByteArray.mk (Array.mk l)) h
  · intro h; rw [h]
theorem str_ne (a b : ByteArray) (h : (a.toList == b.toList) = false) : a ≠ b := by
  intro e; rw [(str_eq a b).2 e] at h; cases h
theorem str_self (a : ByteArray) : (a.toList == a.toList) = true := (str_eq a a).2 rfl

/-- The last place of kw among ks, or -1. -/
def LastAt (ks : List ByteArray) (kw : ByteArray) (r : Int) : Prop :=
  (r = -1 ∧ ∀ i, i < ks.length → ks.getD i ByteArray.empty ≠ kw) ∨ ∃ k : Nat, k < ks.length ∧ r = k ∧ ks.getD k ByteArray.empty = kw ∧ ∀ i, k < i → i < ks.length → ks.getD i ByteArray.empty ≠ kw

set_option maxHeartbeats 1000000 in
theorem last_any (a : Option Addr) (ks : List ByteArray) (kw : ByteArray) (cap len : Nat) (w : World) (HS : Hid (Seg w a ks)) (hl : Hid (len = ks.length)) (hm : len ≤ 65536) :
    Calls Try.prog 14 #[.slice a len cap, .string kw] w fun e w' => ∃ r, e = .returned (.int .i64 r) ∧ w' = w ∧ LastAt ks kw r := by
  go_enter Try.func14, Try.ntmps14
  go_wp2
  go_loop [5] (fun i => ∃ k : Nat, k ≤ len ∧ i = .int .i64 ((k : Int) - 1) ∧ Hid (∀ j, k ≤ j → j < ks.length → ks.getD j ByteArray.empty ≠ kw)) (fun i => (intOf i + 1).toNat)
  case atStart => exact ⟨len, by omega, by go_num, fun j h1 h2 => absurd (hl.out ▸ h1) (by omega)⟩
  case round =>
    obtain ⟨k, hk, rfl, HF⟩ := hrel
    by_cases h0 : k = 0
    · subst h0
      go_wp2
      go_ret
      exact ⟨_, rfl, rfl, .inl ⟨rfl, fun i hi => HF.out i (by omega) hi⟩⟩
    · obtain ⟨k', rfl⟩ : ∃ k', k = k' + 1 := ⟨k - 1, by omega⟩
      clear h0
      have hlt : k' < len := by omega
      have e1 : ((k' + 1 : Nat) : Int) - 1 = k' := by omega
      rw [e1]
      clear e1
      have HL : Hid (k' < ks.length) := hl.out ▸ hlt
      obtain ⟨b, off, rfl, hc⟩ := HS.out k' HL.out
      have hck := hc k' HL.out
      clear hc
      obtain ⟨s, hs⟩ : ∃ s, s = ks.getD k' ByteArray.empty := ⟨_, rfl⟩
      rw [← hs] at hck
      have HE : Hid (s = ks.getD k' ByteArray.empty) := hs
      clear hs
      go_wp2
      · have he : (s.toList == kw.toList) = true := by assumption
        go_ret
        exact ⟨_, rfl, rfl, .inr ⟨k', HL.out, rfl, HE.out ▸ (str_eq _ _).1 he, fun i h1 h2 => HF.out i (by omega) h2⟩⟩
      · have he : (s.toList == kw.toList) = false := by assumption
        go_round
        case rel =>
          refine ⟨k', by omega, rfl, fun j h1 h2 => ?_⟩
          by_cases e : j = k'
          · subst e; rw [← HE.out]; exact str_ne _ _ he
          · exact HF.out j (by omega) h2
        case measure => simp [intOf]

set_option maxHeartbeats 1000000 in
theorem same_any (a a' : Option Addr) (ss : List ByteArray) (cap cap' len : Nat) (w : World) (HS : Hid (Seg w a ss)) (HS' : Hid (Seg w a' ss)) (hl : Hid (len = ss.length)) (hm : len ≤ 131072) :
    Calls Try.prog 15 #[.slice a len cap, .slice a' len cap'] w fun e w' => e = .returned (.bool true) ∧ ∃ n, w' = w.drewN n := by
  go_enter Try.func15, Try.ntmps15
  go_wp2
  go_loopw [5] (fun i wr => ∃ k : Nat, k ≤ len ∧ i = .int .i64 k ∧ Hid (∃ n, wr = w.drewN n)) (fun i _ => len - (intOf i).toNat)
  case atStart => exact ⟨0, by omega, rfl, 0, rfl⟩
  case round =>
    obtain ⟨k, hk, rfl, HW⟩ := hrel
    by_cases hlt : k < len
    · obtain ⟨b, off, rfl, hc⟩ := HS.out k (hl.out ▸ hlt)
      obtain ⟨b', off', rfl, hc'⟩ := HS'.out k (hl.out ▸ hlt)
      have hck := hc k (hl.out ▸ hlt)
      have hck' := hc' k (hl.out ▸ hlt)
      clear hc hc'
      obtain ⟨s, hs⟩ : ∃ s, s = ss.getD k ByteArray.empty := ⟨_, rfl⟩
      rw [← hs] at hck hck'
      clear hs
      have hss := str_self s
      obtain ⟨n, rfl⟩ := HW.out
      have hck1 : (w.drewN n).cell? ⟨b, off + k, none⟩ = some (.string s) := by simpa using hck
      have hck1' : (w.drewN n).cell? ⟨b', off' + k, none⟩ = some (.string s) := by simpa using hck'
      have hi1 : ((k : Nat) : Int) < (len : Int) := by omega
      go_wp2
      go_quiet (fail)
      go_wp2

      go_roundw
      case rel => exact ⟨k + 1, by omega, by go_num, _, rfl⟩
      case measure => simp [intOf]; omega
    · go_wp2
      go_ret
      exact ⟨rfl, HW.out⟩
end Go.Proofs.Qxb6604272a.Sp
