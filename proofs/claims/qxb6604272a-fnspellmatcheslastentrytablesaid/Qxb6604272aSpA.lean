import Derived.Test.Qxb6604272aChecked
import Derived.WalkKit
import Derived.Below
namespace Go.Proofs.Qxb6604272a.Sp
open Go.RowKit

/-- A slice of strings, read: its cells lie at its address. -/
def Seg (w : World) (a : Option Addr) (ss : List ByteArray) : Prop :=
  ∀ k, k < ss.length → ∃ b off, a = some ⟨b, off, none⟩ ∧ ∀ i, i < ss.length → w.cell? ⟨b, off + i, none⟩ = some (.string (ss.getD i ByteArray.empty))

/-- One inner slice: its address, its strings, its capacity. -/
abbrev In := Option Addr × List ByteArray × Nat
def sl (x : In) : Value := .slice x.1 x.2.1.length x.2.2
def none' : In := (none, [], 0)

def Segs (w : World) (a : Option Addr) (xs : List In) : Prop :=
  (∀ k, k < xs.length → ∃ b off, a = some ⟨b, off, none⟩ ∧ ∀ i, i < xs.length → w.cell? ⟨b, off + i, none⟩ = some (sl (xs.getD i none'))) ∧
  ∀ x ∈ xs, Seg w x.1 x.2.1 ∧ x.2.1.length ≤ maxLen ∧ (x.1 = none → x.2.2 = 0 ∧ x.2.1 = [])

theorem ret_int {k : IntKind} {a b : Int} (h : a = b) : Ending.returned (.int k a) = .returned (.int k b) := by rw [h]
theorem ret_bool {a b : Bool} (h : a = b) : Ending.returned (.bool a) = .returned (.bool b) := by rw [h]

/-- A count of bytes: if it is within the bound, so are the lengths. -/
def SB (n : Int) (len : Nat) : Prop := 0 ≤ n ∧ (n ≤ 1048576 → len ≤ 65536)
def PB (n a b : Int) : Prop := 0 ≤ n ∧ (n ≤ 1048576 → a ≤ 1048576 ∧ b ≤ 1048576)
theorem sb {n : Int} {len : Nat} (h : 0 ≤ n ∧ (n ≤ 1048576 → len ≤ 65536)) : SB n len := h
theorem pb {n a b : Int} (h : 0 ≤ n ∧ (n ≤ 1048576 → a ≤ 1048576 ∧ b ≤ 1048576)) : PB n a b := h

set_option maxHeartbeats 400000 in
theorem plus_any (a b : Int) (w : World) (ha : 0 ≤ a) (hb : 0 ≤ b) :
    Calls Try.prog 20 #[.int .i64 a, .int .i64 b] w fun e w' => ∃ n, e = .returned (.int .i64 n) ∧ w' = w ∧ PB n a b := by
  go_enter Try.func20, Try.ntmps20
  go_wp2
  all_goals
    go_ret
    exact ⟨_, rfl, rfl, pb (by omega)⟩

set_option maxHeartbeats 400000 in
theorem strings_any (a : Option Addr) (ss : List ByteArray) (cap : Nat) (w : World) (hs : Seg w a ss) (hm : ss.length ≤ maxLen) :
    Calls Try.prog 21 #[.slice a ss.length cap] w fun e w' => ∃ n, e = .returned (.int .i64 n) ∧ w' = w ∧ SB n ss.length := by
  unfold maxLen at hm
  have HS : Hid (Seg w a ss) := hs
  clear hs
  obtain ⟨len, hl⟩ : ∃ len, len = ss.length := ⟨_, rfl⟩
  rw [← hl] at hm ⊢
  have HL : Hid (len = ss.length) := hl
  clear hl
  by_cases h6 : len ≤ 65536
  · go_enter Try.func21, Try.ntmps21
    go_wp2
    go_loop [3, 4] (fun t i => ∃ (k : Nat) (n : Int), k ≤ len ∧ 0 ≤ n ∧ n ≤ 1048576 ∧ i = .int .i64 k ∧ t = .int .i64 n) (fun _ i => len - (intOf i).toNat)
    case atStart => exact ⟨0, _, by omega, by omega, by omega, rfl, rfl⟩
    case round =>
      obtain ⟨k, n, hk, hn0, hn1, rfl, rfl⟩ := hrel
      by_cases hlt : k < len
      · obtain ⟨b, off, rfl, hc⟩ := HS.out k (HL.out ▸ hlt)
        have hck := hc k (HL.out ▸ hlt)
        clear hc
        obtain ⟨s, hs⟩ : ∃ s, s = ss.getD k ByteArray.empty := ⟨_, rfl⟩
        rw [← hs] at hck
        clear hs
        by_cases hsz : s.size ≤ 1048576
        · go_wp2
          all_goals first
            | (go_ret; exact ⟨_, rfl, rfl, sb (by omega)⟩)
            | skip
          go_round
          case rel => exact ⟨k + 1, _, by omega, by omega, by omega, by go_num, rfl⟩
          case measure => simp [intOf]; omega
        · go_wp2
          go_ret
          exact ⟨_, rfl, rfl, sb (by omega)⟩
      · go_wp2
        go_ret
        exact ⟨_, rfl, rfl, sb (by omega)⟩
  · go_enter Try.func21, Try.ntmps21
    go_wp2
    go_ret
    exact ⟨_, rfl, rfl, sb (by omega)⟩

def LB (n : Int) (xs : List In) : Prop := 0 ≤ n ∧ (n ≤ 1048576 → xs.length ≤ 65536 ∧ ∀ x ∈ xs, x.2.1.length ≤ 65536)
def Fst (xs : List In) (k : Nat) : Prop := ∀ i, i < k → (xs.getD i none').2.1.length ≤ 65536
theorem lb_over {n : Int} {xs : List In} (h0 : 1048576 < n) : LB n xs := ⟨by omega, fun h => absurd h (by omega)⟩
theorem lb_all {n : Int} {xs : List In} (h0 : 0 ≤ n) (hl : xs.length ≤ 65536) (hf : Fst xs xs.length) : LB n xs := by
  refine ⟨h0, fun _ => ⟨hl, fun x hx => ?_⟩⟩
  obtain ⟨i, hi, rfl⟩ := List.getElem_of_mem hx
  have := hf i hi
  simpa [List.getD, hi] using this
theorem fst_step {xs : List In} {k : Nat} {x : In} (h : Fst xs k) (hx : Hid (x = xs.getD k none')) {m : Int} (hm : SB m x.2.1.length) (h1 : m ≤ 1048576) : Fst xs (k + 1) := by
  intro i hi
  by_cases e : i = k
  · subst e; rw [← hx.out]; exact hm.2 h1
  · exact h i (by omega)

set_option maxHeartbeats 1000000 in
theorem lists_any (a : Option Addr) (xs : List In) (cap : Nat) (w : World) (hs : Segs w a xs) (hm : xs.length ≤ maxLen) :
    Calls Try.prog 25 #[.slice a xs.length cap] w fun e w' => ∃ n, e = .returned (.int .i64 n) ∧ w' = w ∧ LB n xs := by
  unfold maxLen at hm
  have HS : Hid (Segs w a xs) := hs
  clear hs
  obtain ⟨len, hl⟩ : ∃ len, len = xs.length := ⟨_, rfl⟩
  rw [← hl] at hm ⊢
  have HL : Hid (len = xs.length) := hl
  clear hl
  by_cases h6 : len ≤ 65536
  · by_cases h24 : 24 * len ≤ 1048576
    · go_enter Try.func25, Try.ntmps25
      go_wp2
      go_loop [3, 4] (fun t i => ∃ (k : Nat) (n : Int), k ≤ len ∧ 0 ≤ n ∧ n ≤ 1048576 ∧ i = .int .i64 k ∧ t = .int .i64 n ∧ Hid (Fst xs k)) (fun _ i => len - (intOf i).toNat)
      case atStart => exact ⟨0, _, by omega, by omega, by omega, rfl, rfl, fun i hi => absurd hi (by omega)⟩
      case round =>
        obtain ⟨k, n, hk, hn0, hn1, rfl, rfl, HF⟩ := hrel
        by_cases hlt : k < len
        · have hkx : k < xs.length := HL.out ▸ hlt
          obtain ⟨b, off, rfl, hc⟩ := HS.out.1 k hkx
          have hck := hc k hkx
          have hin := HS.out.2 (xs.getD k none') (by rw [List.getD_eq_getElem?_getD, List.getElem?_eq_getElem hkx]; exact List.getElem_mem hkx)
          clear hc hkx
          obtain ⟨x, hx⟩ : ∃ x, x = xs.getD k none' := ⟨_, rfl⟩
          rw [← hx] at hck hin
          have HX : Hid (x = xs.getD k none') := hx
          clear hx
          obtain ⟨xa, xss, xc⟩ := x
          have hck' : w.cell? ⟨b, off + k, none⟩ = some (.slice xa xss.length xc) := hck
          clear hck
          have HI : Hid (Seg w xa xss ∧ xss.length ≤ maxLen ∧ (xa = none → xc = 0 ∧ xss = [])) := hin
          clear hin
          go_wp2_with (go_at_call 21; refine (strings_any _ _ _ _ HI.out.1 HI.out.2.1).mono ?_; rintro e w' ⟨m, rfl, hw, hsb⟩; obtain rfl := hw.symm; clear hw; have hm0 := hsb.1; have HSB : Hid (SB m xss.length) := hsb; clear hsb)
          · go_ret
            exact ⟨_, rfl, rfl, lb_over (by omega)⟩
          · go_ret
            exact ⟨_, rfl, rfl, lb_over (by omega)⟩
          · have hm1 : m ≤ 1048576 := by assumption
            go_round
            case rel => exact ⟨k + 1, _, by omega, by omega, by omega, by go_num, rfl, fst_step HF.out HX HSB.out hm1⟩
            case measure => simp [intOf]; omega
        · go_wp2
          go_ret
          have hf : Fst xs xs.length := (show k = xs.length by have := HL.out; omega) ▸ HF.out
          exact ⟨_, rfl, rfl, lb_all hn0 (HL.out ▸ h6) hf⟩
    · go_enter Try.func25, Try.ntmps25
      go_wp2
      go_ret
      exact ⟨_, rfl, rfl, lb_over (by omega)⟩
  · go_enter Try.func25, Try.ntmps25
    go_wp2
    go_ret
    exact ⟨_, rfl, rfl, lb_over (by omega)⟩

/-- What the count of the table's bytes says. -/
def TB (n : Int) (lk ln : Nat) (xs : List In) (ls : Nat) : Prop := 0 ≤ n ∧ (n ≤ 1048576 → lk ≤ 65536 ∧ ln ≤ 65536 ∧ (xs.length ≤ 65536 ∧ ∀ x ∈ xs, x.2.1.length ≤ 65536) ∧ ls ≤ 65536)

set_option maxHeartbeats 1000000 in
theorem table_any (ak an aa az : Option Addr) (ks ns : List ByteArray) (xs : List In) (sc : List ByteArray) (ck cn ca cs : Nat) (w : World)
    (hk : Seg w ak ks) (hn : Seg w an ns) (hx : Segs w aa xs) (hs : Seg w az sc) (mk : ks.length ≤ maxLen) (mn : ns.length ≤ maxLen) (mx : xs.length ≤ maxLen) (ms : sc.length ≤ maxLen) :
    Calls Try.prog 19 #[.slice ak ks.length ck, .slice an ns.length cn, .slice aa xs.length ca, .slice az sc.length cs] w fun e w' => ∃ n, e = .returned (.int .i64 n) ∧ w' = w ∧ TB n ks.length ns.length xs sc.length := by
  have H1 := strings_any ak ks ck w hk mk
  have H2 := strings_any an ns cn w hn mn
  have H3 := lists_any aa xs ca w hx mx
  have H4 := strings_any az sc cs w hs ms
  clear hk hn hx hs mk mn mx ms
  go_enter Try.func19, Try.ntmps19
  go_wp2_with fail
  refine H1.mono ?_
  rintro e w' ⟨n1, rfl, hw, h1⟩; obtain rfl := hw.symm; clear hw H1
  have p1 := h1.1
  go_wp2_with fail
  refine H2.mono ?_
  rintro e w' ⟨n2, rfl, hw, h2⟩; obtain rfl := hw.symm; clear hw H2
  have p2 := h2.1
  go_wp2_with fail
  refine (plus_any _ _ _ p1 p2).mono ?_
  rintro e w' ⟨q1, rfl, hw, g1⟩; obtain rfl := hw.symm; clear hw
  have r1 := g1.1
  go_wp2_with fail
  refine H3.mono ?_
  rintro e w' ⟨n3, rfl, hw, h3⟩; obtain rfl := hw.symm; clear hw H3
  have p3 := h3.1
  go_wp2_with fail
  refine (plus_any _ _ _ r1 p3).mono ?_
  rintro e w' ⟨q2, rfl, hw, g2⟩; obtain rfl := hw.symm; clear hw
  have r2 := g2.1
  go_wp2_with fail
  refine H4.mono ?_
  rintro e w' ⟨n4, rfl, hw, h4⟩; obtain rfl := hw.symm; clear hw H4
  have p4 := h4.1
  go_wp2_with fail
  refine (plus_any _ _ _ r2 p4).mono ?_
  rintro e w' ⟨q3, rfl, hw, g3⟩; obtain rfl := hw.symm; clear hw
  go_wp2
  go_ret
  refine ⟨_, rfl, rfl, g3.1, fun h => ?_⟩
  have a3 := g3.2 h
  have a2 := g2.2 a3.1
  have a1 := g1.2 a2.1
  exact ⟨h1.2 a1.1, h2.2 a1.2, h3.2 a2.2, h4.2 a3.2⟩

/-- What the count of all bytes says. -/
def AB (n : Int) (lk ln : Nat) (xs : List In) (ls lp lx : Nat) : Prop := n ≤ 1048576 → lk ≤ 65536 ∧ ln ≤ 65536 ∧ (xs.length ≤ 65536 ∧ ∀ x ∈ xs, x.2.1.length ≤ 65536) ∧ ls ≤ 65536 ∧ lp ≤ 65536 ∧ lx ≤ 65536

set_option maxHeartbeats 1000000 in
theorem args_any (ak an aa az ap ax : Option Addr) (ks ns : List ByteArray) (xs : List In) (sc ps qs : List ByteArray) (ck cn ca cs cp cx : Nat) (s1 s2 s3 s4 s5 : ByteArray) (w : World)
    (hk : Seg w ak ks) (hn : Seg w an ns) (hx : Segs w aa xs) (hs : Seg w az sc) (hp : Seg w ap ps) (hq : Seg w ax qs)
    (mk : ks.length ≤ maxLen) (mn : ns.length ≤ maxLen) (mx : xs.length ≤ maxLen) (ms : sc.length ≤ maxLen) (mp : ps.length ≤ maxLen) (mq : qs.length ≤ maxLen) :
    Calls Try.prog 9 #[.slice ak ks.length ck, .slice an ns.length cn, .slice aa xs.length ca, .slice az sc.length cs, .string s1, .string s2, .slice ap ps.length cp, .string s3, .slice ax qs.length cx, .string s4, .string s5] w
      fun e w' => ∃ n, e = .returned (.int .i64 n) ∧ w' = w ∧ AB n ks.length ns.length xs sc.length ps.length qs.length := by
  have H1 := table_any ak an aa az ks ns xs sc ck cn ca cs w hk hn hx hs mk mn mx ms
  have H2 := strings_any ap ps cp w hp mp
  have H3 := strings_any ax qs cx w hq mq
  clear hk hn hx hs hp hq mk mn mx ms mp mq
  go_enter Try.func9, Try.ntmps9
  go_wp2_with fail
  refine H1.mono ?_
  rintro e w' ⟨n1, rfl, hw, h1⟩; obtain rfl := hw.symm; clear hw H1
  have p1 := h1.1
  go_wp2_with fail
  refine (plus_any _ _ _ p1 (by omega)).mono ?_
  rintro e w' ⟨q1, rfl, hw, g1⟩; obtain rfl := hw.symm; clear hw
  have r1 := g1.1
  go_wp2_with fail
  refine (plus_any _ _ _ r1 (by omega)).mono ?_
  rintro e w' ⟨q2, rfl, hw, g2⟩; obtain rfl := hw.symm; clear hw
  have r2 := g2.1
  go_wp2_with fail
  refine H2.mono ?_
  rintro e w' ⟨n2, rfl, hw, h2⟩; obtain rfl := hw.symm; clear hw H2
  have p2 := h2.1
  go_wp2_with fail
  refine (plus_any _ _ _ r2 p2).mono ?_
  rintro e w' ⟨q3, rfl, hw, g3⟩; obtain rfl := hw.symm; clear hw
  have r3 := g3.1
  go_wp2_with fail
  refine (plus_any _ _ _ r3 (by omega)).mono ?_
  rintro e w' ⟨q4, rfl, hw, g4⟩; obtain rfl := hw.symm; clear hw
  have r4 := g4.1
  go_wp2_with fail
  refine H3.mono ?_
  rintro e w' ⟨n3, rfl, hw, h3⟩; obtain rfl := hw.symm; clear hw H3
  have p3 := h3.1
  go_wp2_with fail
  refine (plus_any _ _ _ r4 p3).mono ?_
  rintro e w' ⟨q5, rfl, hw, g5⟩; obtain rfl := hw.symm; clear hw
  have r5 := g5.1
  go_wp2_with fail
  refine (plus_any _ _ _ r5 (by omega)).mono ?_
  rintro e w' ⟨q6, rfl, hw, g6⟩; obtain rfl := hw.symm; clear hw
  have r6 := g6.1
  go_wp2_with fail
  refine (plus_any _ _ _ r6 (by omega)).mono ?_
  rintro e w' ⟨q7, rfl, hw, g7⟩; obtain rfl := hw.symm; clear hw
  go_wp2
  go_ret
  refine ⟨_, rfl, rfl, fun h => ?_⟩
  have a6 := (g7.2 h).1
  have a5 := (g6.2 a6).1
  have a4 := g5.2 a5
  have a3 := (g4.2 a4.1).1
  have a2 := g3.2 a3
  have a1 := (g2.2 a2.1).1
  have a0 := (g1.2 a1).1
  obtain ⟨t1, t2, t3, t4⟩ := h1.2 a0
  exact ⟨t1, t2, t3, t4, h2.2 a2.2, h3.2 a4.2⟩

def SH (b : Bool) (lk ln la ls : Nat) : Prop := b = true → ln = lk ∧ la = lk ∧ ls = lk

set_option maxHeartbeats 400000 in
theorem shaped_any (ak an aa az : Option Addr) (lk ln la ls ck cn ca cs : Nat) (w : World) :
    Calls Try.prog 10 #[.slice ak lk ck, .slice an ln cn, .slice aa la ca, .slice az ls cs] w fun e w' => ∃ b, e = .returned (.bool b) ∧ w' = w ∧ SH b lk ln la ls := by
  go_enter Try.func10, Try.ntmps10
  go_wp2
  all_goals
    go_ret
    refine ⟨_, rfl, rfl, fun h => ?_⟩
    simp at h <;> omega
end Go.Proofs.Qxb6604272a.Sp
