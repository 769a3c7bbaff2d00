import Derived.Test.Qxb6604272aSpA
import Derived.WalkSpells
import Derived.Lib.SliceRun
namespace Go.Proofs.Qxb6604272a.Sp
open Go.RowKit

theorem Try.info9 : (Try.prog.info? 9).map (fun i => (i.zero, i.size, i.bytes)) = some (some (.string ByteArray.empty), 1, 16) := by kernel_rfl
theorem Try.info24 : (Try.prog.info? 24).map (fun i => (i.zero, i.size, i.bytes)) = some (some (.slice none 0 0), 1, 24) := by kernel_rfl

theorem Seg.keep {w w' : World} {B : Nat} {a : Option Addr} {ss : List ByteArray} (h : Seg w a ss) (hB : ∀ b off c u, w.cell? ⟨b, off, c⟩ = some u → b < B) (hb : Below B w w') : Seg w' a ss := by
  intro k hk
  obtain ⟨b, off, e, hc⟩ := h k hk
  exact ⟨b, off, e, fun i hi => (hb.cell (hB _ _ _ _ (hc i hi))).trans (hc i hi)⟩

theorem Seg.kept {w w' : World} {a : Option Addr} {ss : List ByteArray} (h : Seg w a ss) (hb : Below w.heap.size w w') : Seg w' a ss :=
  h.keep (fun _ _ _ _ hc => block_lt_of_cell hc) hb

/-- What a clone of ss leaves: nil if it was nil; else a slice in new memory, full. -/
def Cloned (w : World) (a : Option Addr) (ss : List ByteArray) (v : Value) (w' : World) : Prop :=
  Below w.heap.size w w' ∧ ∃ a', v = .slice a' ss.length ss.length ∧ (a' = none ↔ a = none) ∧ Seg w' a' ss ∧ ∀ x, a' = some x → w.heap.size ≤ x.block ∧ x.block < w'.heap.size

def Row (wr : World) (B len : Nat) (ss : List ByteArray) (k : Nat) : Prop :=
  ∃ xs, wr.ownsRow B 9 1 (.slice (some ⟨B, 0, none⟩) len len) len xs ∧ ∀ i, i < k → xs[i]? = some (.string (ss.getD i ByteArray.empty))

theorem row_at {wr : World} {B len : Nat} {ss : List ByteArray} {k : Nat} (h : Row wr B len ss k) (j : Nat) (hj : j < len) : (∃ u, wr.cell? ⟨B, j, none⟩ = some u) ∧ wr.frozen? ⟨B, j, none⟩ = false := by
  obtain ⟨xs, ho, _⟩ := h
  have hc := ho.cellAt j (by omega)
  have hl : xs.length = len * 1 := ho.1
  exact ⟨⟨xs[j]'(by omega), by rw [hc, List.getElem?_eq_getElem]⟩, ho.frozenAt j⟩

theorem row_step {wr : World} {B len : Nat} {ss : List ByteArray} {k : Nat} (h : Row wr B len ss k) (hk : k < len) : Row (wr.setCell ⟨B, k, none⟩ (.string (ss.getD k ByteArray.empty))) B len ss (k + 1) := by
  obtain ⟨xs, ho, hx⟩ := h
  have hl : xs.length = len * 1 := ho.1
  refine ⟨_, (ho.stored k _).1, fun i hi => ?_⟩
  by_cases e : i = k
  · subst e; rw [List.getElem?_set_self (by omega)]
  · rw [List.getElem?_set_ne (fun h => e h.symm)]; exact hx i (by omega)

theorem row_seg {wr : World} {B : Nat} {ss : List ByteArray} (h : Row wr B ss.length ss ss.length) : Seg wr (some ⟨B, 0, none⟩) ss := by
  obtain ⟨xs, ho, hx⟩ := h
  intro k _
  exact ⟨B, 0, rfl, fun i hi => by rw [Nat.zero_add, ho.cellAt i (by omega)]; exact hx i hi⟩

theorem row_lt {wr : World} {B len : Nat} {ss : List ByteArray} {k : Nat} (h : Row wr B len ss k) : B < wr.heap.size := by
  obtain ⟨xs, ⟨_, h | ⟨g, cap, cur, e1, e2, e3, _⟩⟩, _⟩ := h
  · cases h.1
  · cases e1; exact (Array.getElem?_eq_some_iff.1 e3).1

theorem ret_val {a b : Value} (h : a = b) : Ending.returned a = .returned b := by rw [h]

set_option maxHeartbeats 1000000 in
theorem clone_any (a : Option Addr) (ss : List ByteArray) (cap len : Nat) (w : World) (HS : Hid (Seg w a ss)) (hl : Hid (len = ss.length)) (hm : len ≤ 65536) (HN : Hid (a = none → ss = [] ∧ cap = 0)) :
    Calls Try.prog 11 #[.slice a len cap] w fun e w' => ∃ v, e = .returned v ∧ Cloned w a ss v w' := by
  obtain ⟨i0, hi, hz0, hz1, hz2⟩ := info_parts Try.info9
  have q24 : ∀ (w : World) (a : Option Addr) (n c n' c' : Nat), (binOp .eql 24 (.slice a n c) (.slice none n' c')).run Try.prog w = .ok (.bool a.isNone) w := fun w a n c n' c' => Lib.run_eql_slice_nil w _ _ a n c n' c' Try.underlying24
  cases a with
  | none =>
    obtain ⟨rfl, rfl⟩ := HN.out rfl
    obtain rfl := hl.out
    go_enter Try.func11, Try.ntmps11
    go_wp2
    go_ret
    exact ⟨_, rfl, Below.refl _ _, none, rfl, Iff.rfl, fun k hk => absurd hk (by simp), fun x h => by cases h⟩
  | some x =>
    clear HN
    go_enter Try.func11, Try.ntmps11
    go_wp2_with (at_make; refine wpList_make_full _ rfl _ _ 24 rfl w.heap.size 9 i0 (.string ByteArray.empty) 1 Try.underlying24 hi hz0 hz1 _ _ _ _ len rfl rfl rfl rfl (by rw [hz2]; omega) (by unfold maxLen; omega) (Nat.le_refl _) ?_; intro w0 hown0 hgrow0)
    have b0 : Below w.heap.size w w0 := (Below.refl _ _).grown hgrow0 (Nat.le_refl _) (fun k h => by cases h)
    have R0 : Hid (Row w0 w.heap.size len ss 0) := ⟨_, hown0, fun i hi => absurd hi (by omega)⟩
    clear hown0 hgrow0
    go_loopw [4] (fun i wr => ∃ k : Nat, k ≤ len ∧ i = .int .i64 k ∧ Hid (Row wr w.heap.size len ss k) ∧ Below w.heap.size w wr) (fun i _ => len - (intOf i).toNat)
    case atStart => exact ⟨0, by omega, rfl, R0, b0⟩
    case round =>
      obtain ⟨k, hk, rfl, HR, hbel⟩ := hrel
      by_cases hlt : k < len
      · obtain ⟨b, off, e, hc⟩ := HS.out k (hl.out ▸ hlt)
        obtain rfl := Option.some.inj e
        have hcw := hc k (hl.out ▸ hlt)
        have hck := (hbel.cell (block_lt_of_cell hcw)).trans hcw
        clear hc e hcw
        obtain ⟨s, hs⟩ : ∃ s, s = ss.getD k ByteArray.empty := ⟨_, rfl⟩
        rw [← hs] at hck
        have HE : Hid (s = ss.getD k ByteArray.empty) := hs
        clear hs
        obtain ⟨⟨u, hu⟩, hfz⟩ := row_at HR.out k hlt
        have HB : Hid (Below w.heap.size w wr) := hbel
        clear hbel
        go_wp2
        go_roundw
        case rel => exact ⟨k + 1, by omega, by go_num, by rw [HE.out]; exact row_step HR.out hlt, HB.out.setCell (Nat.le_refl _) _⟩
        case measure => simp [intOf]; omega
      · go_wp2
        go_ret
        obtain rfl : k = len := by omega
        obtain rfl := hl.out
        exact ⟨_, rfl, hbel, some ⟨w.heap.size, 0, none⟩, rfl, by simp, row_seg HR.out, fun x h => by cases h; exact ⟨Nat.le_refl _, row_lt HR.out⟩⟩

theorem Seg.store {w : World} {a : Option Addr} {ss : List ByteArray} (h : Seg w a ss) {B k : Nat} {u : Value} (ha : ∀ x, a = some x → B < x.block) : Seg (w.setCell ⟨B, k, none⟩ u) a ss := by
  intro j hj
  obtain ⟨b, off, e, hc⟩ := h j hj
  refine ⟨b, off, e, fun i hi => ?_⟩
  rw [World.cell?_setCell_other _ _ _ _ (fun h => by have h1 := ha _ e; cases h; exact Nat.lt_irrefl _ h1)]
  exact hc i hi

/-- The rows of a list of lists, the first k cloned: ys. -/
def Rows2 (wr : World) (B len : Nat) (xs ys : List In) (k : Nat) : Prop :=
  ys.length = k ∧ (∃ cs, wr.ownsRow B 24 1 (.slice (some ⟨B, 0, none⟩) len len) len cs ∧ ∀ i, i < k → cs[i]? = some (sl (ys.getD i none'))) ∧
  (∀ i, i < k → (ys.getD i none').2.1 = (xs.getD i none').2.1) ∧
  ∀ y ∈ ys, (Seg wr y.1 y.2.1 ∧ y.2.1.length ≤ maxLen ∧ (y.1 = none → y.2.2 = 0 ∧ y.2.1 = [])) ∧ ∀ x, y.1 = some x → B < x.block ∧ x.block < wr.heap.size

theorem rows2_at {wr : World} {B len : Nat} {xs ys : List In} {k : Nat} (h : Rows2 wr B len xs ys k) (j : Nat) (hj : j < len) : (∃ u, wr.cell? ⟨B, j, none⟩ = some u) ∧ wr.frozen? ⟨B, j, none⟩ = false := by
  obtain ⟨_, ⟨cs, ho, _⟩, _⟩ := h
  have hc := ho.cellAt j (by omega)
  have hl : cs.length = len * 1 := ho.1
  exact ⟨⟨cs[j]'(by omega), by rw [hc, List.getElem?_eq_getElem]⟩, ho.frozenAt j⟩

theorem owns_below {w w' : World} {base N e size n : Nat} {v : Value} {xs : List Value} (h : w.ownsRow base e size v n xs) (hb : Below N w w') (hN : w.heap.size ≤ N) : w'.ownsRow base e size v n xs := by
  obtain ⟨h1, h2⟩ := h
  refine ⟨h1, ?_⟩
  rcases h2 with h2 | ⟨g, cap, cur, e1, e2, e3, e4⟩
  · exact .inl h2
  · refine .inr ⟨g, cap, cur, e1, e2, ?_, e4⟩
    have hlt : g < w.heap.size := (Array.getElem?_eq_some_iff.1 e3).1
    rw [hb.block g (by omega)]; exact e3

theorem rows2_below {wr w1 : World} {B len : Nat} {xs ys : List In} {k : Nat} (h : Rows2 wr B len xs ys k) (hb : Below wr.heap.size wr w1) : Rows2 w1 B len xs ys k := by
  obtain ⟨h1, ⟨cs, ho, hc⟩, h3, h4⟩ := h
  exact ⟨h1, ⟨cs, owns_below ho hb (Nat.le_refl _), hc⟩, h3, fun y hy => ⟨⟨(h4 y hy).1.1.kept hb, (h4 y hy).1.2⟩, fun x hx => ⟨((h4 y hy).2 x hx).1, Nat.lt_of_lt_of_le ((h4 y hy).2 x hx).2 hb.size⟩⟩⟩

theorem rows2_step {w1 : World} {B len : Nat} {xs ys : List In} {k : Nat} (h : Rows2 w1 B len xs ys k) (hk : k < len) {a' : Option Addr} {ss : List ByteArray} (hss : ss = (xs.getD k none').2.1) (hm : ss.length ≤ maxLen)
    (ha : Seg w1 a' ss) (hn : a' = none → ss = []) (hB : ∀ x, a' = some x → B < x.block ∧ x.block < w1.heap.size) :
    Rows2 (w1.setCell ⟨B, k, none⟩ (.slice a' ss.length ss.length)) B len xs (ys ++ [(a', ss, ss.length)]) (k + 1) := by
  obtain ⟨h1, ⟨cs, ho, hc⟩, h3, h4⟩ := h
  have hl : cs.length = len * 1 := ho.1
  have hnew : (ys ++ [((a', ss, ss.length) : In)]).getD k none' = (a', ss, ss.length) := by simp [List.getD, ← h1]
  have hold : ∀ i, i < k → (ys ++ [((a', ss, ss.length) : In)]).getD i none' = ys.getD i none' := fun i hi => by simp [List.getD, List.getElem?_append_left (show i < ys.length by omega)]
  refine ⟨by simp [h1], ⟨_, (ho.stored k _).1, fun i hi => ?_⟩, fun i hi => ?_, fun y hy => ?_⟩
  · by_cases e : i = k
    · subst e; rw [List.getElem?_set_self (by omega), hnew]; rfl
    · rw [List.getElem?_set_ne (fun h => e h.symm), hold i (by omega)]; exact hc i (by omega)
  · by_cases e : i = k
    · subst e; rw [hnew]; exact hss
    · rw [hold i (by omega)]; exact h3 i (by omega)
  · rcases List.mem_append.1 hy with hy | hy
    · exact ⟨⟨(h4 y hy).1.1.store (fun x hx => ((h4 y hy).2 x hx).1), (h4 y hy).1.2⟩, fun x hx => by simpa using (h4 y hy).2 x hx⟩
    · simp at hy; subst hy
      exact ⟨⟨ha.store (fun x hx => (hB x hx).1), hm, fun h => ⟨by simp [hn h], hn h⟩⟩, fun x hx => by simpa using hB x hx⟩

/-- What a clone of a list of lists leaves. -/
def ClonedL (w : World) (xs : List In) (v : Value) (w' : World) : Prop :=
  Below w.heap.size w w' ∧ ∃ a' ys, v = .slice a' xs.length xs.length ∧ Segs w' a' ys ∧ ys.map (fun y => y.2.1) = xs.map (fun y => y.2.1) ∧ (∀ y ∈ ys, ∀ x, y.1 = some x → x.block < w'.heap.size)

theorem getD_mem' {xs : List In} {k : Nat} (hk : k < xs.length) : xs.getD k none' ∈ xs := by
  rw [List.getD_eq_getElem?_getD, List.getElem?_eq_getElem hk]; exact List.getElem_mem hk

theorem rows2_end {wr : World} {B : Nat} {xs ys : List In} (h : Rows2 wr B xs.length xs ys xs.length) : Segs wr (some ⟨B, 0, none⟩) ys ∧ ys.map (fun y => y.2.1) = xs.map (fun y => y.2.1) ∧ (∀ y ∈ ys, ∀ x, y.1 = some x → x.block < wr.heap.size) := by
  obtain ⟨h1, ⟨cs, ho, hc⟩, h3, h4⟩ := h
  refine ⟨⟨fun k _ => ⟨B, 0, rfl, fun i hi => ?_⟩, fun y hy => (h4 y hy).1⟩, ?_, fun y hy x hx => ((h4 y hy).2 x hx).2⟩
  · rw [Nat.zero_add, ho.cellAt i (by omega)]; exact hc i (by omega)
  · apply List.ext_getElem (by simp [h1])
    intro i hi1 hi2
    simp at hi1 hi2
    have := h3 i hi2
    simpa [List.getD, hi1, hi2] using this

set_option maxHeartbeats 1000000 in
theorem clones_any (a : Option Addr) (xs : List In) (cap len : Nat) (w : World) (HS : Hid (Segs w a xs)) (hl : Hid (len = xs.length)) (hm : len ≤ 65536) (HM : Hid (∀ x ∈ xs, x.2.1.length ≤ 65536)) (HN : Hid (a = none → xs = [] ∧ cap = 0)) :
    Calls Try.prog 12 #[.slice a len cap] w fun e w' => ∃ v, e = .returned v ∧ ClonedL w xs v w' := by
  obtain ⟨i0, hi, hz0, hz1, hz2⟩ := info_parts Try.info24
  have q25 : ∀ (w : World) (a : Option Addr) (n c n' c' : Nat), (binOp .eql 25 (.slice a n c) (.slice none n' c')).run Try.prog w = .ok (.bool a.isNone) w := fun w a n c n' c' => Lib.run_eql_slice_nil w _ _ a n c n' c' Try.underlying25
  cases a with
  | none =>
    obtain ⟨rfl, rfl⟩ := HN.out rfl
    obtain rfl := hl.out
    go_enter Try.func12, Try.ntmps12
    go_wp2
    go_ret
    exact ⟨_, rfl, Below.refl _ _, none, [], rfl, ⟨fun k hk => absurd hk (by simp), fun x hx => by cases hx⟩, rfl, fun y hy => by cases hy⟩
  | some x =>
    clear HN
    go_enter Try.func12, Try.ntmps12
    go_wp2_with (at_make; refine wpList_make_full _ rfl _ _ 25 rfl w.heap.size 24 i0 (.slice none 0 0) 1 Try.underlying25 hi hz0 hz1 _ _ _ _ len rfl rfl rfl rfl (by rw [hz2]; omega) (by unfold maxLen; omega) (Nat.le_refl _) ?_; intro w0 hown0 hgrow0)
    have b0 : Below w.heap.size w w0 := (Below.refl _ _).grown hgrow0 (Nat.le_refl _) (fun k h => by cases h)
    have R0 : Hid (Rows2 w0 w.heap.size len xs [] 0) := ⟨rfl, ⟨_, hown0, fun i hi => absurd hi (by omega)⟩, fun i hi => absurd hi (by omega), fun y hy => by cases hy⟩
    have z0 : w.heap.size < w0.heap.size := by
      obtain ⟨_, h | ⟨g, cap, cur, e1, e2, e3, _⟩⟩ := hown0
      · cases h.1
      · cases e1; exact (Array.getElem?_eq_some_iff.1 e3).1
    clear hown0 hgrow0
    go_loopw [4] (fun i wr => ∃ k : Nat, ∃ ys, k ≤ len ∧ i = .int .i64 k ∧ Hid (Rows2 wr w.heap.size len xs ys k) ∧ Hid (Below w.heap.size w wr) ∧ w.heap.size < wr.heap.size) (fun i _ => len - (intOf i).toNat)
    case atStart => exact ⟨0, [], by omega, rfl, R0, b0, z0⟩
    case round =>
      obtain ⟨k, ys, hk, rfl, HR, HB, hz⟩ := hrel
      by_cases hlt : k < len
      · have hkx : k < xs.length := hl.out ▸ hlt
        obtain ⟨b, off, e, hc⟩ := HS.out.1 k hkx
        obtain rfl := Option.some.inj e
        have hcw := hc k hkx
        have hck := (HB.out.cell (block_lt_of_cell hcw)).trans hcw
        have hin := HS.out.2 _ (getD_mem' hkx)
        have hin2 := HM.out _ (getD_mem' hkx)
        clear hc e hcw hkx
        obtain ⟨y, hy⟩ : ∃ y, y = xs.getD k none' := ⟨_, rfl⟩
        rw [← hy] at hck hin hin2
        have HY : Hid (y = xs.getD k none') := hy
        clear hy
        obtain ⟨ya, yss, yc⟩ := y
        have hck' : wr.cell? ⟨b, off + k, none⟩ = some (.slice ya yss.length yc) := hck
        have hy6 : yss.length ≤ 65536 := hin2
        have HI : Hid (Seg w ya yss ∧ yss.length ≤ maxLen ∧ (ya = none → yc = 0 ∧ yss = [])) := hin
        clear hck hin hin2
        go_wp2_with fail
        refine (clone_any ya yss yc yss.length wr (HI.out.1.kept HB.out) rfl hy6 (fun h => ⟨(HI.out.2.2 h).2, (HI.out.2.2 h).1⟩)).mono ?_
        rintro e w1 ⟨v, rfl, hb1, a', rfl, hnn, hseg, hnew⟩
        have HR1 : Hid (Rows2 w1 w.heap.size len xs ys k) := rows2_below HR.out hb1
        have HB1 : Hid (Below w.heap.size w w1) := HB.out.trans (hb1.mono (by omega))
        have hz1 : w.heap.size < w1.heap.size := Nat.lt_of_lt_of_le hz hb1.size
        have H2 : Hid (Seg w1 a' yss ∧ (a' = none ↔ ya = none) ∧ ∀ x, a' = some x → w.heap.size < x.block ∧ x.block < w1.heap.size) := ⟨hseg, hnn, fun x hx => ⟨Nat.lt_of_lt_of_le hz (hnew x hx).1, (hnew x hx).2⟩⟩
        clear hseg hnn hnew hb1 HR HB
        obtain ⟨⟨u, hu⟩, hfz⟩ := rows2_at HR1.out k hlt
        go_wp2
        go_roundw
        case rel => exact ⟨k + 1, _, by omega, by go_num, rows2_step HR1.out hlt (congrArg (fun y => y.2.1) HY.out) HI.out.2.1 H2.out.1 (fun h => (HI.out.2.2 (H2.out.2.1.1 h)).2) H2.out.2.2, HB1.out.setCell (Nat.le_refl _) _, by simpa using hz1⟩
        case measure => simp [intOf]; omega
      · go_wp2
        go_ret
        obtain rfl : k = len := by omega
        obtain rfl := hl.out
        exact ⟨_, rfl, HB.out, some ⟨w.heap.size, 0, none⟩, ys, rfl, rows2_end HR.out⟩
end Go.Proofs.Qxb6604272a.Sp
