import Derived.Test.Qxb6604272aSpC
import Derived.Test.Qxb6604272aSpD
import Derived.Deep.Upon
import Derived.Deep.RegionHeldLaw
import Derived.Lib.SmallJoins
namespace Go.Proofs.Qxb6604272a.Sp
open Go.RowKit

/-- The nine cells of the type record in block T. -/
def TT (w : World) (T : Nat) (tn : ByteArray) (pv : Value) (sf : ByteArray) (qv : Value) (b0 b1 b2 : Bool) (ch co : ByteArray) : Prop :=
  w.cell? ⟨T, 0, none⟩ = some (.string tn) ∧ w.cell? ⟨T, 1, none⟩ = some pv ∧ w.cell? ⟨T, 2, none⟩ = some (.string sf) ∧ w.cell? ⟨T, 3, none⟩ = some qv ∧ w.cell? ⟨T, 4, none⟩ = some (.bool b0) ∧ w.cell? ⟨T, 5, none⟩ = some (.bool b1) ∧
  w.cell? ⟨T, 6, none⟩ = some (.bool b2) ∧ w.cell? ⟨T, 7, none⟩ = some (.string ch) ∧ w.cell? ⟨T, 8, none⟩ = some (.string co) ∧ ∀ i, w.frozen? ⟨T, i, none⟩ = false

theorem Seg.grown {w w' : World} {a : Option Addr} {ss : List ByteArray} (h : Seg w a ss) (hg : w.grownBy w' none) : Seg w' a ss :=
  h.kept ((Below.refl _ _).grown hg (Nat.le_refl _) (fun k h => by cases h))

theorem seg_cells {w : World} {x : Addr} {ss : List ByteArray} (h : Seg w (some x) ss) (j : Nat) (u : Value) (hj : (ss.map Value.string)[j]? = some u) : w.cell? (x.add j) = some u := by
  rw [List.getElem?_map] at hj
  obtain ⟨s, hs, rfl⟩ := Option.map_eq_some_iff.1 hj
  obtain ⟨h1, h2⟩ := List.getElem?_eq_some_iff.1 hs
  obtain ⟨b, off, e, hc⟩ := h j h1
  obtain rfl := Option.some.inj e
  have := hc j h1
  rw [show (ss.getD j ByteArray.empty) = s by simp [List.getD, h1, h2]] at this
  rw [Addr.add_lit]; exact this

theorem strs_oneCell (ss : List ByteArray) (u : Value) (hu : u ∈ ss.map Value.string) : u.oneCell' = true := by
  obtain ⟨_, _, rfl⟩ := List.mem_map.1 hu; rfl

theorem owns_seg {w : World} {base g cap : Nat} {ss : List ByteArray} (h : w.ownsRow base 9 1 (.slice (some ⟨g, 0, none⟩) ss.length cap) ss.length (ss.map Value.string)) : Seg w (some ⟨g, 0, none⟩) ss := by
  intro k _
  refine ⟨g, 0, rfl, fun i hi => ?_⟩
  rw [Nat.zero_add, h.cellAt i (by omega), List.getElem?_map, List.getElem?_eq_getElem hi]
  simp [List.getD, hi]

/-- append of strings onto a slice whose capacity is its length. -/
theorem append_str (w : World) (ty : TypeId) (pa aa : Option Addr) (ps as' : List ByteArray) (ca : Nat) (hp : Seg w pa ps) (ha : Seg w aa as') (np : pa = none → ps = []) (na : aa = none → as' = [])
    (hl : ps.length ≤ 65536) (hl' : as'.length ≤ 65536) :
    ∃ pa' pc w', (Builtin.append_ #[24, 24] ty #[.slice pa ps.length ps.length, .slice aa as'.length ca]).run Try.prog w = .ok (.slice pa' (ps ++ as').length pc) w' ∧ w.grownBy w' none ∧ Seg w' pa' (ps ++ as') ∧ (pa' = none ↔ pa = none ∧ as' = []) ∧ ∀ x, pa' = some x → pa' = pa ∨ w.heap.size ≤ x.block := by
  obtain ⟨i0, hi, hz0, hz1, hz2⟩ := info_parts Try.info9
  by_cases he : as' = []
  · subst he
    refine ⟨pa, ps.length, w, ?_, World.grownBy.refl _ _, by simpa using hp, by simp, fun x _ => .inl rfl⟩
    rw [List.append_nil]
    refine run_append_nothing w 24 24 ty 9 i0 Try.underlying24 hi pa _ _ (Nat.le_refl _) _ ?_
    cases aa with
    | none => exact Src.ofNil w Try.underlying24 ca
    | some x => exact Src.ofSlice w Try.underlying24 x 0 ca [] (by simp) (fun j u h => by simp at h) (fun u h => by cases h)
  · have hpos : 0 < as'.length := by cases as' with | nil => exact absurd rfl he | cons => simp
    cases aa with
    | none => exact absurd (na rfl) he
    | some x =>
      obtain ⟨v', w', hrun, hown, hgrow⟩ : ∃ v' w', (Builtin.append_ #[24, 24] ty #[.slice pa ps.length ps.length, .slice (some x) as'.length ca]).run Try.prog w = .ok v' w' ∧ w'.ownsRow w.heap.size 9 1 v' (ps.length + as'.length) (ps.map Value.string ++ as'.map Value.string) ∧ w.grownBy w' none := by
        cases pa with
        | some b =>
          exact run_append_arg_grows w 24 ty 9 i0 (.string ByteArray.empty) 1 16 Try.underlying24 hi hz0 hz1 hz2 rfl (by decide) b _ _ (ps.map Value.string) (by simp) (seg_cells hp) x _ ca (as'.map Value.string) (by simp) (seg_cells ha) (by omega) (by unfold maxLen; omega) (by omega)
        | none =>
          obtain rfl := np rfl
          obtain ⟨v', w', r1, r2, r3, _⟩ := run_append_own w w.heap.size 24 ty 9 i0 (.string ByteArray.empty) 1 16 Try.underlying24 hi hz0 hz1 hz2 rfl (by decide) (.slice none 0 0) 0 [] (World.ownsRow_nil w _ 9 1) x as'.length ca (as'.map Value.string) (by simp) (seg_cells ha) (strs_oneCell as') (by unfold maxLen; omega) (by omega) (Nat.le_refl _)
          exact ⟨v', w', r1, by simpa using r2, r3⟩
      obtain ⟨g, cap, rfl⟩ := Joins.ownsRow_form hown (by omega)
      have hbase : w.heap.size ≤ g := by
        obtain ⟨_, h | ⟨g', cap', cur, e1, e2, _⟩⟩ := hown
        · cases h.1
        · cases e1; exact e2
      refine ⟨some ⟨g, 0, none⟩, cap, w', by rw [hrun, List.length_append], hgrow, ?_, by simp [he], fun x h => by cases h; exact .inr hbase⟩
      refine owns_seg (base := w.heap.size) (cap := cap) ?_
      rw [List.map_append, List.length_append]; exact hown

theorem step_append_str {ops : Array Oper} {o : Oper} {a : Act} {w : World} {K : Act → World → Prop} {Q : Exit → Act → World → Prop} {E : Prop}
    (hg : o.guard = none) (s x : Operand) (hop : o.op = Op.call { callee := Callee.builtin Builtin.append, args := #[s, x], argTypes := #[24, 24] })
    (pa aa : Option Addr) (ps as' : List ByteArray) (pl la ca : Nat) (hs : a.eval s = .slice pa pl pl) (hx : a.eval x = .slice aa la ca) (hp : Seg w pa ps) (ha : Seg w aa as') (np : pa = none → ps = []) (na : aa = none → as' = [])
    (hpl : pl = ps.length) (hla : la = as'.length) (hl : ps.length ≤ 65536) (hl' : as'.length ≤ 65536)
    (hK : ∀ pa' pc w', w.grownBy w' none → Seg w' pa' (ps ++ as') → (pa' = none ↔ pa = none ∧ as' = []) → (∀ x, pa' = some x → pa' = pa ∨ w.heap.size ≤ x.block) → K (a.put o.dst (.slice pa' (ps ++ as').length pc)) w') :
    if Region.wanted o (yielded ops a.tmps) = true then Oper.wp Try.prog o a w K Q else E := by
  have hw : Region.wanted o (yielded ops a.tmps) = true := by simp [Region.wanted, hg]
  rw [if_pos hw]
  subst hpl hla
  obtain ⟨pa', pc, w', hrun, r1, r2, r3, r4⟩ := append_str w o.type pa aa ps as' ca hp ha np na hl hl'
  unfold Oper.wp
  simp [execOp, hop, resolve, invoke, builtin, hs, hx, hrun, Result.andThen]
  have h := hK pa' pc w' r1 r2 r3 r4
  rw [List.length_append] at h
  exact h

def wantN (tn nm : ByteArray) : ByteArray := if nm.toList = [] then tn else nm
def wantP (ps as' : List ByteArray) (sc : ByteArray) : List ByteArray := if ps = [] then as' else if ps.length = 1 ∧ sc.toList ≠ [] then ps ++ [sc] else ps

/-- What spell leaves. -/
def Spelt (w : World) (T : Nat) (tn : ByteArray) (pa : Option Addr) (want : List ByteArray) (sf : ByteArray) (qv : Value) (b0 b1 b2 : Bool) (ch co : ByteArray) (w' : World) : Prop :=
  Below T w w' ∧ ∃ pa' pc, TT w' T tn (.slice pa' want.length pc) sf qv b0 b1 b2 ch co ∧ Seg w' pa' want ∧ (pa' = none ↔ pa = none ∧ want = [])

theorem Seg.drew {w : World} {a : Option Addr} {ss : List ByteArray} (h : Seg w a ss) : Seg w.drew a ss := by
  intro k hk
  obtain ⟨b, off, e, hc⟩ := h k hk
  exact ⟨b, off, e, fun i hi => by simpa using hc i hi⟩

theorem TT.set {w : World} {T : Nat} {tn : ByteArray} {pv : Value} {sf : ByteArray} {qv : Value} {b0 b1 b2 : Bool} {ch co : ByteArray} (h : TT w T tn pv sf qv b0 b1 b2 ch co) :
    (∀ tn', TT (w.setCell ⟨T, 0, none⟩ (.string tn')) T tn' pv sf qv b0 b1 b2 ch co) ∧ ∀ pv', TT (w.setCell ⟨T, 1, none⟩ pv') T tn pv' sf qv b0 b1 b2 ch co := by
  obtain ⟨h0, h1, h2, h3, h4, h5, h6, h7, h8, hf⟩ := h
  constructor
  · intro tn'
    refine ⟨World.cell?_setCell_same _ _ _ h0, ?_, ?_, ?_, ?_, ?_, ?_, ?_, ?_, fun i => by simpa using hf i⟩
    all_goals (rw [World.cell?_setCell_other _ _ _ _ (by simp)]; assumption)
  · intro pv'
    refine ⟨?_, World.cell?_setCell_same _ _ _ h1, ?_, ?_, ?_, ?_, ?_, ?_, ?_, fun i => by simpa using hf i⟩
    all_goals (rw [World.cell?_setCell_other _ _ _ _ (by simp)]; assumption)

theorem TT.lt {w : World} {T : Nat} {tn : ByteArray} {pv : Value} {sf : ByteArray} {qv : Value} {b0 b1 b2 : Bool} {ch co : ByteArray} (h : TT w T tn pv sf qv b0 b1 b2 ch co) : T < w.heap.size := block_lt_of_cell h.1

theorem TT.below {w w' : World} {B T : Nat} {tn : ByteArray} {pv : Value} {sf : ByteArray} {qv : Value} {b0 b1 b2 : Bool} {ch co : ByteArray} (h : TT w T tn pv sf qv b0 b1 b2 ch co) (hb : Below B w w') (hB : T < B) : TT w' T tn pv sf qv b0 b1 b2 ch co := by
  obtain ⟨h0, h1, h2, h3, h4, h5, h6, h7, h8, hf⟩ := h
  exact ⟨(hb.cell hB).trans h0, (hb.cell hB).trans h1, (hb.cell hB).trans h2, (hb.cell hB).trans h3, (hb.cell hB).trans h4, (hb.cell hB).trans h5, (hb.cell hB).trans h6, (hb.cell hB).trans h7, (hb.cell hB).trans h8, fun i => (hb.frozen hB).trans (hf i)⟩

theorem Seg.other {w : World} {a : Option Addr} {ss : List ByteArray} (h : Seg w a ss) {T k : Nat} {u : Value} (ha : ∀ x, a = some x → x.block ≠ T) : Seg (w.setCell ⟨T, k, none⟩ u) a ss := by
  intro j hj
  obtain ⟨b, off, e, hc⟩ := h j hj
  refine ⟨b, off, e, fun i hi => ?_⟩
  rw [World.cell?_setCell_other _ _ _ _ (fun h => by have h1 := ha _ e; cases h; exact h1 rfl)]
  exact hc i hi

/-- The world ahead of the switch: the name is set. -/
def Mid (w : World) (T : Nat) (tn : ByteArray) (pv : Value) (sf : ByteArray) (qv : Value) (b0 b1 b2 : Bool) (ch co : ByteArray) (nm : ByteArray) (av : Value) (sc : ByteArray) (W : World) : Prop :=
  Below T w W ∧ TT W T tn pv sf qv b0 b1 b2 ch co ∧ (W.cell? ⟨w.heap.size, 0, none⟩ = some (.string nm) ∧ W.cell? ⟨w.heap.size, 1, none⟩ = some av ∧ W.cell? ⟨w.heap.size, 2, none⟩ = some (.string sc)) ∧
  (∀ a ss, Seg w a ss → (∀ x, a = some x → x.block < T) → Seg W a ss)

theorem mid_0 {w : World} {T : Nat} {tn : ByteArray} {pv : Value} {sf : ByteArray} {qv : Value} {b0 b1 b2 : Bool} {ch co nm sc : ByteArray} {av : Value} {t : TypeId} (h : TT w T tn pv sf qv b0 b1 b2 ch co) :
    Mid w T tn pv sf qv b0 b1 b2 ch co nm av sc (w.alloc (.cells #[.string nm, av, .string sc] t)) := by
  have hb : Below w.heap.size w (w.alloc (.cells #[.string nm, av, .string sc] t)) := (Below.refl _ _).alloc (Nat.le_refl _) _
  exact ⟨hb.mono (Nat.le_of_lt h.lt), h.below hb h.lt, ⟨by simp, by simp, by simp⟩, fun a ss hs _ => hs.kept hb⟩

theorem mid_1 {w : World} {T : Nat} {tn : ByteArray} {pv : Value} {sf : ByteArray} {qv : Value} {b0 b1 b2 : Bool} {ch co nm sc : ByteArray} {av : Value} {W : World} (hT : T < w.heap.size) (h : Mid w T tn pv sf qv b0 b1 b2 ch co nm av sc W) (tn' : ByteArray) :
    Mid w T tn' pv sf qv b0 b1 b2 ch co nm av sc (W.setCell ⟨T, 0, none⟩ (.string tn')) := by
  obtain ⟨h1, h2, ⟨h3, h4, h5⟩, h6⟩ := h
  have hne : ∀ i j, (⟨T, i, none⟩ : Addr) ≠ ⟨w.heap.size, j, none⟩ := fun i j e => by cases e; exact Nat.lt_irrefl _ hT
  refine ⟨h1.setCell (Nat.le_refl _) _, h2.set.1 tn', ⟨?_, ?_, ?_⟩, fun a ss hs ha => (h6 a ss hs ha).other (fun x hx => Nat.ne_of_lt (ha x hx))⟩
  · rw [World.cell?_setCell_other _ _ _ _ (hne _ _)]; exact h3
  · rw [World.cell?_setCell_other _ _ _ _ (hne _ _)]; exact h4
  · rw [World.cell?_setCell_other _ _ _ _ (hne _ _)]; exact h5

theorem spelt_stay {w : World} {T : Nat} {tn : ByteArray} {pa : Option Addr} {ps : List ByteArray} {pc : Nat} {sf : ByteArray} {qv : Value} {b0 b1 b2 : Bool} {ch co nm sc : ByteArray} {av : Value} {W : World}
    (h : Mid w T tn (.slice pa ps.length pc) sf qv b0 b1 b2 ch co nm av sc W) (hp : Seg w pa ps) (hx : ∀ x, pa = some x → x.block < T) (hn : pa = none → ps = []) : Spelt w T tn pa ps sf qv b0 b1 b2 ch co W :=
  ⟨h.1, pa, pc, h.2.1, h.2.2.2 _ _ hp hx, ⟨fun h => ⟨h, hn h⟩, fun h => h.1⟩⟩

theorem spelt_app {w : World} {T : Nat} {tn : ByteArray} {pa pa' : Option Addr} {want : List ByteArray} {pc : Nat} {pv : Value} {sf : ByteArray} {qv : Value} {b0 b1 b2 : Bool} {ch co nm sc : ByteArray} {av : Value} {W w1 : World}
    (h : Mid w T tn pv sf qv b0 b1 b2 ch co nm av sc W) (hb : Below W.heap.size W w1) (hs : Seg w1 pa' want) (hx : ∀ x, pa = some x → x.block < T) (hl : ∀ x, pa' = some x → pa' = pa ∨ W.heap.size ≤ x.block)
    (hn : pa' = none ↔ pa = none ∧ want = []) : Spelt w T tn pa want sf qv b0 b1 b2 ch co (w1.setCell ⟨T, 1, none⟩ (.slice pa' want.length pc)) := by
  refine ⟨(h.1.trans (hb.mono (Nat.le_of_lt h.2.1.lt))).setCell (Nat.le_refl _) _, pa', pc, (h.2.1.below hb h.2.1.lt).set.2 _, hs.other (fun x hx' => ?_), hn⟩
  rcases hl x hx' with e | e
  · exact Nat.ne_of_lt (hx x (e ▸ hx'))
  · have := h.2.1.lt; omega

end Go.Proofs.Qxb6604272a.Sp
