import Derived.Test.Qxb6604272aSpE
import Derived.Deep.RegionLaw
namespace Go.Proofs.Qxb6604272a.Sp
open Go.RowKit

theorem grown_below {W X w1 : World} (hg : X.grownBy w1 none) (hX : Below W.heap.size W X) : Below W.heap.size W w1 :=
  hX.grown hg hX.size (fun k h => by cases h)
theorem below_cell {W w1 : World} {a : Addr} {v : Value} (hb : Below W.heap.size W w1) (h : W.cell? a = some v) : w1.cell? a = some v := (hb.cell (block_lt_of_cell h)).trans h
theorem below_frozen {W w1 : World} {a : Addr} {v : Value} (hb : Below W.heap.size W w1) (h : W.cell? a = some v) (hf : W.frozen? a = false) : w1.frozen? a = false :=
  (hb.frozen (block_lt_of_cell h)).trans hf

theorem seg_one {W : World} {s : ByteArray} {t : TypeId} : Seg (W.drew.alloc (.cells #[.string s] t)) (some ⟨W.heap.size, 0, none⟩) [s] := by
  intro k _
  refine ⟨W.heap.size, 0, rfl, fun i hi => ?_⟩
  simp at hi
  subst hi
  have h : ∀ V : World, (V.alloc (.cells #[.string s] t)).cell? ⟨V.heap.size, 0, none⟩ = some (.string s) := fun V => by simp
  exact h W.drew

theorem below_da {W : World} {o : Obj} : Below W.heap.size W (W.drew.alloc o) := ((Below.refl _ _).drew).alloc (Nat.le_refl _) _

theorem da_or {W : World} {o : Obj} {pa pa' : Option Addr} (hl : ∀ x, pa' = some x → pa' = pa ∨ (W.drew.alloc o).heap.size ≤ x.block) : ∀ x, pa' = some x → pa' = pa ∨ W.heap.size ≤ x.block :=
  fun x hx => match hl x hx with
    | .inl h => .inl h
    | .inr h => .inr (Nat.le_trans (below_da (W := W) (o := o)).size h)

/-- What is known of the slice of parameters, and of the entry's defaults. -/
def Arg (w : World) (T : Nat) (a : Option Addr) (ss : List ByteArray) (n : Nat) : Prop := Seg w a ss ∧ (a = none → ss = []) ∧ n = ss.length ∧ ss.length ≤ 65536 ∧ ∀ x, a = some x → x.block < T

theorem close4 {w W w1 : World} {T pl : Nat} {n : ByteArray} {pa pa' : Option Addr} {ps as' : List ByteArray} {pc : Nat} {sf : ByteArray} {qv : Value} {b0 b1 b2 : Bool} {ch co nm sc : ByteArray} {av : Value}
    (M : Mid w T n (.slice pa pl pl) sf qv b0 b1 b2 ch co nm av sc W) (hp : Arg w T pa ps pl) (h2 : (((pl : Nat) : Int) == 0) = true) (hb : Below W.heap.size W w1) (hs : Seg w1 pa' (ps ++ as')) (hn : pa' = none ↔ pa = none ∧ as' = [])
    (hl : ∀ x, pa' = some x → pa' = pa ∨ W.heap.size ≤ x.block) :
    Spelt w T n pa (wantP ps as' sc) sf qv b0 b1 b2 ch co (w1.setCell ⟨T, 1, none⟩ (.slice pa' (ps.length + as'.length) pc)) := by
  have e0 : pl = 0 := by simpa using h2
  have e1 : ps = [] := List.eq_nil_of_length_eq_zero (by rw [← hp.2.2.1]; exact e0)
  subst e1
  have e2 : wantP [] as' sc = as' := by simp [wantP]
  rw [e2]
  simp only [List.length_nil, Nat.zero_add]
  exact spelt_app M hb (by simpa using hs) hp.2.2.2.2 hl hn

theorem close6 {w W w1 : World} {T pl : Nat} {n : ByteArray} {pa pa' : Option Addr} {ps as' : List ByteArray} {pc : Nat} {sf : ByteArray} {qv : Value} {b0 b1 b2 : Bool} {ch co nm sc : ByteArray} {av : Value}
    (M : Mid w T n (.slice pa pl pl) sf qv b0 b1 b2 ch co nm av sc W) (hp : Arg w T pa ps pl) (h2 : ((pl : Nat) : Int) = 1) (h3 : (!sc.toList.isEmpty) = true) (hb : Below W.heap.size W w1) (hs : Seg w1 pa' (ps ++ [sc])) (hn : pa' = none ↔ pa = none ∧ [sc] = [])
    (hl : ∀ x, pa' = some x → pa' = pa ∨ W.heap.size ≤ x.block) :
    Spelt w T n pa (wantP ps as' sc) sf qv b0 b1 b2 ch co (w1.setCell ⟨T, 1, none⟩ (.slice pa' (ps.length + 1) pc)) := by
  have e0 : ps.length = 1 := by rw [← hp.2.2.1]; omega
  have e1 : ps ≠ [] := by intro e; rw [e] at e0; cases e0
  have e3 : sc.toList ≠ [] := by intro e; rw [e] at h3; simp at h3
  have e2 : wantP ps as' sc = ps ++ [sc] := by simp [wantP, e1, e0, e3]
  rw [e2]
  have := spelt_app (pc := pc) (want := ps ++ [sc]) M hb hs hp.2.2.2.2 hl (by rw [hn]; simp)
  rw [List.length_append] at this
  exact this

theorem close0 {w W : World} {T pl : Nat} {n : ByteArray} {pa : Option Addr} {ps as' : List ByteArray} {sf : ByteArray} {qv : Value} {b0 b1 b2 : Bool} {ch co nm sc : ByteArray} {av : Value}
    (M : Mid w T n (.slice pa pl pl) sf qv b0 b1 b2 ch co nm av sc W) (hp : Arg w T pa ps pl) (h2 : (((pl : Nat) : Int) == 0) = false) (h3 : ¬ ((pl : Nat) : Int) = 1 ∨ (!sc.toList.isEmpty) = false) :
    Spelt w T n pa (wantP ps as' sc) sf qv b0 b1 b2 ch co W := by
  have e0 : pl ≠ 0 := by simpa using h2
  have e1 : ps ≠ [] := by intro e; rw [hp.2.2.1, e] at e0; exact e0 rfl
  have e2 : wantP ps as' sc = ps := by
    unfold wantP
    rw [if_neg e1, if_neg]
    rintro ⟨h4, h5⟩
    rcases h3 with h3 | h3
    · have := hp.2.2.1; omega
    · simp at h3; exact h5 h3
  rw [e2]
  have M' := M
  rw [hp.2.2.1] at M'
  exact spelt_stay M' hp.1 hp.2.2.2.2 hp.2.1

theorem name_set {tn nm : ByteArray} (h : (!nm.toList.isEmpty) = true) : wantN tn nm = nm := by
  have e3 : nm.toList ≠ [] := by intro e; rw [e] at h; simp at h
  simp [wantN, e3]
theorem name_not {tn nm : ByteArray} (h : (!nm.toList.isEmpty) = false) : wantN tn nm = tn := by
  have e3 : nm.toList = [] := by simpa using h
  simp [wantN, e3]

set_option maxRecDepth 100000 in
set_option maxHeartbeats 2000000 in
theorem spell_any (S T : Nat) (m : Option Nat) (kw nm sc tn sf ch co : ByteArray) (aa pa : Option Addr) (as' ps : List ByteArray) (ca la pl : Nat) (qv : Value) (b0 b1 b2 : Bool) (w : World)
    (hS : w.cell? ⟨S, 21, none⟩ = some (.map m))
    (hlook : (Instr.lookup 43 (.map m) (.string kw) false).run Try.prog w = .ok (.agg #[.string nm, .slice aa la ca, .string sc]) w)
    (HT : Hid (TT w T tn (.slice pa pl pl) sf qv b0 b1 b2 ch co)) (HP : Hid (Arg w T pa ps pl)) (HA : Hid (Arg w T aa as' la)) :
    Calls Try.prog 22 #[.pointer (some ⟨S, 0, none⟩), .pointer (some ⟨T, 0, none⟩), .string kw] w fun e w' => e = .returned (.tuple #[]) ∧ Spelt w T (wantN tn nm) pa (wantP ps as' sc) sf qv b0 b1 b2 ch co w' := by
  have M0 : Hid (Mid w T tn (.slice pa pl pl) sf qv b0 b1 b2 ch co nm (.slice aa la ca) sc (w.alloc (.cells #[.string nm, .slice aa la ca, .string sc] 45))) := mid_0 HT.out
  have hTlt : T < w.heap.size := HT.out.lt
  have M1 : Hid (Mid w T nm (.slice pa pl pl) sf qv b0 b1 b2 ch co nm (.slice aa la ca) sc ((w.setCell ⟨T, 0, none⟩ (.string nm)).alloc (.cells #[.string nm, .slice aa la ca, .string sc] 45))) := by
    rw [← World.setCell_alloc_past _ _ _ _ hTlt]; exact mid_1 HT.out.lt M0.out nm
  have hT0 := HT.out.1
  have hT1 := HT.out.2.1
  have hF := HT.out.2.2.2.2.2.2.2.2.2
  go_enter Try.func22, Try.ntmps22
  go_wp2
  · have h1 : (!nm.toList.isEmpty) = true := by assumption
    have h2 : (((pl : Nat) : Int) == 0) = true := by assumption
    clear M0 hT0 hT1 hF hTlt hlook hS HT
    generalize ((w.setCell ⟨T, 0, none⟩ (.string nm)).alloc (.cells #[.string nm, .slice aa la ca, .string sc] 45)) = W at M1 ⊢
    have hW1 := M1.out.2.1.2.1
    have hN1 := M1.out.2.2.1.2.1
    have hfr := M1.out.2.1.2.2.2.2.2.2.2.2.2 1
    go_region_law (refine step_append_str rfl (.tmp 32) (.tmp 34) rfl pa aa ps as' pl la ca (by simp [Act.eval]) (by simp [Act.eval]) (M1.out.2.2.2 _ _ HP.out.1 HP.out.2.2.2.2).drew (M1.out.2.2.2 _ _ HA.out.1 HA.out.2.2.2.2).drew HP.out.2.1 HA.out.2.1 HP.out.2.2.1 HA.out.2.2.1 HP.out.2.2.2.1 HA.out.2.2.2.1 ?_; intro pa' pc w1 hg hs hn hl; have hb := grown_below hg ((Below.refl _ _).drew); have hk2 := below_cell hb hW1; have hk3 := below_frozen hb hW1 hfr)
    all_goals
      go_wp2
      go_end0
      exact ⟨rfl, (name_set (tn := tn) h1).symm ▸ close4 M1.out HP.out h2 hb hs hn hl⟩
  · have h1 : (!nm.toList.isEmpty) = true := by assumption
    have h2 : ((pl : Nat) : Int) = 1 := by assumption
    have h3 : (!sc.toList.isEmpty) = true := by assumption
    clear M0 hT0 hT1 hF hTlt hlook hS HT
    generalize ((w.setCell ⟨T, 0, none⟩ (.string nm)).alloc (.cells #[.string nm, .slice aa la ca, .string sc] 45)) = W at M1 ⊢
    have hW1 := M1.out.2.1.2.1
    have hN2 := M1.out.2.2.1.2.2
    have hfr := M1.out.2.1.2.2.2.2.2.2.2.2.2 1
    have hWT := M1.out.2.1.lt
    go_region_law (refine step_append_str rfl (.tmp 54) (.tmp 57) rfl pa (some ⟨W.heap.size, 0, none⟩) ps [sc] pl 1 1 (by simp [Act.eval]) (by simp [Act.eval]) ((M1.out.2.2.2 _ _ HP.out.1 HP.out.2.2.2.2).kept below_da) seg_one HP.out.2.1 (fun h => by cases h) HP.out.2.2.1 rfl HP.out.2.2.2.1 (by simp) ?_; intro pa' pc w1 hg hs hn hl; have hb := grown_below hg below_da; have hk2 := below_cell hb hW1; have hk3 := below_frozen hb hW1 hfr)
    all_goals
      go_wp2
      go_end0
      exact ⟨rfl, (name_set (tn := tn) h1).symm ▸ close6 M1.out HP.out h2 h3 hb hs hn (da_or hl)⟩
  · have h1 : (!nm.toList.isEmpty) = true := by assumption
    have h2 : (((pl : Nat) : Int) == 0) = false := by assumption
    have h3 : (!sc.toList.isEmpty) = false := by assumption
    go_end0
    exact ⟨rfl, (name_set (tn := tn) h1).symm ▸ close0 M1.out HP.out h2 (.inr h3)⟩
  · have h1 : (!nm.toList.isEmpty) = true := by assumption
    have h2 : (((pl : Nat) : Int) == 0) = false := by assumption
    have h3 : ¬ ((pl : Nat) : Int) = 1 := by assumption
    go_end0
    exact ⟨rfl, (name_set (tn := tn) h1).symm ▸ close0 M1.out HP.out h2 (.inl h3)⟩
  · have h1 : (!nm.toList.isEmpty) = false := by assumption
    have h2 : (((pl : Nat) : Int) == 0) = true := by assumption
    clear M1 hT0 hT1 hF hTlt hlook hS HT
    generalize (w.alloc (.cells #[.string nm, .slice aa la ca, .string sc] 45)) = W at M0 ⊢
    have hW1 := M0.out.2.1.2.1
    have hN1 := M0.out.2.2.1.2.1
    have hfr := M0.out.2.1.2.2.2.2.2.2.2.2.2 1
    go_region_law (refine step_append_str rfl (.tmp 32) (.tmp 34) rfl pa aa ps as' pl la ca (by simp [Act.eval]) (by simp [Act.eval]) (M0.out.2.2.2 _ _ HP.out.1 HP.out.2.2.2.2).drew (M0.out.2.2.2 _ _ HA.out.1 HA.out.2.2.2.2).drew HP.out.2.1 HA.out.2.1 HP.out.2.2.1 HA.out.2.2.1 HP.out.2.2.2.1 HA.out.2.2.2.1 ?_; intro pa' pc w1 hg hs hn hl; have hb := grown_below hg ((Below.refl _ _).drew); have hk2 := below_cell hb hW1; have hk3 := below_frozen hb hW1 hfr)
    all_goals
      go_wp2
      go_end0
      exact ⟨rfl, (name_not (tn := tn) h1).symm ▸ close4 M0.out HP.out h2 hb hs hn hl⟩
  · have h1 : (!nm.toList.isEmpty) = false := by assumption
    have h2 : ((pl : Nat) : Int) = 1 := by assumption
    have h3 : (!sc.toList.isEmpty) = true := by assumption
    clear M1 hT0 hT1 hF hTlt hlook hS HT
    generalize (w.alloc (.cells #[.string nm, .slice aa la ca, .string sc] 45)) = W at M0 ⊢
    have hW1 := M0.out.2.1.2.1
    have hN2 := M0.out.2.2.1.2.2
    have hfr := M0.out.2.1.2.2.2.2.2.2.2.2.2 1
    have hWT := M0.out.2.1.lt
    go_region_law (refine step_append_str rfl (.tmp 54) (.tmp 57) rfl pa (some ⟨W.heap.size, 0, none⟩) ps [sc] pl 1 1 (by simp [Act.eval]) (by simp [Act.eval]) ((M0.out.2.2.2 _ _ HP.out.1 HP.out.2.2.2.2).kept below_da) seg_one HP.out.2.1 (fun h => by cases h) HP.out.2.2.1 rfl HP.out.2.2.2.1 (by simp) ?_; intro pa' pc w1 hg hs hn hl; have hb := grown_below hg below_da; have hk2 := below_cell hb hW1; have hk3 := below_frozen hb hW1 hfr)
    all_goals
      go_wp2
      go_end0
      exact ⟨rfl, (name_not (tn := tn) h1).symm ▸ close6 M0.out HP.out h2 h3 hb hs hn (da_or hl)⟩
  · have h1 : (!nm.toList.isEmpty) = false := by assumption
    have h2 : (((pl : Nat) : Int) == 0) = false := by assumption
    have h3 : (!sc.toList.isEmpty) = false := by assumption
    go_end0
    exact ⟨rfl, (name_not (tn := tn) h1).symm ▸ close0 M0.out HP.out h2 (.inr h3)⟩
  · have h1 : (!nm.toList.isEmpty) = false := by assumption
    have h2 : (((pl : Nat) : Int) == 0) = false := by assumption
    have h3 : ¬ ((pl : Nat) : Int) = 1 := by assumption
    go_end0
    exact ⟨rfl, (name_not (tn := tn) h1).symm ▸ close0 M0.out HP.out h2 (.inl h3)⟩
end Go.Proofs.Qxb6604272a.Sp
