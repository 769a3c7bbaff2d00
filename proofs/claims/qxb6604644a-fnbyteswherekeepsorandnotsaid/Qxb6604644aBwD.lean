import Derived.Test.Qxb6604644aBwC
import Derived.Deep.WholeRow
import Derived.Deep.QuietTactic
import Derived.BigQuiet
namespace Go.Proofs.Qxb6604644a.Bw
open Go.RowKit

/-- 256 times false. -/
def ZA : Array Value := (List.replicate 256 (.bool false)).toArray
theorem info22z : (Try.prog.info? 22).map (fun i => (i.zero, i.size)) = some (some (.agg ZA), 256) := by kernel_rfl

/-- A table of 256 bools lies in block b. -/
def Arr (w : World) (b : Nat) (f : Nat → Bool) : Prop := ∀ i, i < 256 → w.cell? ⟨b, i, none⟩ = some (.bool (f i))
/-- f at the first k places. -/
def pk (f : Nat → Bool) (k i : Nat) : Bool := decide (i < k) && f i

theorem Arr.kept {w w' : World} {b : Nat} {f : Nat → Bool} (h : Arr w b f) (hb : Below w.heap.size w w') : Arr w' b f := fun i hi => below_cell hb (h i hi)
theorem Arr.set {w : World} {b k : Nat} {f : Nat → Bool} (h : Arr w b (pk f k)) {v : Bool} (hv : v = f k) : Arr (w.setCell ⟨b, k, none⟩ (.bool v)) b (pk f (k + 1)) := by
  intro i hi
  by_cases e : i = k
  · subst e
    rw [World.cell?_setCell_same _ _ _ (h i hi), hv]
    simp [pk]
  · rw [World.cell?_setCell_other _ _ _ _ (fun h => e (congrArg Addr.off h).symm), h i hi]
    have : decide (i < k) = decide (i < k + 1) := by rw [decide_eq_decide]; omega
    simp [pk, this]
theorem Arr.other {w : World} {b b' k : Nat} {f : Nat → Bool} {v : Value} (h : Arr w b f) (hne : b ≠ b') : Arr (w.setCell ⟨b', k, none⟩ v) b f := by
  intro i hi
  rw [World.cell?_setCell_other _ _ _ _ (fun h => hne (congrArg Addr.block h).symm)]; exact h i hi
theorem Arr.done {w : World} {b : Nat} {f : Nat → Bool} (h : Arr w b (pk f 256)) : Arr w b f := fun i hi => by rw [h i hi]; simp [pk, hi]
theorem arr_zero {w : World} (f : Nat → Bool) (ty : TypeId) : Arr (w.alloc (.cells ZA ty)) w.heap.size (pk f 0) := by
  intro i hi
  have e : (w.alloc (.cells ZA ty)).cell? ⟨w.heap.size, i, none⟩ = ZA[i]? := by simp
  rw [e]
  have : ZA[i]? = some (.bool false) := by
    show ((List.replicate 256 (Value.bool false)).toArray)[i]? = _
    rw [List.getElem?_toArray, List.getElem?_replicate, if_pos hi]
  rw [this]; simp [pk]

theorem frz (V : World) (c : Array Value) (ty : TypeId) (i : Nat) : (V.alloc (.cells c ty)).frozen? ⟨V.heap.size, i, none⟩ = false := by simp

/-- A table, as cells. -/
def tabL (f : Nat → Bool) : List Value := (List.range 256).map fun i => .bool (f i)
theorem tabL_len (f : Nat → Bool) : (Try.prog.info? 22).map (·.size) = some (tabL f).length := by
  rw [show (tabL f).length = 256 by simp [tabL]]; exact info22
theorem tabL_tab (f : Nat → Bool) : Tab (tabL f).toArray f := by
  refine ⟨by simp [tabL], fun i hi => ?_⟩
  simp [tabL, hi]
theorem Arr.range {w : World} {b : Nat} {f : Nat → Bool} (h : Arr w b f) : w.rangeAt b 0 (tabL f) := by
  intro j v hv
  have hj : j < 256 := by
    have := (List.getElem?_eq_some_iff.1 hv).1
    simpa [tabL] using this
  have e : (tabL f)[j]? = some (.bool (f j)) := by simp [tabL, hj]
  rw [e] at hv
  rw [Nat.zero_add, h j hj]; exact hv

/-- The tables behind k rounds. -/
def St2 (w wr : World) (t u : Nat → Bool) (k : Nat) : Prop :=
  Below w.heap.size w wr ∧ Arr wr w.heap.size t ∧ Arr wr (w.heap.size + 1) u ∧
  Arr wr (w.heap.size + 1 + 1) (pk (fun i => t i || u i) k) ∧ Arr wr (w.heap.size + 1 + 1 + 1) (pk (fun i => t i && u i) k) ∧ Arr wr (w.heap.size + 1 + 1 + 1 + 1) (pk (fun i => !t i) k) ∧
  (∀ i, wr.frozen? ⟨w.heap.size + 1 + 1, i, none⟩ = false) ∧ (∀ i, wr.frozen? ⟨w.heap.size + 1 + 1 + 1, i, none⟩ = false) ∧ (∀ i, wr.frozen? ⟨w.heap.size + 1 + 1 + 1 + 1, i, none⟩ = false)

theorem st2_start (w : World) (cs ds : Array Value) (t u : Nat → Bool) (ht : Tab cs t) (hu : Tab ds u) :
    St2 w (((((w.alloc (.cells cs 22)).alloc (.cells ds 22)).alloc (.cells ZA 22)).alloc (.cells ZA 22)).alloc (.cells ZA 22)) t u 0 := by
  have up : ∀ (W : World) (o : Obj), Below W.heap.size W (W.alloc o) := fun W o => (Below.refl _ _).alloc (Nat.le_refl _) _
  have s1 : (w.alloc (.cells cs 22)).heap.size = w.heap.size + 1 := by simp
  have s2 : ((w.alloc (.cells cs 22)).alloc (.cells ds 22)).heap.size = w.heap.size + 1 + 1 := by simp
  have s3 : (((w.alloc (.cells cs 22)).alloc (.cells ds 22)).alloc (.cells ZA 22)).heap.size = w.heap.size + 1 + 1 + 1 := by simp
  have s4 : ((((w.alloc (.cells cs 22)).alloc (.cells ds 22)).alloc (.cells ZA 22)).alloc (.cells ZA 22)).heap.size = w.heap.size + 1 + 1 + 1 + 1 := by simp
  have a0 : Arr (w.alloc (.cells cs 22)) w.heap.size t := fun i hi => tab_new ht i hi
  have a1 : Arr ((w.alloc (.cells cs 22)).alloc (.cells ds 22)) (w.heap.size + 1) u := by rw [← s1]; exact fun i hi => tab_new hu i hi
  have a2 := arr_zero (w := (w.alloc (.cells cs 22)).alloc (.cells ds 22)) (fun i => t i || u i) 22
  rw [s2] at a2
  have a3 := arr_zero (w := ((w.alloc (.cells cs 22)).alloc (.cells ds 22)).alloc (.cells ZA 22)) (fun i => t i && u i) 22
  rw [s3] at a3
  have a4 := arr_zero (w := (((w.alloc (.cells cs 22)).alloc (.cells ds 22)).alloc (.cells ZA 22)).alloc (.cells ZA 22)) (fun i => !t i) 22
  rw [s4] at a4
  refine ⟨?_, ((((a0.kept (up _ _)).kept (up _ _)).kept (up _ _)).kept (up _ _)), (((a1.kept (up _ _)).kept (up _ _)).kept (up _ _)), ((a2.kept (up _ _)).kept (up _ _)), a3.kept (up _ _), a4, fun i => ?_, fun i => ?_, fun i => ?_⟩
  · exact below_up (below_up (below_up (below_up (up _ _) (up _ _)) (up _ _)) (up _ _)) (up _ _)
  · have h := frz ((w.alloc (.cells cs 22)).alloc (.cells ds 22)) ZA 22 i
    rw [s2] at h
    exact ((below_up (up _ _) (up _ _)).frozen (p := ⟨w.heap.size + 1 + 1, i, none⟩) (by rw [s3]; exact Nat.lt_succ_self _)).trans h
  · have h := frz (((w.alloc (.cells cs 22)).alloc (.cells ds 22)).alloc (.cells ZA 22)) ZA 22 i
    rw [s3] at h
    exact ((up _ _).frozen (p := ⟨w.heap.size + 1 + 1 + 1, i, none⟩) (by rw [s4]; exact Nat.lt_succ_self _)).trans h
  · have h := frz ((((w.alloc (.cells cs 22)).alloc (.cells ds 22)).alloc (.cells ZA 22)).alloc (.cells ZA 22)) ZA 22 i
    rw [s4] at h
    exact h

theorem st2_step {w wr : World} {t u : Nat → Bool} {k : Nat} (h : St2 w wr t u k) {v1 v2 v3 : Bool} (h1 : v1 = (t k || u k)) (h2 : v2 = (t k && u k)) (h3 : v3 = !t k) :
    St2 w (((wr.setCell ⟨w.heap.size + 1 + 1, k, none⟩ (.bool v1)).setCell ⟨w.heap.size + 1 + 1 + 1, k, none⟩ (.bool v2)).setCell ⟨w.heap.size + 1 + 1 + 1 + 1, k, none⟩ (.bool v3)) t u (k + 1) := by
  obtain ⟨b, a0, a1, a2, a3, a4, f2, f3, f4⟩ := h
  refine ⟨((b.setCell (by simp; omega) _).setCell (by simp; omega) _).setCell (by simp; omega) _, ((a0.other (by omega)).other (by omega)).other (by omega), ((a1.other (by omega)).other (by omega)).other (by omega),
    ((a2.set h1).other (by omega)).other (by omega), ((a3.other (by omega)).set h2).other (by omega), ((a4.other (by omega)).other (by omega)).set h3, fun i => by simpa using f2 i, fun i => by simpa using f3 i, fun i => by simpa using f4 i⟩

theorem drewN_below {w W : World} (h : Below w.heap.size w W) (n : Nat) : Below w.heap.size w (W.drewN n) := ⟨h.os, h.tape, h.output, h.size, h.block⟩

theorem pw_one {x y q : Nat} {f : Nat → Bool} (hq : q < 4) (hx : PW x q f 256) (hy : y < 18446744073709551616) (h : ∀ j, j < 64 → y.testBit j = f (64 * q + j)) : y = x := by
  apply Nat.eq_of_testBit_eq
  intro j
  by_cases hj : j < 64
  · rw [h j hj, hx.2 j hj]
    simp only [show 64 * q + j < 256 by omega, decide_true, Bool.true_and]
  · have big : ∀ z : Nat, z < 18446744073709551616 → z.testBit j = false := fun z hz => Nat.testBit_lt_two_pow (Nat.lt_of_lt_of_le hz (by rw [show (18446744073709551616 : Nat) = 2 ^ 64 by decide]; exact Nat.pow_le_pow_right (by decide) (by omega)))
    rw [big _ hy, big _ hx.1]
theorem pw_bit {x q : Nat} {f : Nat → Bool} (hq : q < 4) (hx : PW x q f 256) (j : Nat) (hj : j < 64) : x.testBit j = f (64 * q + j) := by
  rw [hx.2 j hj]
  simp only [show 64 * q + j < 256 by omega, decide_true, Bool.true_and]

theorem words_or {xa xb xo q : Nat} {t u : Nat → Bool} (hq : q < 4) (ha : PW xa q t 256) (hb : PW xb q u 256) (ho : PW xo q (fun i => t i || u i) 256) : bits .or .u64 (xa : Int) (xb : Int) = (xo : Int) := by
  rw [bits_or_u64_nat xa xb ha.1 hb.1]
  congr 1
  refine pw_one hq ho (Nat.or_lt_two_pow (n := 64) ha.1 hb.1) fun j hj => ?_
  rw [Nat.testBit_or, pw_bit hq ha j hj, pw_bit hq hb j hj]
theorem words_and {xa xb xo q : Nat} {t u : Nat → Bool} (hq : q < 4) (ha : PW xa q t 256) (hb : PW xb q u 256) (ho : PW xo q (fun i => t i && u i) 256) : bits .and .u64 (xa : Int) (xb : Int) = (xo : Int) := by
  rw [bits_and_u64_nat xa xb ha.1 hb.1]
  congr 1
  refine pw_one hq ho (Nat.and_lt_two_pow (n := 64) _ hb.1) fun j hj => ?_
  rw [Nat.testBit_and, pw_bit hq ha j hj, pw_bit hq hb j hj]

theorem words_not {xa xo q : Nat} {t : Nat → Bool} (hq : q < 4) (ha : PW xa q t 256) (ho : PW xo q (fun i => !t i) 256) : bits .xor .u64 (if IntKind.u64.signed = true then -1 else IntKind.u64.max) (xa : Int) = (xo : Int) := by
  have e : (if IntKind.u64.signed = true then (-1 : Int) else IntKind.u64.max) = ((18446744073709551615 : Nat) : Int) := by decide
  rw [e, bits_xor_u64_nat 18446744073709551615 xa (by decide) ha.1]
  congr 1
  refine pw_one hq ho (Nat.xor_lt_two_pow (n := 64) (by decide) ha.1) fun j hj => ?_
  rw [Nat.testBit_xor, pw_bit hq ha j hj, show (18446744073709551615 : Nat) = 2 ^ 64 - 1 by decide, Nat.testBit_two_pow_sub_one]
  simp [hj]

/-- The four words of f's set lie in block b. -/
def WordsAt (w : World) (b : Nat) (f : Nat → Bool) : Prop := ∀ q, q < 4 → ∃ x : Nat, w.cell? ⟨b, q, none⟩ = some (.int .u64 x) ∧ PW x q f 256
theorem WordsAt.kept {w w' : World} {b : Nat} {f : Nat → Bool} (h : WordsAt w b f) (hb : Below w.heap.size w w') : WordsAt w' b f :=
  fun q hq => let ⟨x, h1, h2⟩ := h q hq; ⟨x, below_cell hb h1, h2⟩

set_option maxRecDepth 100000 in
set_option maxHeartbeats 4000000 in
theorem keeps_any (cs ds : Array Value) (t u : Nat → Bool) (w : World) (HT : Hid (Tab cs t)) (HU : Hid (Tab ds u)) :
    Calls Try.prog 4 #[.agg cs, .agg ds] w fun e w' => e = .returned (.bool true) ∧ Below w.heap.size w w' := by
  have z22 := (zero_of_info info22z).1
  go_enter Try.func4, Try.ntmps4
  go_wp2_with fail
  clear z22
  have S0 : Hid (St2 w _ t u 0) := st2_start w cs ds t u HT.out HU.out
  go_loopw [8] (fun i wr => ∃ k : Nat, k ≤ 256 ∧ i = .int .i64 k ∧ Hid (St2 w wr t u k)) (fun i _ => 256 - (intOf i).toNat)
  case atStart => exact ⟨0, by omega, rfl, S0⟩
  case round =>
    obtain ⟨k, hk, rfl, HS⟩ := hrel
    clear S0
    by_cases hlt : k < 256
    · have c0 := HS.out.2.1 k hlt
      have c1 := HS.out.2.2.1 k hlt
      have c2 := HS.out.2.2.2.1 k hlt
      have c3 := HS.out.2.2.2.2.1 k hlt
      have c4 := HS.out.2.2.2.2.2.1 k hlt
      have f2 := HS.out.2.2.2.2.2.2.1 k
      have f3 := HS.out.2.2.2.2.2.2.2.1 k
      have f4 := HS.out.2.2.2.2.2.2.2.2 k
      generalize pk (fun i => t i || u i) k k = o1 at c2
      generalize pk (fun i => t i && u i) k k = o2 at c3
      generalize pk (fun i => !t i) k k = o3 at c4
      cases htk : t k <;> cases huk : u k
      all_goals
        rw [htk] at c0
        rw [huk] at c1
        have HT1 : Hid (t k = _) := htk
        have HU1 : Hid (u k = _) := huk
        clear htk huk
        go_wp2
        go_roundw
        case rel => exact ⟨k + 1, by omega, by go_num, st2_step HS.out (by rw [HT1.out, HU1.out]; rfl) (by rw [HT1.out, HU1.out]; rfl) (by rw [HT1.out]; rfl)⟩
        case measure => simp [intOf]; omega
    · obtain rfl : k = 256 := by omega
      have HB : Hid (Below w.heap.size w wr) := HS.out.1
      have A0 : Hid (Arr wr w.heap.size t) := HS.out.2.1
      have A1 : Hid (Arr wr (w.heap.size + 1) u) := HS.out.2.2.1
      have A2 : Hid (Arr wr (w.heap.size + 1 + 1) (fun i => t i || u i)) := HS.out.2.2.2.1.done
      have A3 : Hid (Arr wr (w.heap.size + 1 + 1 + 1) (fun i => t i && u i)) := HS.out.2.2.2.2.1.done
      have A4 : Hid (Arr wr (w.heap.size + 1 + 1 + 1 + 1) (fun i => !t i)) := HS.out.2.2.2.2.2.1.done
      clear HS HT HU hlt hk
      go_wp2_with (refine wpList_load_mid rfl 22 (.tmp 2) rfl w.heap.size 0 rfl (tabL t) _ A0.out.range Try.underlying22 rfl (tabL_len t) ?_)
      refine (zz_any (tabL t).toArray t wr (tabL_tab t)).mono ?_
      rintro e W0 ⟨y00, y01, y02, y03, rfl, hb, hw⟩
      have hA := below_up hb ((Below.refl _ W0).alloc (Nat.le_refl _) (.cells #[.int .u64 y00, .int .u64 y01, .int .u64 y02, .int .u64 y03] 24))
      replace A1 : Hid (Arr (W0.alloc (.cells #[.int .u64 y00, .int .u64 y01, .int .u64 y02, .int .u64 y03] 24)) (w.heap.size + 1) u) := A1.out.kept hA
      replace A2 : Hid (Arr (W0.alloc (.cells #[.int .u64 y00, .int .u64 y01, .int .u64 y02, .int .u64 y03] 24)) (w.heap.size + 1 + 1) (fun i => t i || u i)) := A2.out.kept hA
      replace A3 : Hid (Arr (W0.alloc (.cells #[.int .u64 y00, .int .u64 y01, .int .u64 y02, .int .u64 y03] 24)) (w.heap.size + 1 + 1 + 1) (fun i => t i && u i)) := A3.out.kept hA
      replace A4 : Hid (Arr (W0.alloc (.cells #[.int .u64 y00, .int .u64 y01, .int .u64 y02, .int .u64 y03] 24)) (w.heap.size + 1 + 1 + 1 + 1) (fun i => !t i)) := A4.out.kept hA
      have X0 : Hid (WordsAt (W0.alloc (.cells #[.int .u64 y00, .int .u64 y01, .int .u64 y02, .int .u64 y03] 24)) W0.heap.size t) := fun q hq => words_new W0 t y00 y01 y02 y03 hw 24 q hq
      replace HB : Hid (Below w.heap.size w (W0.alloc (.cells #[.int .u64 y00, .int .u64 y01, .int .u64 y02, .int .u64 y03] 24))) := below_up HB.out hA
      clear hA hb hw A0
      go_wp2_with (refine wpList_load_mid rfl 22 (.tmp 3) rfl (w.heap.size + 1) 0 rfl (tabL u) _ A1.out.range Try.underlying22 rfl (tabL_len u) ?_)
      generalize (W0.alloc (.cells #[.int .u64 y00, .int .u64 y01, .int .u64 y02, .int .u64 y03] 24)) = V1 at A1 A2 A3 A4 X0 HB ⊢
      refine (zz_any (tabL u).toArray u V1 (tabL_tab u)).mono ?_
      rintro e W1 ⟨y10, y11, y12, y13, rfl, hb, hw⟩
      have hA := below_up hb ((Below.refl _ W1).alloc (Nat.le_refl _) (.cells #[.int .u64 y10, .int .u64 y11, .int .u64 y12, .int .u64 y13] 24))
      replace A2 : Hid (Arr (W1.alloc (.cells #[.int .u64 y10, .int .u64 y11, .int .u64 y12, .int .u64 y13] 24)) (w.heap.size + 1 + 1) (fun i => t i || u i)) := A2.out.kept hA
      replace A3 : Hid (Arr (W1.alloc (.cells #[.int .u64 y10, .int .u64 y11, .int .u64 y12, .int .u64 y13] 24)) (w.heap.size + 1 + 1 + 1) (fun i => t i && u i)) := A3.out.kept hA
      replace A4 : Hid (Arr (W1.alloc (.cells #[.int .u64 y10, .int .u64 y11, .int .u64 y12, .int .u64 y13] 24)) (w.heap.size + 1 + 1 + 1 + 1) (fun i => !t i)) := A4.out.kept hA
      replace X0 : Hid (WordsAt (W1.alloc (.cells #[.int .u64 y10, .int .u64 y11, .int .u64 y12, .int .u64 y13] 24)) W0.heap.size t) := X0.out.kept hA
      have X1 : Hid (WordsAt (W1.alloc (.cells #[.int .u64 y10, .int .u64 y11, .int .u64 y12, .int .u64 y13] 24)) W1.heap.size u) := fun q hq => words_new W1 u y10 y11 y12 y13 hw 24 q hq
      replace HB : Hid (Below w.heap.size w (W1.alloc (.cells #[.int .u64 y10, .int .u64 y11, .int .u64 y12, .int .u64 y13] 24))) := below_up HB.out hA
      clear hA hb hw A1
      go_wp2_with (refine wpList_load_mid rfl 22 (.tmp 5) rfl (w.heap.size + 1 + 1) 0 rfl (tabL (fun i => t i || u i)) _ A2.out.range Try.underlying22 rfl (tabL_len (fun i => t i || u i)) ?_)
      generalize (W1.alloc (.cells #[.int .u64 y10, .int .u64 y11, .int .u64 y12, .int .u64 y13] 24)) = V2 at A2 A3 A4 X0 X1 HB ⊢
      refine (zz_any (tabL (fun i => t i || u i)).toArray (fun i => t i || u i) V2 (tabL_tab (fun i => t i || u i))).mono ?_
      rintro e W2 ⟨y20, y21, y22, y23, rfl, hb, hw⟩
      have hA := below_up hb ((Below.refl _ W2).alloc (Nat.le_refl _) (.cells #[.int .u64 y20, .int .u64 y21, .int .u64 y22, .int .u64 y23] 24))
      replace A3 : Hid (Arr (W2.alloc (.cells #[.int .u64 y20, .int .u64 y21, .int .u64 y22, .int .u64 y23] 24)) (w.heap.size + 1 + 1 + 1) (fun i => t i && u i)) := A3.out.kept hA
      replace A4 : Hid (Arr (W2.alloc (.cells #[.int .u64 y20, .int .u64 y21, .int .u64 y22, .int .u64 y23] 24)) (w.heap.size + 1 + 1 + 1 + 1) (fun i => !t i)) := A4.out.kept hA
      replace X0 : Hid (WordsAt (W2.alloc (.cells #[.int .u64 y20, .int .u64 y21, .int .u64 y22, .int .u64 y23] 24)) W0.heap.size t) := X0.out.kept hA
      replace X1 : Hid (WordsAt (W2.alloc (.cells #[.int .u64 y20, .int .u64 y21, .int .u64 y22, .int .u64 y23] 24)) W1.heap.size u) := X1.out.kept hA
      have X2 : Hid (WordsAt (W2.alloc (.cells #[.int .u64 y20, .int .u64 y21, .int .u64 y22, .int .u64 y23] 24)) W2.heap.size (fun i => t i || u i)) := fun q hq => words_new W2 (fun i => t i || u i) y20 y21 y22 y23 hw 24 q hq
      replace HB : Hid (Below w.heap.size w (W2.alloc (.cells #[.int .u64 y20, .int .u64 y21, .int .u64 y22, .int .u64 y23] 24))) := below_up HB.out hA
      clear hA hb hw A2
      go_wp2_with (refine wpList_load_mid rfl 22 (.tmp 6) rfl (w.heap.size + 1 + 1 + 1) 0 rfl (tabL (fun i => t i && u i)) _ A3.out.range Try.underlying22 rfl (tabL_len (fun i => t i && u i)) ?_)
      generalize (W2.alloc (.cells #[.int .u64 y20, .int .u64 y21, .int .u64 y22, .int .u64 y23] 24)) = V3 at A3 A4 X0 X1 X2 HB ⊢
      refine (zz_any (tabL (fun i => t i && u i)).toArray (fun i => t i && u i) V3 (tabL_tab (fun i => t i && u i))).mono ?_
      rintro e W3 ⟨y30, y31, y32, y33, rfl, hb, hw⟩
      have hA := below_up hb ((Below.refl _ W3).alloc (Nat.le_refl _) (.cells #[.int .u64 y30, .int .u64 y31, .int .u64 y32, .int .u64 y33] 24))
      replace A4 : Hid (Arr (W3.alloc (.cells #[.int .u64 y30, .int .u64 y31, .int .u64 y32, .int .u64 y33] 24)) (w.heap.size + 1 + 1 + 1 + 1) (fun i => !t i)) := A4.out.kept hA
      replace X0 : Hid (WordsAt (W3.alloc (.cells #[.int .u64 y30, .int .u64 y31, .int .u64 y32, .int .u64 y33] 24)) W0.heap.size t) := X0.out.kept hA
      replace X1 : Hid (WordsAt (W3.alloc (.cells #[.int .u64 y30, .int .u64 y31, .int .u64 y32, .int .u64 y33] 24)) W1.heap.size u) := X1.out.kept hA
      replace X2 : Hid (WordsAt (W3.alloc (.cells #[.int .u64 y30, .int .u64 y31, .int .u64 y32, .int .u64 y33] 24)) W2.heap.size (fun i => t i || u i)) := X2.out.kept hA
      have X3 : Hid (WordsAt (W3.alloc (.cells #[.int .u64 y30, .int .u64 y31, .int .u64 y32, .int .u64 y33] 24)) W3.heap.size (fun i => t i && u i)) := fun q hq => words_new W3 (fun i => t i && u i) y30 y31 y32 y33 hw 24 q hq
      replace HB : Hid (Below w.heap.size w (W3.alloc (.cells #[.int .u64 y30, .int .u64 y31, .int .u64 y32, .int .u64 y33] 24))) := below_up HB.out hA
      clear hA hb hw A3
      go_wp2_with (refine wpList_load_mid rfl 22 (.tmp 7) rfl (w.heap.size + 1 + 1 + 1 + 1) 0 rfl (tabL (fun i => !t i)) _ A4.out.range Try.underlying22 rfl (tabL_len (fun i => !t i)) ?_)
      generalize (W3.alloc (.cells #[.int .u64 y30, .int .u64 y31, .int .u64 y32, .int .u64 y33] 24)) = V4 at A4 X0 X1 X2 X3 HB ⊢
      refine (zz_any (tabL (fun i => !t i)).toArray (fun i => !t i) V4 (tabL_tab (fun i => !t i))).mono ?_
      rintro e W4 ⟨y40, y41, y42, y43, rfl, hb, hw⟩
      have hA := below_up hb ((Below.refl _ W4).alloc (Nat.le_refl _) (.cells #[.int .u64 y40, .int .u64 y41, .int .u64 y42, .int .u64 y43] 24))
      replace X0 : Hid (WordsAt (W4.alloc (.cells #[.int .u64 y40, .int .u64 y41, .int .u64 y42, .int .u64 y43] 24)) W0.heap.size t) := X0.out.kept hA
      replace X1 : Hid (WordsAt (W4.alloc (.cells #[.int .u64 y40, .int .u64 y41, .int .u64 y42, .int .u64 y43] 24)) W1.heap.size u) := X1.out.kept hA
      replace X2 : Hid (WordsAt (W4.alloc (.cells #[.int .u64 y40, .int .u64 y41, .int .u64 y42, .int .u64 y43] 24)) W2.heap.size (fun i => t i || u i)) := X2.out.kept hA
      replace X3 : Hid (WordsAt (W4.alloc (.cells #[.int .u64 y40, .int .u64 y41, .int .u64 y42, .int .u64 y43] 24)) W3.heap.size (fun i => t i && u i)) := X3.out.kept hA
      have X4 : Hid (WordsAt (W4.alloc (.cells #[.int .u64 y40, .int .u64 y41, .int .u64 y42, .int .u64 y43] 24)) W4.heap.size (fun i => !t i)) := fun q hq => words_new W4 (fun i => !t i) y40 y41 y42 y43 hw 24 q hq
      replace HB : Hid (Below w.heap.size w (W4.alloc (.cells #[.int .u64 y40, .int .u64 y41, .int .u64 y42, .int .u64 y43] 24))) := below_up HB.out hA
      clear hA hb hw A4
      go_wp2
      generalize (W4.alloc (.cells #[.int .u64 y40, .int .u64 y41, .int .u64 y42, .int .u64 y43] 24)) = V5 at X0 X1 X2 X3 X4 HB ⊢
      go_loopw [14] (fun i wv => ∃ k : Nat, k ≤ 4 ∧ i = .int .i64 k ∧ Hid (∃ n, wv = V5.drewN n)) (fun i _ => 4 - (intOf i).toNat)
      case atStart => exact ⟨0, by omega, rfl, 0, rfl⟩
      case round =>
        obtain ⟨k, hk, rfl, HW⟩ := hrel
        obtain ⟨nn, rfl⟩ := HW.out
        clear HW
        by_cases hlt : k < 4
        · obtain ⟨xa, ca, pa⟩ := X0.out k hlt
          obtain ⟨xb, cb, pb⟩ := X1.out k hlt
          obtain ⟨xo, co, po⟩ := X2.out k hlt
          obtain ⟨xn, cn, pn⟩ := X3.out k hlt
          obtain ⟨xx, cx, px⟩ := X4.out k hlt
          have hor := words_or hlt pa pb po
          have hand := words_and hlt pa pb pn
          have hi1 : ((k : Nat) : Int) < 4 := by omega
          have HNOT : Hid (bits BinOp.xor IntKind.u64 (if IntKind.u64.signed = true then -1 else IntKind.u64.max) (xa : Int) = (xx : Int)) := words_not hlt pa px
          clear pa pb po pn px
          go_wp2
          go_quiet (fail)
          go_wp2
          go_quiet (fail)
          go_wp2
          go_quiet (fail)
          go_wp2
          · have h : ((xx : Int) != bits BinOp.xor IntKind.u64 (if IntKind.u64.signed = true then -1 else IntKind.u64.max) xa) = true := by assumption
            rw [HNOT.out] at h
            simp at h
          · go_roundw
            case rel => exact ⟨k + 1, by omega, by go_num, _, rfl⟩
            case measure => simp [intOf]; omega
        · go_wp2
          go_ret
          exact ⟨rfl, drewN_below HB.out _⟩
end Go.Proofs.Qxb6604644a.Bw
