import Derived.Test.Qxb6604644aBwA
namespace Go.Proofs.Qxb6604644a.Bw
open Go.RowKit

theorem below_cell {W w1 : World} {a : Addr} {v : Value} (hb : Below W.heap.size W w1) (h : W.cell? a = some v) : w1.cell? a = some v := (hb.cell (block_lt_of_cell h)).trans h
theorem below_up {A B C : World} (h : Below A.heap.size A B) (k : Below B.heap.size B C) : Below A.heap.size A C := h.trans (k.mono h.size)

/-- The loop's state after k bytes: the result's block lies at w.heap.size, the set's behind it. -/
def St (w wr : World) (t : Nat → Bool) (k : Nat) : Prop :=
  Below w.heap.size w wr ∧ (∀ q, q < 4 → ∃ x : Nat, wr.cell? ⟨w.heap.size + 1, q, none⟩ = some (.int .u64 x) ∧ PW x q t k) ∧ (∀ q, wr.frozen? ⟨w.heap.size + 1, q, none⟩ = false) ∧
  (∀ q, q < 4 → ∃ u, wr.cell? ⟨w.heap.size, q, none⟩ = some u) ∧ ∀ q, wr.frozen? ⟨w.heap.size, q, none⟩ = false

theorem st_start (w : World) (t : Nat → Bool) (t1 t2 : TypeId) (a0 a1 a2 a3 : Value) :
    St w ((w.alloc (.cells #[a0, a1, a2, a3] t1)).alloc (.cells #[.int .u64 0, .int .u64 0, .int .u64 0, .int .u64 0] t2)) t 0 := by
  refine ⟨((Below.refl _ _).alloc (Nat.le_refl _) _).alloc (by simp) _, fun q hq => ⟨0, ?_, pw_zero q t⟩, fun q => by simp, fun q hq => ?_, fun q => by simp⟩
  · match q, hq with
    | 0, _ => simp
    | 1, _ => simp
    | 2, _ => simp
    | 3, _ => simp
  · match q, hq with
    | 0, _ => exact ⟨a0, by simp⟩
    | 1, _ => exact ⟨a1, by simp⟩
    | 2, _ => exact ⟨a2, by simp⟩
    | 3, _ => exact ⟨a3, by simp⟩

theorem st_skip {w wr : World} {t : Nat → Bool} {k : Nat} (h : St w wr t k) (ht : t k = false) : St w wr t (k + 1) := by
  obtain ⟨h1, h2, h3⟩ := h
  exact ⟨h1, fun q hq => let ⟨x, a, b⟩ := h2 q hq; ⟨x, a, pw_skip b (.inl ht)⟩, h3⟩

theorem st_add {w wr : World} {t : Nat → Bool} {k x : Nat} (h : St w wr t k) (ht : t k = true) (hx : wr.cell? ⟨w.heap.size + 1, k / 64, none⟩ = some (.int .u64 x)) (hp : PW x (k / 64) t k) :
    St w (wr.setCell ⟨w.heap.size + 1, k / 64, none⟩ (.int .u64 ((x ||| 2 ^ (k % 64) : Nat) : Int))).drew t (k + 1) := by
  obtain ⟨h1, h2, h3, h4, h5⟩ := h
  refine ⟨(h1.setCell (Nat.le_succ _) _).drew, fun q hq => ?_, fun q => by simpa using h3 q, fun q hq => ?_, fun q => by simpa using h5 q⟩
  · by_cases e : k / 64 = q
    · subst e
      exact ⟨_, World.cell?_setCell_same _ _ _ hx, pw_add hp ht rfl⟩
    · obtain ⟨y, a, b⟩ := h2 q hq
      refine ⟨y, ?_, pw_skip b (.inr e)⟩
      exact (World.cell?_setCell_other _ _ _ _ (fun h => e (congrArg Addr.off h))).trans a
  · obtain ⟨u, hu⟩ := h4 q hq
    refine ⟨u, ?_⟩
    exact (World.cell?_setCell_other _ _ _ _ (by simp)).trans hu

set_option maxRecDepth 100000 in
set_option maxHeartbeats 1000000 in
theorem where_any (T : Nat) (t : Nat → Bool) (w : World) (HT : Hid (∀ i, i < 256 → w.cell? ⟨T, i, none⟩ = some (.bool (t i)))) :
    Calls Try.prog 13 #[.func (Fn.func 14) #[] #[.pointer (some ⟨T, 0, none⟩)]] w fun e w' => ∃ x0 x1 x2 x3 : Nat, e = .returned (.agg #[.int .u64 x0, .int .u64 x1, .int .u64 x2, .int .u64 x3]) ∧ Below w.heap.size w w' ∧
      (PW x0 0 t 256 ∧ PW x1 1 t 256 ∧ PW x2 2 t 256 ∧ PW x3 3 t 256) := by
  go_enter Try.func13, Try.ntmps13
  go_wp2
  go_loopw [5] (fun i wr => ∃ k : Nat, k ≤ 256 ∧ i = .int .i64 k ∧ Hid (St w wr t k)) (fun i _ => 256 - (intOf i).toNat)
  case atStart => exact ⟨0, by omega, rfl, st_start w t _ _ _ _ _ _⟩
  case round =>
    obtain ⟨k, hk, rfl, HS⟩ := hrel
    by_cases hlt : k < 256
    · have hck := below_cell HS.out.1 (HT.out k hlt)
      cases ht : t k
      · rw [ht] at hck
        have HS2 : Hid (St w wr t (k + 1)) := st_skip HS.out ht
        go_wp2_with (go_at_call 14; refine (pred_any T k _ _ hlt hck).mono ?_; rintro e w' ⟨rfl, hw⟩; obtain rfl := hw.symm; clear hw)
        go_roundw
        case rel => exact ⟨k + 1, by omega, by go_num, HS2⟩
        case measure => simp [intOf]; omega
      · rw [ht] at hck
        obtain ⟨x, hx, hp⟩ := HS.out.2.1 (k / 64) (by omega)
        have hf := HS.out.2.2.1 (k / 64)
        have HS2 : Hid (St w _ t (k + 1)) := st_add HS.out ht hx hp
        have HX : Hid (x < 18446744073709551616) := hp.1
        clear hp
        go_wp2_with (first | (go_at_call 14; refine (pred_any T k _ _ hlt hck).mono ?_; rintro e w' ⟨rfl, hw⟩; obtain rfl := hw.symm; clear hw) | (go_at_call 16; refine (add_any _ k x _ hlt HX hx hf).mono ?_; rintro e w' ⟨rfl, hw⟩; obtain rfl := hw.symm; clear hw))
        go_roundw
        case rel => exact ⟨k + 1, by omega, by go_num, HS2⟩
        case measure => simp [intOf]; omega
    · obtain rfl : k = 256 := by omega
      obtain ⟨x0, c0, p0⟩ := HS.out.2.1 0 (by omega)
      obtain ⟨x1, c1, p1⟩ := HS.out.2.1 1 (by omega)
      obtain ⟨x2, c2, p2⟩ := HS.out.2.1 2 (by omega)
      obtain ⟨x3, c3, p3⟩ := HS.out.2.1 3 (by omega)
      obtain ⟨u0, d0⟩ := HS.out.2.2.2.1 0 (by omega)
      obtain ⟨u1, d1⟩ := HS.out.2.2.2.1 1 (by omega)
      obtain ⟨u2, d2⟩ := HS.out.2.2.2.1 2 (by omega)
      obtain ⟨u3, d3⟩ := HS.out.2.2.2.1 3 (by omega)
      have hf := HS.out.2.2.2.2
      have PP : Hid (PW x0 0 t 256 ∧ PW x1 1 t 256 ∧ PW x2 2 t 256 ∧ PW x3 3 t 256) := ⟨p0, p1, p2, p3⟩
      have HB : Hid (Below w.heap.size w wr) := HS.out.1
      clear p0 p1 p2 p3 HS
      go_wp2
      exact bodyPost_ret (v := .agg #[.int .u64 x0, .int .u64 x1, .int .u64 x2, .int .u64 x3]) (by simp [results, Try.results13, go_sem, d0, d1, d2, d3]) rfl ⟨x0, x1, x2, x3, rfl, (((HB.out.setCell (Nat.le_refl _) _).setCell (Nat.le_refl _) _).setCell (Nat.le_refl _) _).setCell (Nat.le_refl _) _, PP.out⟩

/-- A table of 256 bools, as cells. -/
def Tab (cs : Array Value) (t : Nat → Bool) : Prop := cs.size = 256 ∧ ∀ i, i < 256 → cs[i]? = some (.bool (t i))

/-- The four words of a table's set. -/
def Words (t : Nat → Bool) (x0 x1 x2 x3 : Nat) : Prop := PW x0 0 t 256 ∧ PW x1 1 t 256 ∧ PW x2 2 t 256 ∧ PW x3 3 t 256

theorem tab_new {w : World} {cs : Array Value} {t : Nat → Bool} {ty : TypeId} (h : Tab cs t) (i : Nat) (hi : i < 256) : (w.alloc (.cells cs ty)).cell? ⟨w.heap.size, i, none⟩ = some (.bool (t i)) := by
  have e : (w.alloc (.cells cs ty)).cell? ⟨w.heap.size, i, none⟩ = cs[i]? := by simp
  rw [e]; exact h.2 i hi

set_option maxRecDepth 100000 in
set_option maxHeartbeats 1000000 in
theorem zz_any (cs : Array Value) (t : Nat → Bool) (w : World) (HT : Hid (Tab cs t)) :
    Calls Try.prog 7 #[.agg cs] w fun e w' => ∃ x0 x1 x2 x3 : Nat, e = .returned (.agg #[.int .u64 x0, .int .u64 x1, .int .u64 x2, .int .u64 x3]) ∧ Below w.heap.size w w' ∧ Words t x0 x1 x2 x3 := by
  go_enter Try.func7, Try.ntmps7
  go_wp2_with fail
  have hA : Below w.heap.size w ((w.alloc (.cells cs 22)).alloc (.cells #[.int .u64 0, .int .u64 0, .int .u64 0, .int .u64 0] 24)) := ((Below.refl _ _).alloc (Nat.le_refl _) _).alloc (by simp) _
  have hT : ∀ i, i < 256 → ((w.alloc (.cells cs 22)).alloc (.cells #[.int .u64 0, .int .u64 0, .int .u64 0, .int .u64 0] 24)).cell? ⟨w.heap.size, i, none⟩ = some (.bool (t i)) :=
    fun i hi => below_cell ((Below.refl _ _).alloc (Nat.le_refl _) _) (tab_new HT.out i hi)
  have hR : ∀ q, q < 4 → ((w.alloc (.cells cs 22)).alloc (.cells #[.int .u64 0, .int .u64 0, .int .u64 0, .int .u64 0] 24)).cell? ⟨w.heap.size + 1, q, none⟩ = some (.int .u64 0) := by
    intro q hq
    match q, hq with
    | 0, _ => simp
    | 1, _ => simp
    | 2, _ => simp
    | 3, _ => simp
  have hF : ∀ q, ((w.alloc (.cells cs 22)).alloc (.cells #[.int .u64 0, .int .u64 0, .int .u64 0, .int .u64 0] 24)).frozen? ⟨w.heap.size + 1, q, none⟩ = false := fun q => by simp
  generalize ((w.alloc (.cells cs 22)).alloc (.cells #[.int .u64 0, .int .u64 0, .int .u64 0, .int .u64 0] 24)) = W at hA hT hR hF ⊢
  refine (where_any w.heap.size t W hT).mono ?_
  rintro e W1 ⟨x0, x1, x2, x3, rfl, hb, hp⟩
  have d0 := below_cell hb (hR 0 (by omega))
  have d1 := below_cell hb (hR 1 (by omega))
  have d2 := below_cell hb (hR 2 (by omega))
  have d3 := below_cell hb (hR 3 (by omega))
  have hlt : w.heap.size + 1 < W.heap.size := block_lt_of_cell (hR 0 (by omega))
  have hf : ∀ q, W1.frozen? ⟨w.heap.size + 1, q, none⟩ = false := fun q => (hb.frozen (p := ⟨w.heap.size + 1, q, none⟩) hlt).trans (hF q)
  have HB : Hid (Below w.heap.size w W1) := below_up hA hb
  have PP : Hid (Words t x0 x1 x2 x3) := hp
  clear hA hT hR hF hb hp HT hlt
  go_wp2
  exact bodyPost_ret (v := .agg #[.int .u64 x0, .int .u64 x1, .int .u64 x2, .int .u64 x3]) (by simp [results, Try.results7, go_sem, d0, d1, d2, d3]) rfl ⟨x0, x1, x2, x3, rfl, (((HB.out.setCell (Nat.le_succ _) _).setCell (Nat.le_succ _) _).setCell (Nat.le_succ _) _).setCell (Nat.le_succ _) _, PP.out⟩
end Go.Proofs.Qxb6604644a.Bw
