import Derived.Test.Qxb6604237aHexWalks
namespace Go.Proofs.Qxb6604237a.Hex
open Go.RowKit

theorem Try.info5 : (Try.prog.info? 5).map (fun i => (i.zero, i.size, i.bytes)) = some (some (.int .u8 0), 1, 1) := by kernel_rfl

theorem one_cell {w : World} {v : Value} {t : TypeId} (j : Nat) (u : Value) (hj : [v][j]? = some u) : (w.alloc (.cells #[v] t)).cell? ((⟨w.heap.size, 0, none⟩ : Addr).add j) = some u := by
  match j, hj with
  | 0, hj => simp at hj; subst hj; simp [Addr.add]

theorem one_one {k : IntKind} {n : Int} (u : Value) (hu : u ∈ [Value.int k n]) : u.oneCell' = true := by
  simp at hu; subst hu; rfl

theorem below_app {w a a' : World} {o : Obj} (b : Below w.heap.size w a) (h : (a.alloc o).grownBy a' (some w.heap.size)) : Below w.heap.size w a' :=
  (b.alloc b.size _).grown h (by simp; have := b.size; omega) (fun k hk => by cases hk; exact Nat.le_refl _)

theorem tail_cells {w w5 : World} {a2 : Option Addr} {zs : List Int} (b5 : Below w.heap.size w w5)
    (HC : Hid (∀ ad, a2 = some ad → ∀ j v, (zs.map (Value.int .u8))[j]? = some v → w.cell? (ad.add j) = some v)) :
    ∀ ad, a2 = some ad → ∀ j v, (zs.map (Value.int .u8))[j]? = some v → w5.cell? (ad.add j) = some v :=
  fun ad e j v h => (b5.cell (block_lt_of_cell (HC.out ad e j v h))).trans (HC.out ad e j v h)

theorem below_app0 {w a a' : World} (b : Below w.heap.size w a) (h : a.grownBy a' (some w.heap.size)) : Below w.heap.size w a' :=
  b.grown h b.size (fun k hk => by cases hk; exact Nat.le_refl _)

theorem head_cell {w6 : World} {base g len cap : Nat} {ts : List Value} {up : Bool} {u : Int}
    (h : w6.ownsRow base 5 1 (.slice (some ⟨g, 0, none⟩) (5 + len) cap) (5 + len) (Value.int .u8 117 :: Value.int .u8 (hexc up (u / 4096 % 16)) :: Value.int .u8 (hexc up (u / 256 % 16)) :: Value.int .u8 (hexc up (u / 16 % 16)) :: Value.int .u8 (hexc up (u % 16)) :: ts)) :
    w6.cell? ⟨g, 0, none⟩ = some (.int .u8 117) ∧ ∀ k, k < 4 → w6.cell? ⟨g, 0 + 1 + k, none⟩ = some (.int .u8 ((digs up u).getD k 0)) := by
  refine ⟨h.cellAt 0 (by omega), fun k hk => ?_⟩
  match k, hk with
  | 0, _ => exact h.cellAt 1 (by omega)
  | 1, _ => exact h.cellAt 2 (by omega)
  | 2, _ => exact h.cellAt 3 (by omega)
  | 3, _ => exact h.cellAt 4 (by omega)

set_option maxHeartbeats 1000000 in
theorem top (u : Int) (up : Bool) (a2 : Option Addr) (len cap : Nat) (zs : List Int) (w : World) (h0 : 0 ≤ u) (h1 : u ≤ 65535) (hl : len ≤ 1048576)
    (hz : zs.length = len) (hnone : a2 = none → len = 0 ∧ cap = 0)
    (hc : ∀ ad, a2 = some ad → ∀ j v, (zs.map (Value.int .u8))[j]? = some v → w.cell? (ad.add j) = some v) :
    Calls Try.prog 6 #[.int .i32 u, .bool up, .slice a2 len cap] w fun e w' => e = .returned (.bool true) ∧ Below w.heap.size w w' := by
  obtain ⟨i0, hi, hz0, hz1, hz2⟩ := info_parts Try.info5
  have HN : Hid (a2 = none → len = 0 ∧ cap = 0) := hnone
  have HC : Hid (∀ ad, a2 = some ad → ∀ j v, (zs.map (Value.int .u8))[j]? = some v → w.cell? (ad.add j) = some v) := hc
  have HZ : Hid (zs.length = len) := hz
  clear hnone hc hz
  go_enter Try.func6, Try.ntmps6
  go_wp2_with (first
    | (go_at_call 16; refine (bytes_ok _ _ _ _ _ _ hl).mono ?_; rintro e w' ⟨rfl, hw⟩; obtain rfl := hw.symm; clear hw)
    | (go_at_call 17; refine (hexchar_any _ _ _ (by omega) (by omega)).mono ?_; rintro e w' ⟨rfl, hw⟩; obtain rfl := hw.symm; clear hw)
    | (at_make; refine wpList_make_own _ rfl _ _ 22 rfl w.heap.size 5 i0 (.int .u8 0) 1 Try.underlying22 hi hz0 hz1 _ _ _ (5 + len) rfl rfl (by omega) (by rw [hz2]; omega) (by unfold maxLen; omega) (Nat.le_refl _) ?_; intro w0 hown0 hgrow0; have b0 : Below w.heap.size w w0 := (Below.refl _ _).grown hgrow0 (Nat.le_refl _) (fun k h => by cases h); clear hgrow0)
    | (at_builtin; refine wpList_append_fits _ rfl (.tmp 28) (.tmp 29) 22 rfl w.heap.size 5 i0 1 Try.underlying22 hi hz1 w.heap.size 0 (5 + len) _ rfl (hown0.alloc _) ⟨w0.heap.size, 0, none⟩ 1 1 [.int .u8 117] rfl rfl one_cell one_one (by omega) ?_; intro w1 hown1 hgrow1; simp only [Nat.zero_add, List.nil_append] at hown1; have b1 := below_app b0 hgrow1; clear hown0 b0 hgrow1)
    | (at_builtin; refine wpList_append_fits _ rfl (.tmp 31) (.tmp 37) 22 rfl w.heap.size 5 i0 1 Try.underlying22 hi hz1 w.heap.size 1 (5 + len) _ rfl (hown1.alloc _) ⟨w1.heap.size, 0, none⟩ 1 1 [.int .u8 (hexc up (u / 4096 % 16))] rfl rfl one_cell one_one (by omega) ?_; intro w2 hown2 hgrow2; simp only [Nat.reduceAdd, List.nil_append, List.cons_append] at hown2; have b2 := below_app b1 hgrow2; clear hown1 b1 hgrow2)
    | (at_builtin; refine wpList_append_fits _ rfl (.tmp 39) (.tmp 45) 22 rfl w.heap.size 5 i0 1 Try.underlying22 hi hz1 w.heap.size 2 (5 + len) _ rfl (hown2.alloc _) ⟨w2.heap.size, 0, none⟩ 1 1 [.int .u8 (hexc up (u / 256 % 16))] rfl rfl one_cell one_one (by omega) ?_; intro w3 hown3 hgrow3; simp only [Nat.reduceAdd, List.nil_append, List.cons_append] at hown3; have b3 := below_app b2 hgrow3; clear hown2 b2 hgrow3)
    | (at_builtin; refine wpList_append_fits _ rfl (.tmp 47) (.tmp 53) 22 rfl w.heap.size 5 i0 1 Try.underlying22 hi hz1 w.heap.size 3 (5 + len) _ rfl (hown3.alloc _) ⟨w3.heap.size, 0, none⟩ 1 1 [.int .u8 (hexc up (u / 16 % 16))] rfl rfl one_cell one_one (by omega) ?_; intro w4 hown4 hgrow4; simp only [Nat.reduceAdd, List.nil_append, List.cons_append] at hown4; have b4 := below_app b3 hgrow4; clear hown3 b3 hgrow4)
    | (at_builtin; refine wpList_append_fits _ rfl (.tmp 55) (.tmp 60) 22 rfl w.heap.size 5 i0 1 Try.underlying22 hi hz1 w.heap.size 4 (5 + len) _ rfl (hown4.alloc _) ⟨w4.heap.size, 0, none⟩ 1 1 [.int .u8 (hexc up (u % 16))] rfl rfl one_cell one_one (by omega) ?_; intro w5 hown5 hgrow5; simp only [Nat.reduceAdd, List.nil_append, List.cons_append] at hown5; have b5 := below_app b4 hgrow5; clear hown4 b4 hgrow5)
    | (at_builtin; refine wpList_append_fits_any _ rfl (.tmp 62) (.tmp 63) 22 rfl w.heap.size 5 i0 1 Try.underlying22 hi hz1 w.heap.size 5 (5 + len) _ rfl hown5 a2 len cap (zs.map (Value.int .u8)) rfl (by simp [HZ.out]) HN.out (tail_cells b5 HC) (ints_oneCell _ _) (by omega) ?_; intro w6 hown6 hgrow6; simp only [List.cons_append, List.nil_append] at hown6; have b6 := below_app0 b5 hgrow6; clear hown5 b5 hgrow6)
    | (go_at_call 14; refine (zzhex4_any w.heap.size 0 (5 + len) (5 + len) (digs up u) _ (by omega) (by omega) (by unfold maxLen; omega) (head_cell hown6).1 (head_cell hown6).2 (digs_hex up u)).mono ?_; rintro e w' ⟨rfl, hw⟩; obtain rfl := hw.symm; clear hw; rw [digs_val up u h0 h1])
    )
  go_ret
  exact ⟨rfl, b6⟩

theorem top_long (u : Int) (up : Bool) (a2 : Option Addr) (len cap : Nat) (w : World) (hl : 1048576 < len) :
    Calls Try.prog 6 #[.int .i32 u, .bool up, .slice a2 len cap] w fun e w' => e = .returned (.bool true) ∧ Below w.heap.size w w' := by
  go_enter Try.func6, Try.ntmps6
  go_wp2_with (go_at_call 16; refine (bytes_no _ _ _ _ _ _ hl).mono ?_; rintro e w' ⟨rfl, hw⟩; obtain rfl := hw.symm; clear hw)
  go_ret
  exact ⟨rfl, Below.refl _ _⟩

theorem top_off (u : Int) (up : Bool) (a2 : Option Addr) (len cap : Nat) (w : World) (hl : len ≤ 1048576) (h : u < 0 ∨ 65535 < u) :
    Calls Try.prog 6 #[.int .i32 u, .bool up, .slice a2 len cap] w fun e w' => e = .returned (.bool true) ∧ Below w.heap.size w w' := by
  rcases h with h | h
  all_goals
    go_enter Try.func6, Try.ntmps6
    go_wp2_with (go_at_call 16; refine (bytes_ok _ _ _ _ _ _ hl).mono ?_; rintro e w' ⟨rfl, hw⟩; obtain rfl := hw.symm; clear hw)
    go_ret
    exact ⟨rfl, Below.refl _ _⟩
end Go.Proofs.Qxb6604237a.Hex
