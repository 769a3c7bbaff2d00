import Derived.Test.Qxb6604641aDcB
namespace Go.Proofs.Qxb6604641a.Dc
open Go.RowKit

theorem below_up {A B C : World} (h : Below A.heap.size A B) (k : Below B.heap.size B C) : Below A.heap.size A C := h.trans (k.mono h.size)

set_option maxRecDepth 100000 in
set_option maxHeartbeats 4000000 in
theorem law_any (a a' : Option Addr) (ns : List ByteArray) (zs : List Int) (n m c c' : Nat) (width : Int) (w : World) (HS : Hid (SegS w a ns)) (HI : Hid (SegI w a' zs)) (LS : Hid (n = ns.length)) (LI : Hid (m = zs.length))
    (HM : Hid (∀ s ∈ ns, s.size ≤ maxLen)) (HN : Hid (a = none → ns = [] ∧ c = 0)) :
    Calls Try.prog 3 #[.slice a n c, .slice a' m c', .int .i64 width] w fun e w' => e = .returned (.bool true) ∧ Below w.heap.size w w' := by
  have hmm := @run_makeMap Try.prog
  go_enter Try.func3, Try.ntmps3
  go_wp2_with fail
  refine (bytes_any a a' ns n m c c' width w HS LS).mono ?_
  rintro e w' ⟨⟨b, rfl⟩, hw⟩
  obtain rfl := hw.symm
  clear hw
  cases b
  · go_wp2
    go_ret
    exact ⟨rfl, Below.refl _ _⟩
  go_wp2_with fail
  refine (big_any a a' ns n m c c' w HS LS).mono ?_
  rintro e w' ⟨hbig, hw⟩
  obtain rfl := hw.symm
  clear hw
  rcases hbig with rfl | ⟨rfl, h1, h2⟩
  · go_wp2
    go_ret
    exact ⟨rfl, Below.refl _ _⟩
  go_wp2_with fail
  refine (header_any a a' ns zs n m c c' w HS HI LS LI h1 HM HN).mono ?_
  rintro e W1 ⟨mm, rfl, hb1, hlk⟩
  have B1 : Hid (Below w.heap.size w W1) := hb1
  have L1 : Hid (Look W1 mm (lastI ns zs (min n m))) := hlk
  clear hlk
  go_wp2_with fail
  have hA : Below W1.heap.size W1 (W1.alloc (.map #[] 0)) := (Below.refl _ _).alloc (Nat.le_refl _) _
  have M0 : Hid (MapAt (W1.alloc (.map #[] 0)) W1.heap.size 0 none) := map_start W1
  refine (last_any a a' ns zs n m c c' _ (HS.out.kept (below_up hb1 hA)) (HI.out.kept (below_up hb1 hA)) LS LI h1).mono ?_
  rintro e w' ⟨rfl, hw⟩
  obtain rfl := hw.symm
  clear hw hA hb1
  generalize lastI ns zs (min n m) = o at L1 ⊢
  have hcol : col none = -1 := rfl
  cases o with
  | none =>
    have hA : Below W1.heap.size W1 (W1.alloc (.map #[] 0)) := (Below.refl _ _).alloc (Nat.le_refl _) _
    have LA : Hid (Look (W1.alloc (.map #[] 0)) mm none) := L1.out.kept hA
    have LB : Hid (Look (W1.alloc (.map #[] 0)) (some W1.heap.size) none) := map_look M0.out
    have BA : Hid (Below w.heap.size w (W1.alloc (.map #[] 0))) := below_up B1.out hA
    clear hA L1 M0
    go_wp2_with fail
    generalize W1.alloc (.map #[] 0) = V at LA LB BA ⊢
    refine (zznew_any mm none width V LA).mono ?_
    rintro e V1 ⟨rfl, hb⟩
    replace LB : Hid (Look V1 (some W1.heap.size) none) := LB.out.kept hb
    replace BA : Hid (Below w.heap.size w V1) := below_up BA.out hb
    clear hb
    go_wp2_with fail
    refine (zznew_any (some W1.heap.size) none width V1 LB).mono ?_
    rintro e V2 ⟨rfl, hb⟩
    replace BA : Hid (Below w.heap.size w V2) := below_up BA.out hb
    clear hb
    go_wp2_with fail
    refine (zznew_any none none width V2 (look_none V2)).mono ?_
    rintro e V3 ⟨rfl, hb⟩
    replace BA : Hid (Below w.heap.size w V3) := below_up BA.out hb
    clear hb
    go_wp2
    go_ret
    exact ⟨rfl, BA.out⟩
  | some z =>
    have hcz : col (some z) = z := rfl
    obtain ⟨W2, hrun, hM2, hg2⟩ := map_step M0.out (by omega) KW z kw_size
    have hA : Below W1.heap.size W1 W2 := ((Below.refl _ _).alloc (Nat.le_refl _) _).grown hg2 (by simp) (fun k h => by cases h; exact Nat.le_refl _)
    have LA : Hid (Look W2 mm (some z)) := L1.out.kept hA
    have LB : Hid (Look W2 (some W1.heap.size) (some z)) := map_look (by rw [if_pos ((str_eq KW).2 rfl)] at hM2; exact hM2)
    have BA : Hid (Below w.heap.size w W2) := below_up B1.out hA
    clear hA L1 M0 hM2 hg2
    go_wp2_with fail
    refine (zznew_any mm (some z) width W2 LA).mono ?_
    rintro e V1 ⟨rfl, hb⟩
    replace LB : Hid (Look V1 (some W1.heap.size) (some z)) := LB.out.kept hb
    replace BA : Hid (Below w.heap.size w V1) := below_up BA.out hb
    clear hb
    go_wp2_with fail
    refine (zznew_any (some W1.heap.size) (some z) width V1 LB).mono ?_
    rintro e V2 ⟨rfl, hb⟩
    replace BA : Hid (Below w.heap.size w V2) := below_up BA.out hb
    clear hb
    go_wp2_with fail
    refine (zznew_any none none width V2 (look_none V2)).mono ?_
    rintro e V3 ⟨rfl, hb⟩
    replace BA : Hid (Below w.heap.size w V3) := below_up BA.out hb
    clear hb
    go_wp2
    go_ret
    exact ⟨rfl, BA.out⟩
end Go.Proofs.Qxb6604641a.Dc
