import Derived.Test.Qxb6604272aSpG
namespace Go.Proofs.Qxb6604272a.Sp
open Go.RowKit

/-- The entry that counts: the last one at kw, or none. -/
def Ent (ks ns : List ByteArray) (xs : List In) (sc : List ByteArray) (kw : ByteArray) (nm : ByteArray) (as' : List ByteArray) (s : ByteArray) : Prop :=
  (nm = ByteArray.empty ∧ as' = [] ∧ s = ByteArray.empty ∧ ∀ i, i < ks.length → ks.getD i ByteArray.empty ≠ kw) ∨
  ∃ j, j < ks.length ∧ nm = ns.getD j ByteArray.empty ∧ as' = (xs.getD j none').2.1 ∧ s = sc.getD j ByteArray.empty ∧ ks.getD j ByteArray.empty = kw ∧ ∀ i, j < i → i < ks.length → ks.getD i ByteArray.empty ≠ kw

/-- What ZZSpell leaves. -/
def SpP (w : World) (T : Nat) (tn : ByteArray) (pa : Option Addr) (ps : List ByteArray) (sf : ByteArray) (qv : Value) (b0 b1 b2 : Bool) (ch co : ByteArray) (ks ns : List ByteArray) (xs : List In) (sc : List ByteArray) (kw : ByteArray) (w' : World) : Prop :=
  ∃ nm as' s, Ent ks ns xs sc kw nm as' s ∧ as'.length ≤ 65536 ∧ Spelt w T (wantN tn nm) pa (wantP ps as' s) sf qv b0 b1 b2 ch co w'

theorem Spelt.since {w W w' : World} {T : Nat} {tn : ByteArray} {pa : Option Addr} {want : List ByteArray} {sf : ByteArray} {qv : Value} {b0 b1 b2 : Bool} {ch co : ByteArray} (h : Spelt W T tn pa want sf qv b0 b1 b2 ch co w') (hb : Below T w W) : Spelt w T tn pa want sf qv b0 b1 b2 ch co w' :=
  ⟨hb.trans h.1, h.2⟩

theorem Arg.kept {w W : World} {T n : Nat} {a : Option Addr} {ss : List ByteArray} (h : Arg w T a ss n) (hb : Below w.heap.size w W) : Arg W T a ss n := ⟨h.1.kept hb, h.2⟩

theorem spell_zero (S T : Nat) (m : Option Nat) (kw tn sf ch co : ByteArray) (pa : Option Addr) (ps : List ByteArray) (pl : Nat) (qv : Value) (b0 b1 b2 : Bool) (w W : World) (hb : Below w.heap.size w W)
    (hS : W.cell? ⟨S, 21, none⟩ = some (.map m)) (hlook : (Instr.lookup 43 (.map m) (.string kw) false).run Try.prog W = .ok zeroV W)
    (ks ns sc : List ByteArray) (xs : List In) (hno : ∀ i, i < ks.length → ks.getD i ByteArray.empty ≠ kw)
    (HT : TT w T tn (.slice pa pl pl) sf qv b0 b1 b2 ch co) (HP : Arg w T pa ps pl) :
    Calls Try.prog 22 #[.pointer (some ⟨S, 0, none⟩), .pointer (some ⟨T, 0, none⟩), .string kw] W fun e w' => e = .returned (.tuple #[]) ∧ SpP w T tn pa ps sf qv b0 b1 b2 ch co ks ns xs sc kw w' :=
  (spell_any S T m kw ByteArray.empty ByteArray.empty tn sf ch co none pa [] ps 0 0 pl qv b0 b1 b2 W hS hlook (HT.below hb HT.lt) (HP.kept hb) ⟨fun k hk => absurd hk (by simp), fun _ => rfl, rfl, by simp, fun x h => by cases h⟩).mono
    fun _ _ ⟨h1, h2⟩ => ⟨h1, _, _, _, .inl ⟨rfl, rfl, rfl, hno⟩, by simp, h2.since (hb.mono (Nat.le_of_lt HT.lt))⟩

theorem spell_in (S T M : Nat) (kw tn sf ch co : ByteArray) (pa : Option Addr) (ps : List ByteArray) (pl : Nat) (qv : Value) (b0 b1 b2 : Bool) (w W : World) (hb : Below w.heap.size w W)
    (hS : W.cell? ⟨S, 21, none⟩ = some (.map (some M))) (ks ns sc : List ByteArray) (xs : List In) (hM : MapAt W M ks ns xs sc kw ks.length) (hkw : kw.size ≤ maxLen)
    (HT : TT w T tn (.slice pa pl pl) sf qv b0 b1 b2 ch co) (HP : Arg w T pa ps pl) (HI : ∀ x ∈ xs, Arg w T x.1 x.2.1 x.2.1.length) (hxl : ks.length = xs.length) :
    Calls Try.prog 22 #[.pointer (some ⟨S, 0, none⟩), .pointer (some ⟨T, 0, none⟩), .string kw] W fun e w' => e = .returned (.tuple #[]) ∧ SpP w T tn pa ps sf qv b0 b1 b2 ch co ks ns xs sc kw w' := by
  obtain ⟨v, hlook, hv⟩ := map_look hM hkw
  rcases hv with ⟨rfl, hno⟩ | ⟨j, hj, rfl, he, hlast⟩
  · exact spell_zero S T _ kw tn sf ch co pa ps pl qv b0 b1 b2 w W hb hS hlook ks ns sc xs hno HT HP
  · have hA := HI _ (getD_mem' (hxl ▸ hj))
    exact (spell_any S T _ kw _ _ tn sf ch co _ pa _ ps _ _ pl qv b0 b1 b2 W hS hlook (HT.below hb HT.lt) (HP.kept hb) (hA.kept hb)).mono
      fun _ _ ⟨h1, h2⟩ => ⟨h1, _, _, _, .inr ⟨j, hj, rfl, rfl, rfl, he, hlast⟩, hA.2.2.2.1, h2.since (hb.mono (Nat.le_of_lt HT.lt))⟩

set_option maxRecDepth 100000 in
set_option maxHeartbeats 2000000 in
theorem zzspell_some (T n : Nat) (ak an aa az pa : Option Addr) (ks ns sc ps : List ByteArray) (xs : List In) (ck cn ca cs pl : Nat) (kw tn sf ch co : ByteArray) (qv : Value) (b0 b1 b2 : Bool) (w : World)
    (HK : Hid (Seg w ak ks)) (HN : Hid (Seg w an ns)) (HX : Hid (Segs w aa xs)) (HZ : Hid (Seg w az sc)) (LK : Hid (n = ks.length)) (LN : Hid (n = ns.length)) (LX : Hid (n = xs.length)) (LZ : Hid (n = sc.length))
    (hn : 0 < n) (hn6 : n ≤ 65536) (HKM : Hid (∀ i, i < n → (ks.getD i ByteArray.empty).size ≤ maxLen)) (HKW : Hid (kw.size ≤ maxLen))
    (HT : Hid (TT w T tn (.slice pa pl pl) sf qv b0 b1 b2 ch co)) (HP : Hid (Arg w T pa ps pl)) (HI : Hid (∀ x ∈ xs, Arg w T x.1 x.2.1 x.2.1.length)) :
    Calls Try.prog 13 #[.slice ak n ck, .slice an n cn, .slice aa n ca, .slice az n cs, .pointer (some ⟨T, 0, none⟩), .string kw] w fun e w' => e = .returned (.tuple #[]) ∧
      SpP w T tn pa ps sf qv b0 b1 b2 ch co ks ns xs sc kw w' := by
  have hmm := @run_makeMap Try.prog
  go_enter Try.func13, Try.ntmps13
  go_wp2
  go_loopw [13] (fun i wr => ∃ k : Nat, k ≤ n ∧ i = .int .i64 k ∧ Hid (MapAt wr w.heap.size ks ns xs sc kw k) ∧ Hid (Below w.heap.size w wr)) (fun i _ => n - (intOf i).toNat)
  case atStart => exact ⟨0, by omega, rfl, map_start w ks ns xs sc kw, (Below.refl _ _).alloc (Nat.le_refl _) _⟩
  case round =>
    obtain ⟨k, hk, rfl, HM, HB⟩ := hrel
    by_cases hlt : k < n
    · have hkk : k < ks.length := LK.out ▸ hlt
      have hkn : k < ns.length := LN.out ▸ hlt
      have hkx : k < xs.length := LX.out ▸ hlt
      have hkz : k < sc.length := LZ.out ▸ hlt
      obtain ⟨bk, ok, rfl, c1⟩ := HK.out k hkk
      obtain ⟨bn, on, rfl, c2⟩ := HN.out k hkn
      obtain ⟨bx, ox, rfl, c3⟩ := HX.out.1 k hkx
      obtain ⟨bz, oz, rfl, c4⟩ := HZ.out k hkz
      obtain ⟨w1, hrun, hM1, hg1⟩ := map_step (wr := wr.drew) (ns := ns) (xs := xs) (sc := sc) (kw := kw) HM.out (by omega) (HKM.out k hlt)
      have HB1 : Hid (Below w.heap.size w w1) := (HB.out.drew).grown hg1 HB.out.size (fun k h => by cases h; exact Nat.le_refl _)
      have HM1 : Hid (MapAt w1 w.heap.size ks ns xs sc kw (k + 1)) := hM1
      have d1 := below_cell HB.out (c1 k hkk)
      have d2 := below_cell HB.out (c2 k hkn)
      have d3 := below_cell HB.out (c3 k hkx)
      have d4 := below_cell HB.out (c4 k hkz)
      have e1 := below_cell HB1.out (c1 k hkk)
      have e2 := below_cell HB1.out (c2 k hkn)
      have e3 := below_cell HB1.out (c3 k hkx)
      have e4 := below_cell HB1.out (c4 k hkz)
      unfold entV at hrun
      generalize ks.getD k ByteArray.empty = s1 at hrun d1 e1
      generalize ns.getD k ByteArray.empty = s2 at hrun d2 e2
      generalize xs.getD k none' = x3 at hrun d3 e3
      generalize sc.getD k ByteArray.empty = s4 at hrun d4 e4
      obtain ⟨xa, xss, xc⟩ := x3
      simp only [sl] at hrun d3 e3
      clear c1 c2 c3 c4 hkk hkn hkx hkz hM1 hg1
      go_wp2
      go_region_held (fun w' => w'.cell? ⟨bk, ok + k, none⟩ = some (.string s1) ∧ w'.cell? ⟨bn, on + k, none⟩ = some (.string s2) ∧ w'.cell? ⟨bx, ox + k, none⟩ = some (.slice xa xss.length xc) ∧ w'.cell? ⟨bz, oz + k, none⟩ = some (.string s4)) (go_keep) (fail)
      go_wp2
      go_roundw
      case rel => exact ⟨k + 1, by omega, by go_num, HM1, HB1⟩
      case measure => simp [intOf]; omega
    · obtain rfl : k = n := by omega
      go_wp2_with fail
      refine (spell_in _ T w.heap.size kw tn sf ch co pa ps pl qv b0 b1 b2 w _ (HB.out.alloc HB.out.size _) (by simp) ks ns sc xs (by rw [← LK.out]; exact HM.out.kept ((Below.refl _ _).alloc (Nat.le_refl _) _)) HKW.out HT.out HP.out HI.out (LK.out ▸ LX.out)).mono ?_
      rintro e w' ⟨rfl, hsp⟩
      go_wp2
      go_end0
      exact ⟨rfl, hsp⟩

theorem look_none (w : World) (kw : ByteArray) (h : kw.size ≤ maxLen) : (Instr.lookup 43 (.map none) (.string kw) false).run Try.prog w = .ok zeroV w :=
  Maps.look_nil false law Try.underlying43 (zeroE w) (Go.WideMaps.keyOf_string_mk Try.underlying9 h)

set_option maxRecDepth 100000 in
set_option maxHeartbeats 2000000 in
theorem zzspell_none (T : Nat) (ak an aa az pa : Option Addr) (ps : List ByteArray) (ck cn ca cs pl : Nat) (kw tn sf ch co : ByteArray) (qv : Value) (b0 b1 b2 : Bool) (w : World) (HKW : Hid (kw.size ≤ maxLen))
    (HT : Hid (TT w T tn (.slice pa pl pl) sf qv b0 b1 b2 ch co)) (HP : Hid (Arg w T pa ps pl)) :
    Calls Try.prog 13 #[.slice ak 0 ck, .slice an 0 cn, .slice aa 0 ca, .slice az 0 cs, .pointer (some ⟨T, 0, none⟩), .string kw] w fun e w' => e = .returned (.tuple #[]) ∧
      SpP w T tn pa ps sf qv b0 b1 b2 ch co [] [] [] [] kw w' := by
  go_enter Try.func13, Try.ntmps13
  go_wp2
  refine wp_loop_rounds 1 ?_
  rw [rounds_succ]
  go_wp2_with fail
  refine (spell_zero _ T none kw tn sf ch co pa ps pl qv b0 b1 b2 w _ ((Below.refl _ _).alloc (Nat.le_refl _) _) (by simp) (look_none _ _ HKW.out) [] [] [] [] (fun i hi => absurd hi (by simp)) HT.out HP.out).mono ?_
  rintro e w' ⟨rfl, hsp⟩
  go_wp2
  go_end0
  exact ⟨rfl, hsp⟩
end Go.Proofs.Qxb6604272a.Sp
