import Derived.Test.Qxb6604272aSpH
import Derived.Test.Qxb6604272aSpB
import Derived.Test.Qxb6604272aSpL
namespace Go.Proofs.Qxb6604272a.Sp
open Go.RowKit Go.BigFrame

/-- What is known of a slice of strings that came in. -/
def SA (w : World) (a : Option Addr) (ss : List ByteArray) (n cap : Nat) : Prop := Seg w a ss ∧ n = ss.length ∧ ss.length ≤ maxLen ∧ (a = none → ss = [] ∧ cap = 0)
def LA (w : World) (a : Option Addr) (xs : List In) (n cap : Nat) : Prop := Segs w a xs ∧ n = xs.length ∧ xs.length ≤ maxLen ∧ (a = none → xs = [] ∧ cap = 0)

theorem Segs.kept {w w' : World} {a : Option Addr} {xs : List In} (h : Segs w a xs) (hb : Below w.heap.size w w') : Segs w' a xs := by
  refine ⟨fun k hk => ?_, fun x hx => ⟨(h.2 x hx).1.kept hb, (h.2 x hx).2⟩⟩
  obtain ⟨b, off, e, hc⟩ := h.1 k hk
  exact ⟨b, off, e, fun i hi => (hb.cell (block_lt_of_cell (hc i hi))).trans (hc i hi)⟩
theorem SA.kept {w w' : World} {a : Option Addr} {ss : List ByteArray} {n cap : Nat} (h : SA w a ss n cap) (hb : Below w.heap.size w w') : SA w' a ss n cap := ⟨h.1.kept hb, h.2⟩
theorem LA.kept {w w' : World} {a : Option Addr} {xs : List In} {n cap : Nat} (h : LA w a xs n cap) (hb : Below w.heap.size w w') : LA w' a xs n cap := ⟨h.1.kept hb, h.2⟩

theorem below_up {A B C : World} (h : Below A.heap.size A B) (k : Below B.heap.size B C) : Below A.heap.size A C := h.trans (k.mono h.size)

/-- A slice of strings that the call has made: full. -/
def CA (w : World) (a : Option Addr) (ss : List ByteArray) : Prop := Seg w a ss ∧ (a = none → ss = []) ∧ ∀ x, a = some x → x.block < w.heap.size
theorem CA.kept {w w' : World} {a : Option Addr} {ss : List ByteArray} (h : CA w a ss) (hb : Below w.heap.size w w') : CA w' a ss := ⟨h.1.kept hb, h.2.1, fun x hx => Nat.lt_of_lt_of_le (h.2.2 x hx) hb.size⟩

theorem cloned_ca {w w' : World} {a : Option Addr} {ss : List ByteArray} {v : Value} (h : Cloned w a ss v w') (hn : a = none → ss = []) : Below w.heap.size w w' ∧ ∃ a', v = .slice a' ss.length ss.length ∧ (a' = none ↔ a = none) ∧ CA w' a' ss := by
  obtain ⟨hb, a', hv, hi, hs, hx⟩ := h
  exact ⟨hb, a', hv, hi, hs, fun e => hn (hi.1 e), fun x e => (hx x e).2⟩

/-- A list of lists that the call has made. -/
def CL (w : World) (a : Option Addr) (ys : List In) : Prop := Segs w a ys ∧ ∀ y ∈ ys, ∀ x, y.1 = some x → x.block < w.heap.size
theorem CL.kept {w w' : World} {a : Option Addr} {ys : List In} (h : CL w a ys) (hb : Below w.heap.size w w') : CL w' a ys := ⟨h.1.kept hb, fun y hy x hx => Nat.lt_of_lt_of_le (h.2 y hy x hx) hb.size⟩

/-- The flags' box. -/
def FL (w : World) (F : Nat) (f0 f1 f2 : Bool) : Prop := w.cell? ⟨F, 0, none⟩ = some (.bool f0) ∧ w.cell? ⟨F, 1, none⟩ = some (.bool f1) ∧ w.cell? ⟨F, 2, none⟩ = some (.bool f2)
theorem FL.kept {w w' : World} {F : Nat} {f0 f1 f2 : Bool} (h : FL w F f0 f1 f2) (hb : Below w.heap.size w w') : FL w' F f0 f1 f2 := ⟨below_cell hb h.1, below_cell hb h.2.1, below_cell hb h.2.2⟩
theorem flags_new (w : World) (f0 f1 f2 : Bool) (t : TypeId) : FL (w.alloc (.cells #[.bool f0, .bool f1, .bool f2] t)) w.heap.size f0 f1 f2 := ⟨by simp, by simp, by simp⟩

theorem ca_sa {w : World} {a : Option Addr} {ss : List ByteArray} {n : Nat} (h : CA w a ss) (hn : n = ss.length) (hm : n ≤ 65536) : SA w a ss n n := ⟨h.1, hn, by unfold maxLen; omega, fun e => ⟨h.2.1 e, by rw [hn, h.2.1 e]; rfl⟩⟩
theorem below_dr {w w' : World} (h : Below w.drew.heap.size w.drew w') : Below w.heap.size w w' := ((Below.refl w.heap.size w).drew).trans h
theorem CA.dr {w : World} {a : Option Addr} {ss : List ByteArray} (h : CA w a ss) : CA w.drew a ss := h.kept ((Below.refl _ _).drew)

theorem tt_new (W : World) (tn : ByteArray) (pv : Value) (sf : ByteArray) (qv : Value) (b0 b1 b2 : Bool) (ch co : ByteArray) (t : TypeId) :
    TT (W.alloc (.cells #[.string tn, pv, .string sf, qv, .bool b0, .bool b1, .bool b2, .string ch, .string co] t)) W.heap.size tn pv sf qv b0 b1 b2 ch co :=
  ⟨by simp, by simp, by simp, by simp, by simp, by simp, by simp, by simp, by simp, fun i => by simp⟩

theorem CA.arg {w W : World} {a : Option Addr} {ss : List ByteArray} {n : Nat} (h : CA w a ss) (hn : n = ss.length) (hm : n ≤ 65536) (hb : Below w.heap.size w W) : Arg W w.heap.size a ss n := ⟨h.1.kept hb, h.2.1, hn, by omega, h.2.2⟩

theorem CL.args {w W : World} {a : Option Addr} {ys xs : List In} (h : CL w a ys) (hm : ys.map (fun y => y.2.1) = xs.map (fun y => y.2.1)) (hx : ∀ x ∈ xs, x.2.1.length ≤ 65536) (hb : Below w.heap.size w W) : ∀ y ∈ ys, Arg W w.heap.size y.1 y.2.1 y.2.1.length := by
  intro y hy
  obtain ⟨h1, h2, h3⟩ := h.1.2 y hy
  refine ⟨h1.kept hb, fun e => (h3 e).2, rfl, ?_, h.2 y hy⟩
  have : y.2.1 ∈ xs.map (fun y => y.2.1) := by rw [← hm]; exact List.mem_map.2 ⟨y, hy, rfl⟩
  obtain ⟨x, hx1, hx2⟩ := List.mem_map.1 this
  rw [← hx2]; exact hx x hx1

theorem map_len {xs ys : List In} (hm : ys.map (fun y => y.2.1) = xs.map (fun y => y.2.1)) : ys.length = xs.length := by
  have := congrArg List.length hm
  simpa using this

theorem zzspell_any (T n : Nat) (ak an aa az pa : Option Addr) (ks ns sc ps : List ByteArray) (xs : List In) (pl : Nat) (kw tn sf ch co : ByteArray) (qv : Value) (b0 b1 b2 : Bool) (w : World)
    (HK : Seg w ak ks) (HN : Seg w an ns) (HX : Segs w aa xs) (HZ : Seg w az sc) (LK : n = ks.length) (LN : n = ns.length) (LX : n = xs.length) (LZ : n = sc.length)
    (hn6 : n ≤ 65536) (HKM : ∀ i, i < ks.length → (ks.getD i ByteArray.empty).size ≤ maxLen) (HKW : kw.size ≤ maxLen)
    (HT : TT w T tn (.slice pa pl pl) sf qv b0 b1 b2 ch co) (HP : Arg w T pa ps pl) (HI : ∀ x ∈ xs, Arg w T x.1 x.2.1 x.2.1.length) :
    Calls Try.prog 13 #[.slice ak n n, .slice an n n, .slice aa n n, .slice az n n, .pointer (some ⟨T, 0, none⟩), .string kw] w fun e w' => e = .returned (.tuple #[]) ∧ SpP w T tn pa ps sf qv b0 b1 b2 ch co ks ns xs sc kw w' := by
  rcases Nat.eq_zero_or_pos n with rfl | hn
  · obtain rfl := List.eq_nil_of_length_eq_zero LK.symm
    obtain rfl := List.eq_nil_of_length_eq_zero LN.symm
    obtain rfl := List.eq_nil_of_length_eq_zero LX.symm
    obtain rfl := List.eq_nil_of_length_eq_zero LZ.symm
    exact zzspell_none T ak an aa az pa ps 0 0 0 0 pl kw tn sf ch co qv b0 b1 b2 w HKW HT HP
  · exact zzspell_some T n ak an aa az pa ks ns sc ps xs n n n n pl kw tn sf ch co qv b0 b1 b2 w HK HN HX HZ LK LN LX LZ hn hn6 (LK ▸ HKM) HKW HT HP HI

theorem ent_last {ks ns : List ByteArray} {xs : List In} {sc : List ByteArray} {kw nm : ByteArray} {as' : List ByteArray} {s : ByteArray} {r : Int} (h : Ent ks ns xs sc kw nm as' s) (hl : LastAt ks kw r) :
    (r = -1 ∧ nm = ByteArray.empty ∧ as' = [] ∧ s = ByteArray.empty) ∨ ∃ k : Nat, k < ks.length ∧ r = k ∧ nm = ns.getD k ByteArray.empty ∧ as' = (xs.getD k none').2.1 ∧ s = sc.getD k ByteArray.empty := by
  rcases h with ⟨h1, h2, h3, h4⟩ | ⟨j, hj, h1, h2, h3, h4, h5⟩
  · rcases hl with ⟨e, _⟩ | ⟨k, hk, _, he, _⟩
    · exact .inl ⟨e, h1, h2, h3⟩
    · exact absurd he (h4 k hk)
  · rcases hl with ⟨_, hno⟩ | ⟨k, hk, e, he, hlast⟩
    · exact absurd h4 (hno j hj)
    · have hjk : j = k := by
        rcases Nat.lt_trichotomy j k with h | h | h
        · exact absurd he (h5 k h hk)
        · exact h
        · exact absurd h4 (hlast j h hj)
      subst hjk
      exact .inr ⟨j, hk, e, h1, h2, h3⟩

theorem empty_toList : ByteArray.empty.toList = [] := by rw [ByteArray.toList_eq]; rfl
theorem wantN_empty (tn : ByteArray) : wantN tn ByteArray.empty = tn := by simp [wantN]
theorem wantP_nil (as' : List ByteArray) (s : ByteArray) : wantP [] as' s = as' := by simp [wantP]
theorem wantP_rest {ps as' : List ByteArray} {s : ByteArray} (h : ps.length ≠ 0) (h2 : ps.length ≠ 1 ∨ s.toList = []) : wantP ps as' s = ps := by
  unfold wantP
  rw [if_neg (fun e => h (by rw [e]; rfl)), if_neg]
  rintro ⟨h3, h4⟩
  rcases h2 with h2 | h2
  · exact h2 h3
  · exact h4 h2
theorem wantP_scale {ps as' : List ByteArray} {s : ByteArray} (h : ps.length = 1) (h2 : s.toList ≠ []) : wantP ps as' s = ps ++ [s] := by
  unfold wantP
  rw [if_neg (fun e => by rw [e] at h; cases h), if_pos ⟨h, h2⟩]

theorem same2 (a a' : Option Addr) (ss : List ByteArray) (cap cap' l l' : Nat) (w : World) (h : Seg w a ss) (h' : Seg w a' ss) (hl : l = ss.length) (hl' : l' = ss.length) (hm : ss.length ≤ 131072) :
    Calls Try.prog 15 #[.slice a l cap, .slice a' l' cap'] w fun e w' => e = .returned (.bool true) ∧ ∃ n, w' = w.drewN n := by
  subst hl hl'
  exact same_any a a' ss cap cap' ss.length w h h' rfl hm

theorem Seg.drewN {w : World} {a : Option Addr} {ss : List ByteArray} (h : Seg w a ss) (n : Nat) : Seg (w.drewN n) a ss := by
  intro k hk
  obtain ⟨b, off, e, hc⟩ := h k hk
  exact ⟨b, off, e, fun i hi => by simpa using hc i hi⟩
theorem none_iff {a b : Option Addr} (h : a = none ↔ b = none) : a.isNone = b.isNone := by
  cases a <;> cases b <;> simp_all
theorem drewN_below {w W : World} (h : Below w.heap.size w W) (n : Nat) : Below w.heap.size w (W.drewN n) := ⟨h.os, h.tape, h.output, h.size, h.block⟩

theorem args_any' (ak an aa az ap ax : Option Addr) (ks ns : List ByteArray) (xs : List In) (sc ps qs : List ByteArray) (lk ln la ls lp lq ck cn ca cs cp cx : Nat) (s1 s2 s3 s4 s5 : ByteArray) (w : World)
    (HK : SA w ak ks lk ck) (HN : SA w an ns ln cn) (HX : LA w aa xs la ca) (HZ : SA w az sc ls cs) (HP : SA w ap ps lp cp) (HQ : SA w ax qs lq cx) :
    Calls Try.prog 9 #[.slice ak lk ck, .slice an ln cn, .slice aa la ca, .slice az ls cs, .string s1, .string s2, .slice ap lp cp, .string s3, .slice ax lq cx, .string s4, .string s5] w
      fun e w' => ∃ n, e = .returned (.int .i64 n) ∧ w' = w ∧ AB n lk ln xs ls lp lq := by
  obtain ⟨k1, rfl, k2, k3⟩ := HK
  obtain ⟨n1, rfl, n2, n3⟩ := HN
  obtain ⟨x1, rfl, x2, x3⟩ := HX
  obtain ⟨z1, rfl, z2, z3⟩ := HZ
  obtain ⟨p1, rfl, p2, p3⟩ := HP
  obtain ⟨q1, rfl, q2, q3⟩ := HQ
  exact args_any ak an aa az ap ax ks ns xs sc ps qs ck cn ca cs cp cx s1 s2 s3 s4 s5 w k1 n1 x1 z1 p1 q1 k2 n2 x2 z2 p2 q2

theorem clone_sa (a : Option Addr) (ss : List ByteArray) (n cap : Nat) (w : World) (h : SA w a ss n cap) (hm : n ≤ 65536) :
    Calls Try.prog 11 #[.slice a n cap] w fun e w' => ∃ a', e = .returned (.slice a' n n) ∧ Below w.heap.size w w' ∧ (a' = none ↔ a = none) ∧ CA w' a' ss := by
  refine (clone_any a ss cap n w h.1 h.2.1 hm h.2.2.2).mono ?_
  rintro e w' ⟨v, rfl, hc⟩
  obtain ⟨hb, a', rfl, hi, hca⟩ := cloned_ca hc (fun e => (h.2.2.2 e).1)
  exact ⟨a', by rw [h.2.1], hb, hi, hca⟩

theorem clones_la (a : Option Addr) (xs : List In) (n cap : Nat) (w : World) (h : LA w a xs n cap) (hm : n ≤ 65536) (hx : ∀ x ∈ xs, x.2.1.length ≤ 65536) :
    Calls Try.prog 12 #[.slice a n cap] w fun e w' => ∃ a' ys, e = .returned (.slice a' n n) ∧ Below w.heap.size w w' ∧ ys.map (fun y => y.2.1) = xs.map (fun y => y.2.1) ∧ CL w' a' ys := by
  refine (clones_any a xs cap n w h.1 h.2.1 hm hx h.2.2.2).mono ?_
  rintro e w' ⟨v, rfl, hb, a', ys, rfl, h1, h2, h3⟩
  exact ⟨a', ys, by rw [h.2.1], hb, h2, h1, h3⟩

set_option maxRecDepth 1000000 in
set_option maxHeartbeats 8000000 in
theorem final_some (F T lp lq wl wc pc : Nat) (nW sf ch co : ByteArray) (qa wa q1 : Option Addr) (pa p2 : Addr) (Y qs : List ByteArray) (f0 f1 f2 : Bool) (w : World)
    (c0 c1 c2 c3 c4 c5 c9 c12 c13 c14 c15 c16 c17 c18 c19 c20 c22 c23 c24 c26 c27 c28 c29 c32 c33 c34 c35 c36 c37 c38 c39 c40 c41 c42 c43 c44 c45 c46 c47 c48 c49 c50 c51 c52 c53 c54 c55 c56 c57 c58 c59 c60 c61 c62 c63 c64 c65 c66 c67 c68 c69 c70 c71 c72 c73 c74 c75 c76 c77 c78 c79 c80 c81 c82 c83 c84 c85 c86 c87 c88 c89 c90 c91 c92 c93 c94 c95 c96 c97 c98 c99 c100 c101 c102 c103 c104 c105 c106 c107 c108 c109 c110 c111 c112 c113 c114 c115 c116 c117 c118 c119 c120 c121 c122 c123 c124 c125 c126 c127 c128 c129 c130 c131 c132 c133 c134 c135 c136 c137 c138 c139 c140 c141 c142 c143 c144 c145 c146 c147 c148 c149 c150 c151 c152 c153 c154 c155 c156 c157 c158 c159 c160 c161 c162 c163 c164 c165 c166 c167 c168 c169 c170 c171 c172 c173 c174 c175 c176 c177 c178 c179 c180 c181 c182 c183 c184 c185 c186 c187 c188 c189 c190 c191 c192 c193 c194 c195 c196 c197 c198 c199 c200 c201 c202 c203 c204 c205 c206 c207 c208 c209 c210 c211 c212 c213 c214 c215 c216 c217 c218 c219 c220 c221 c222 c223 c224 c225 c226 c227 c228 c229 c230 c231 c232 c233 c234 c235 : Value) (Q : Exit → Act → World → Prop) (c : Code) (hc : Try.f4.body.bind (findReg 32) = some c)
    (HT : Hid (TT w T nW (.slice (some p2) wl pc) sf (.slice q1 lq lq) f0 f1 f2 ch co)) (HF : Hid (FL w F f0 f1 f2)) (HY : Hid (Seg w (some p2) Y ∧ Seg w wa Y ∧ wl = Y.length ∧ Y.length ≤ 131072)) (HQ : Hid (Seg w q1 qs ∧ Seg w qa qs ∧ lq = qs.length ∧ qs.length ≤ 131072))
    (hqn : q1.isNone = qa.isNone)
    (hQ : ∀ a n, a.eval (.tmp 24) = .bool true → a.defers = [] → Q .normal a (w.drewN n)) :
    Code.wp Try.prog c Q ⟨#[c0, c1, c2, c3, c4, c5, .slice (some pa) lp lp, .string sf, .slice qa lq lq, c9, .string ch, .string co, c12, c13, c14, c15, c16, c17, c18, c19, c20, .pointer (some ⟨F, 0, none⟩), c22, c23, c24, .pointer (some ⟨T, 0, none⟩), c26, c27, c28, c29, .string nW, .slice wa wl wc, c32, c33, c34, c35, c36, c37, c38, c39, c40, c41, c42, c43, c44, c45, c46, c47, c48, c49, c50, c51, c52, c53, c54, c55, c56, c57, c58, c59, c60, c61, c62, c63, c64, c65, c66, c67, c68, c69, c70, c71, c72, c73, c74, c75, c76, c77, c78, c79, c80, c81, c82, c83, c84, c85, c86, c87, c88, c89, c90, c91, c92, c93, c94, c95, c96, c97, c98, c99, c100, c101, c102, c103, c104, c105, c106, c107, c108, c109, c110, c111, c112, c113, c114, c115, c116, c117, c118, c119, c120, c121, c122, c123, c124, c125, c126, c127, c128, c129, c130, c131, c132, c133, c134, c135, c136, c137, c138, c139, c140, c141, c142, c143, c144, c145, c146, c147, c148, c149, c150, c151, c152, c153, c154, c155, c156, c157, c158, c159, c160, c161, c162, c163, c164, c165, c166, c167, c168, c169, c170, c171, c172, c173, c174, c175, c176, c177, c178, c179, c180, c181, c182, c183, c184, c185, c186, c187, c188, c189, c190, c191, c192, c193, c194, c195, c196, c197, c198, c199, c200, c201, c202, c203, c204, c205, c206, c207, c208, c209, c210, c211, c212, c213, c214, c215, c216, c217, c218, c219, c220, c221, c222, c223, c224, c225, c226, c227, c228, c229, c230, c231, c232, c233, c234, c235], []⟩ w := by
  injection hc with hc
  subst hc
  have q24 : ∀ (w : World) (a : Option Addr) (n c n' c' : Nat), (binOp .eql 24 (.slice a n c) (.slice none n' c')).run Try.prog w = .ok (.bool a.isNone) w := fun w a n c n' c' => Lib.run_eql_slice_nil w _ _ a n c n' c' Try.underlying24
  obtain ⟨c0, c1, c2, c3, c4, c5, c6, c7, c8, _⟩ := HT.out
  obtain ⟨d0, d1, d2⟩ := HF.out
  clear HT HF
  refine wp_region_quiet_lit (by kernel_rfl) ?hB ?h
  case hB => exact lex_ok
  simp only [List.append_eq, List.cons_append, List.nil_append]
  repeat (first | go_big_quiet_step (first | (go_at_call_of 15 (Value.slice q1 lq lq); exact Calls.quiet_of (same2 _ _ qs _ _ _ _ _ (HQ.out.1.drewN _) (HQ.out.2.1.drewN _) HQ.out.2.2.1 HQ.out.2.2.1 HQ.out.2.2.2)) | (go_at_call 15; exact Calls.quiet_of (same2 _ _ Y _ _ _ _ _ (HY.out.1.drewN _) (HY.out.2.1.drewN _) HY.out.2.2.1 HY.out.2.2.1 HY.out.2.2.2))) | quiet_step (fail))
  refine wpQuiet_nil ?_
  intro _ hw'
  obtain ⟨nq, hw''⟩ := hw'
  subst hw''
  exact hQ _ _ rfl rfl

set_option maxRecDepth 1000000 in
set_option maxHeartbeats 8000000 in
theorem final_none1 (F T lp lq wl wc pc : Nat) (nW sf ch co : ByteArray) (qa wa q1 : Option Addr) (p2 : Addr) (Y qs : List ByteArray) (f0 f1 f2 : Bool) (w : World)
    (c0 c1 c2 c3 c4 c5 c9 c12 c13 c14 c15 c16 c17 c18 c19 c20 c22 c23 c24 c26 c27 c28 c29 c32 c33 c34 c35 c36 c37 c38 c39 c40 c41 c42 c43 c44 c45 c46 c47 c48 c49 c50 c51 c52 c53 c54 c55 c56 c57 c58 c59 c60 c61 c62 c63 c64 c65 c66 c67 c68 c69 c70 c71 c72 c73 c74 c75 c76 c77 c78 c79 c80 c81 c82 c83 c84 c85 c86 c87 c88 c89 c90 c91 c92 c93 c94 c95 c96 c97 c98 c99 c100 c101 c102 c103 c104 c105 c106 c107 c108 c109 c110 c111 c112 c113 c114 c115 c116 c117 c118 c119 c120 c121 c122 c123 c124 c125 c126 c127 c128 c129 c130 c131 c132 c133 c134 c135 c136 c137 c138 c139 c140 c141 c142 c143 c144 c145 c146 c147 c148 c149 c150 c151 c152 c153 c154 c155 c156 c157 c158 c159 c160 c161 c162 c163 c164 c165 c166 c167 c168 c169 c170 c171 c172 c173 c174 c175 c176 c177 c178 c179 c180 c181 c182 c183 c184 c185 c186 c187 c188 c189 c190 c191 c192 c193 c194 c195 c196 c197 c198 c199 c200 c201 c202 c203 c204 c205 c206 c207 c208 c209 c210 c211 c212 c213 c214 c215 c216 c217 c218 c219 c220 c221 c222 c223 c224 c225 c226 c227 c228 c229 c230 c231 c232 c233 c234 c235 : Value) (Q : Exit → Act → World → Prop) (c : Code) (hc : Try.f4.body.bind (findReg 32) = some c)
    (HT : Hid (TT w T nW (.slice (some p2) wl pc) sf (.slice q1 lq lq) f0 f1 f2 ch co)) (HF : Hid (FL w F f0 f1 f2)) (HY : Hid (Seg w (some p2) Y ∧ Seg w wa Y ∧ wl = Y.length ∧ Y.length ≤ 131072)) (HQ : Hid (Seg w q1 qs ∧ Seg w qa qs ∧ lq = qs.length ∧ qs.length ≤ 131072))
    (hqn : q1.isNone = qa.isNone) (hwl : (((wl : Nat) : Int) == 0) = false)
    (hQ : ∀ a n, a.eval (.tmp 24) = .bool true → a.defers = [] → Q .normal a (w.drewN n)) :
    Code.wp Try.prog c Q ⟨#[c0, c1, c2, c3, c4, c5, .slice none lp lp, .string sf, .slice qa lq lq, c9, .string ch, .string co, c12, c13, c14, c15, c16, c17, c18, c19, c20, .pointer (some ⟨F, 0, none⟩), c22, c23, c24, .pointer (some ⟨T, 0, none⟩), c26, c27, c28, c29, .string nW, .slice wa wl wc, c32, c33, c34, c35, c36, c37, c38, c39, c40, c41, c42, c43, c44, c45, c46, c47, c48, c49, c50, c51, c52, c53, c54, c55, c56, c57, c58, c59, c60, c61, c62, c63, c64, c65, c66, c67, c68, c69, c70, c71, c72, c73, c74, c75, c76, c77, c78, c79, c80, c81, c82, c83, c84, c85, c86, c87, c88, c89, c90, c91, c92, c93, c94, c95, c96, c97, c98, c99, c100, c101, c102, c103, c104, c105, c106, c107, c108, c109, c110, c111, c112, c113, c114, c115, c116, c117, c118, c119, c120, c121, c122, c123, c124, c125, c126, c127, c128, c129, c130, c131, c132, c133, c134, c135, c136, c137, c138, c139, c140, c141, c142, c143, c144, c145, c146, c147, c148, c149, c150, c151, c152, c153, c154, c155, c156, c157, c158, c159, c160, c161, c162, c163, c164, c165, c166, c167, c168, c169, c170, c171, c172, c173, c174, c175, c176, c177, c178, c179, c180, c181, c182, c183, c184, c185, c186, c187, c188, c189, c190, c191, c192, c193, c194, c195, c196, c197, c198, c199, c200, c201, c202, c203, c204, c205, c206, c207, c208, c209, c210, c211, c212, c213, c214, c215, c216, c217, c218, c219, c220, c221, c222, c223, c224, c225, c226, c227, c228, c229, c230, c231, c232, c233, c234, c235], []⟩ w := by
  injection hc with hc
  subst hc
  have q24 : ∀ (w : World) (a : Option Addr) (n c n' c' : Nat), (binOp .eql 24 (.slice a n c) (.slice none n' c')).run Try.prog w = .ok (.bool a.isNone) w := fun w a n c n' c' => Lib.run_eql_slice_nil w _ _ a n c n' c' Try.underlying24
  obtain ⟨c0, c1, c2, c3, c4, c5, c6, c7, c8, _⟩ := HT.out
  obtain ⟨d0, d1, d2⟩ := HF.out
  clear HT HF
  refine wp_region_quiet_lit (by kernel_rfl) ?hB ?h
  case hB => exact lex_ok
  simp only [List.append_eq, List.cons_append, List.nil_append]
  repeat (first | go_big_quiet_step (first | (go_at_call_of 15 (Value.slice q1 lq lq); exact Calls.quiet_of (same2 _ _ qs _ _ _ _ _ (HQ.out.1.drewN _) (HQ.out.2.1.drewN _) HQ.out.2.2.1 HQ.out.2.2.1 HQ.out.2.2.2)) | (go_at_call 15; exact Calls.quiet_of (same2 _ _ Y _ _ _ _ _ (HY.out.1.drewN _) (HY.out.2.1.drewN _) HY.out.2.2.1 HY.out.2.2.1 HY.out.2.2.2))) | quiet_step (fail))
  refine wpQuiet_nil ?_
  intro _ hw'
  obtain ⟨nq, hw''⟩ := hw'
  subst hw''
  exact hQ _ _ rfl rfl

set_option maxRecDepth 1000000 in
set_option maxHeartbeats 8000000 in
theorem final_none0 (F T lp lq wc pc : Nat) (nW sf ch co : ByteArray) (qa wa q1 : Option Addr)  (Y qs : List ByteArray) (f0 f1 f2 : Bool) (w : World)
    (c0 c1 c2 c3 c4 c5 c9 c12 c13 c14 c15 c16 c17 c18 c19 c20 c22 c23 c24 c26 c27 c28 c29 c32 c33 c34 c35 c36 c37 c38 c39 c40 c41 c42 c43 c44 c45 c46 c47 c48 c49 c50 c51 c52 c53 c54 c55 c56 c57 c58 c59 c60 c61 c62 c63 c64 c65 c66 c67 c68 c69 c70 c71 c72 c73 c74 c75 c76 c77 c78 c79 c80 c81 c82 c83 c84 c85 c86 c87 c88 c89 c90 c91 c92 c93 c94 c95 c96 c97 c98 c99 c100 c101 c102 c103 c104 c105 c106 c107 c108 c109 c110 c111 c112 c113 c114 c115 c116 c117 c118 c119 c120 c121 c122 c123 c124 c125 c126 c127 c128 c129 c130 c131 c132 c133 c134 c135 c136 c137 c138 c139 c140 c141 c142 c143 c144 c145 c146 c147 c148 c149 c150 c151 c152 c153 c154 c155 c156 c157 c158 c159 c160 c161 c162 c163 c164 c165 c166 c167 c168 c169 c170 c171 c172 c173 c174 c175 c176 c177 c178 c179 c180 c181 c182 c183 c184 c185 c186 c187 c188 c189 c190 c191 c192 c193 c194 c195 c196 c197 c198 c199 c200 c201 c202 c203 c204 c205 c206 c207 c208 c209 c210 c211 c212 c213 c214 c215 c216 c217 c218 c219 c220 c221 c222 c223 c224 c225 c226 c227 c228 c229 c230 c231 c232 c233 c234 c235 : Value) (Q : Exit → Act → World → Prop) (c : Code) (hc : Try.f4.body.bind (findReg 32) = some c)
    (HT : Hid (TT w T nW (.slice none 0 pc) sf (.slice q1 lq lq) f0 f1 f2 ch co)) (HF : Hid (FL w F f0 f1 f2)) (HY : Hid (Seg w none Y ∧ Seg w wa Y ∧ 0 = Y.length ∧ Y.length ≤ 131072)) (HQ : Hid (Seg w q1 qs ∧ Seg w qa qs ∧ lq = qs.length ∧ qs.length ≤ 131072))
    (hqn : q1.isNone = qa.isNone)
    (hQ : ∀ a n, a.eval (.tmp 24) = .bool true → a.defers = [] → Q .normal a (w.drewN n)) :
    Code.wp Try.prog c Q ⟨#[c0, c1, c2, c3, c4, c5, .slice none lp lp, .string sf, .slice qa lq lq, c9, .string ch, .string co, c12, c13, c14, c15, c16, c17, c18, c19, c20, .pointer (some ⟨F, 0, none⟩), c22, c23, c24, .pointer (some ⟨T, 0, none⟩), c26, c27, c28, c29, .string nW, .slice wa 0 wc, c32, c33, c34, c35, c36, c37, c38, c39, c40, c41, c42, c43, c44, c45, c46, c47, c48, c49, c50, c51, c52, c53, c54, c55, c56, c57, c58, c59, c60, c61, c62, c63, c64, c65, c66, c67, c68, c69, c70, c71, c72, c73, c74, c75, c76, c77, c78, c79, c80, c81, c82, c83, c84, c85, c86, c87, c88, c89, c90, c91, c92, c93, c94, c95, c96, c97, c98, c99, c100, c101, c102, c103, c104, c105, c106, c107, c108, c109, c110, c111, c112, c113, c114, c115, c116, c117, c118, c119, c120, c121, c122, c123, c124, c125, c126, c127, c128, c129, c130, c131, c132, c133, c134, c135, c136, c137, c138, c139, c140, c141, c142, c143, c144, c145, c146, c147, c148, c149, c150, c151, c152, c153, c154, c155, c156, c157, c158, c159, c160, c161, c162, c163, c164, c165, c166, c167, c168, c169, c170, c171, c172, c173, c174, c175, c176, c177, c178, c179, c180, c181, c182, c183, c184, c185, c186, c187, c188, c189, c190, c191, c192, c193, c194, c195, c196, c197, c198, c199, c200, c201, c202, c203, c204, c205, c206, c207, c208, c209, c210, c211, c212, c213, c214, c215, c216, c217, c218, c219, c220, c221, c222, c223, c224, c225, c226, c227, c228, c229, c230, c231, c232, c233, c234, c235], []⟩ w := by
  injection hc with hc
  subst hc
  have q24 : ∀ (w : World) (a : Option Addr) (n c n' c' : Nat), (binOp .eql 24 (.slice a n c) (.slice none n' c')).run Try.prog w = .ok (.bool a.isNone) w := fun w a n c n' c' => Lib.run_eql_slice_nil w _ _ a n c n' c' Try.underlying24
  obtain ⟨c0, c1, c2, c3, c4, c5, c6, c7, c8, _⟩ := HT.out
  obtain ⟨d0, d1, d2⟩ := HF.out
  clear HT HF
  refine wp_region_quiet_lit (by kernel_rfl) ?hB ?h
  case hB => exact lex_ok
  simp only [List.append_eq, List.cons_append, List.nil_append]
  repeat (first | go_big_quiet_step (first | (go_at_call_of 15 (Value.slice q1 lq lq); exact Calls.quiet_of (same2 _ _ qs _ _ _ _ _ (HQ.out.1.drewN _) (HQ.out.2.1.drewN _) HQ.out.2.2.1 HQ.out.2.2.1 HQ.out.2.2.2)) | (go_at_call 15; exact Calls.quiet_of (same2 _ _ Y _ _ _ _ _ (HY.out.1.drewN _) (HY.out.2.1.drewN _) HY.out.2.2.1 HY.out.2.2.1 HY.out.2.2.2))) | quiet_step (fail))
  refine wpQuiet_nil ?_
  intro _ hw'
  obtain ⟨nq, hw''⟩ := hw'
  subst hw''
  exact hQ _ _ rfl rfl

end Go.Proofs.Qxb6604272a.Sp
