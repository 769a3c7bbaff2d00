import Derived.Test.Qxb6604272aSpI
namespace Go.Proofs.Qxb6604272a.Sp
open Go.RowKit

set_option maxRecDepth 1000000 in
theorem final_any (F T lp lq wl wc pc : Nat) (nW sf ch co : ByteArray) (qa wa q1 pa p2 : Option Addr) (Y qs : List ByteArray) (f0 f1 f2 : Bool) (w : World)
    (c0 c1 c2 c3 c4 c5 c9 c12 c13 c14 c15 c16 c17 c18 c19 c20 c22 c23 c24 c26 c27 c28 c29 c32 c33 c34 c35 c36 c37 c38 c39 c40 c41 c42 c43 c44 c45 c46 c47 c48 c49 c50 c51 c52 c53 c54 c55 c56 c57 c58 c59 c60 c61 c62 c63 c64 c65 c66 c67 c68 c69 c70 c71 c72 c73 c74 c75 c76 c77 c78 c79 c80 c81 c82 c83 c84 c85 c86 c87 c88 c89 c90 c91 c92 c93 c94 c95 c96 c97 c98 c99 c100 c101 c102 c103 c104 c105 c106 c107 c108 c109 c110 c111 c112 c113 c114 c115 c116 c117 c118 c119 c120 c121 c122 c123 c124 c125 c126 c127 c128 c129 c130 c131 c132 c133 c134 c135 c136 c137 c138 c139 c140 c141 c142 c143 c144 c145 c146 c147 c148 c149 c150 c151 c152 c153 c154 c155 c156 c157 c158 c159 c160 c161 c162 c163 c164 c165 c166 c167 c168 c169 c170 c171 c172 c173 c174 c175 c176 c177 c178 c179 c180 c181 c182 c183 c184 c185 c186 c187 c188 c189 c190 c191 c192 c193 c194 c195 c196 c197 c198 c199 c200 c201 c202 c203 c204 c205 c206 c207 c208 c209 c210 c211 c212 c213 c214 c215 c216 c217 c218 c219 c220 c221 c222 c223 c224 c225 c226 c227 c228 c229 c230 c231 c232 c233 c234 c235 : Value) (Q : Exit → Act → World → Prop) (c : Code) (hc : Try.f4.body.bind (findReg 32) = some c)
    (HT : TT w T nW (.slice p2 Y.length pc) sf (.slice q1 lq lq) f0 f1 f2 ch co) (HF : FL w F f0 f1 f2) (HY : Seg w p2 Y ∧ Seg w wa Y ∧ wl = Y.length ∧ Y.length ≤ 131072) (HQ : Seg w q1 qs ∧ Seg w qa qs ∧ lq = qs.length ∧ qs.length ≤ 131072)
    (hqn : q1 = none ↔ qa = none) (hn : p2 = none ↔ pa = none ∧ Y = [])
    (hQ : ∀ a n, a.eval (.tmp 24) = .bool true → a.defers = [] → Q .normal a (w.drewN n)) :
    Code.wp Try.prog c Q ⟨#[c0, c1, c2, c3, c4, c5, .slice pa lp lp, .string sf, .slice qa lq lq, c9, .string ch, .string co, c12, c13, c14, c15, c16, c17, c18, c19, c20, .pointer (some ⟨F, 0, none⟩), c22, c23, c24, .pointer (some ⟨T, 0, none⟩), c26, c27, c28, c29, .string nW, .slice wa wl wc, c32, c33, c34, c35, c36, c37, c38, c39, c40, c41, c42, c43, c44, c45, c46, c47, c48, c49, c50, c51, c52, c53, c54, c55, c56, c57, c58, c59, c60, c61, c62, c63, c64, c65, c66, c67, c68, c69, c70, c71, c72, c73, c74, c75, c76, c77, c78, c79, c80, c81, c82, c83, c84, c85, c86, c87, c88, c89, c90, c91, c92, c93, c94, c95, c96, c97, c98, c99, c100, c101, c102, c103, c104, c105, c106, c107, c108, c109, c110, c111, c112, c113, c114, c115, c116, c117, c118, c119, c120, c121, c122, c123, c124, c125, c126, c127, c128, c129, c130, c131, c132, c133, c134, c135, c136, c137, c138, c139, c140, c141, c142, c143, c144, c145, c146, c147, c148, c149, c150, c151, c152, c153, c154, c155, c156, c157, c158, c159, c160, c161, c162, c163, c164, c165, c166, c167, c168, c169, c170, c171, c172, c173, c174, c175, c176, c177, c178, c179, c180, c181, c182, c183, c184, c185, c186, c187, c188, c189, c190, c191, c192, c193, c194, c195, c196, c197, c198, c199, c200, c201, c202, c203, c204, c205, c206, c207, c208, c209, c210, c211, c212, c213, c214, c215, c216, c217, c218, c219, c220, c221, c222, c223, c224, c225, c226, c227, c228, c229, c230, c231, c232, c233, c234, c235], []⟩ w := by
  have e := HY.2.2.1
  rw [← e] at HT
  cases pa with
  | some pa =>
    cases p2 with
    | none => exact absurd (hn.1 rfl).1 (by simp)
    | some p2 => exact final_some F T lp lq wl wc pc nW sf ch co qa wa q1 pa p2 Y qs f0 f1 f2 w c0 c1 c2 c3 c4 c5 c9 c12 c13 c14 c15 c16 c17 c18 c19 c20 c22 c23 c24 c26 c27 c28 c29 c32 c33 c34 c35 c36 c37 c38 c39 c40 c41 c42 c43 c44 c45 c46 c47 c48 c49 c50 c51 c52 c53 c54 c55 c56 c57 c58 c59 c60 c61 c62 c63 c64 c65 c66 c67 c68 c69 c70 c71 c72 c73 c74 c75 c76 c77 c78 c79 c80 c81 c82 c83 c84 c85 c86 c87 c88 c89 c90 c91 c92 c93 c94 c95 c96 c97 c98 c99 c100 c101 c102 c103 c104 c105 c106 c107 c108 c109 c110 c111 c112 c113 c114 c115 c116 c117 c118 c119 c120 c121 c122 c123 c124 c125 c126 c127 c128 c129 c130 c131 c132 c133 c134 c135 c136 c137 c138 c139 c140 c141 c142 c143 c144 c145 c146 c147 c148 c149 c150 c151 c152 c153 c154 c155 c156 c157 c158 c159 c160 c161 c162 c163 c164 c165 c166 c167 c168 c169 c170 c171 c172 c173 c174 c175 c176 c177 c178 c179 c180 c181 c182 c183 c184 c185 c186 c187 c188 c189 c190 c191 c192 c193 c194 c195 c196 c197 c198 c199 c200 c201 c202 c203 c204 c205 c206 c207 c208 c209 c210 c211 c212 c213 c214 c215 c216 c217 c218 c219 c220 c221 c222 c223 c224 c225 c226 c227 c228 c229 c230 c231 c232 c233 c234 c235 Q c hc HT HF HY HQ (none_iff hqn) hQ
  | none =>
    cases p2 with
    | none =>
      obtain rfl := (hn.1 rfl).2
      obtain rfl := e
      exact final_none0 F T lp lq wc pc nW sf ch co qa wa q1 [] qs f0 f1 f2 w c0 c1 c2 c3 c4 c5 c9 c12 c13 c14 c15 c16 c17 c18 c19 c20 c22 c23 c24 c26 c27 c28 c29 c32 c33 c34 c35 c36 c37 c38 c39 c40 c41 c42 c43 c44 c45 c46 c47 c48 c49 c50 c51 c52 c53 c54 c55 c56 c57 c58 c59 c60 c61 c62 c63 c64 c65 c66 c67 c68 c69 c70 c71 c72 c73 c74 c75 c76 c77 c78 c79 c80 c81 c82 c83 c84 c85 c86 c87 c88 c89 c90 c91 c92 c93 c94 c95 c96 c97 c98 c99 c100 c101 c102 c103 c104 c105 c106 c107 c108 c109 c110 c111 c112 c113 c114 c115 c116 c117 c118 c119 c120 c121 c122 c123 c124 c125 c126 c127 c128 c129 c130 c131 c132 c133 c134 c135 c136 c137 c138 c139 c140 c141 c142 c143 c144 c145 c146 c147 c148 c149 c150 c151 c152 c153 c154 c155 c156 c157 c158 c159 c160 c161 c162 c163 c164 c165 c166 c167 c168 c169 c170 c171 c172 c173 c174 c175 c176 c177 c178 c179 c180 c181 c182 c183 c184 c185 c186 c187 c188 c189 c190 c191 c192 c193 c194 c195 c196 c197 c198 c199 c200 c201 c202 c203 c204 c205 c206 c207 c208 c209 c210 c211 c212 c213 c214 c215 c216 c217 c218 c219 c220 c221 c222 c223 c224 c225 c226 c227 c228 c229 c230 c231 c232 c233 c234 c235 Q c hc HT HF HY HQ (none_iff hqn) hQ
    | some p2 =>
      have hY : Y ≠ [] := fun h => by have := hn.2 ⟨rfl, h⟩; cases this
      have hl : wl ≠ 0 := fun h => hY (List.eq_nil_of_length_eq_zero (by omega))
      exact final_none1 F T lp lq wl wc pc nW sf ch co qa wa q1 p2 Y qs f0 f1 f2 w c0 c1 c2 c3 c4 c5 c9 c12 c13 c14 c15 c16 c17 c18 c19 c20 c22 c23 c24 c26 c27 c28 c29 c32 c33 c34 c35 c36 c37 c38 c39 c40 c41 c42 c43 c44 c45 c46 c47 c48 c49 c50 c51 c52 c53 c54 c55 c56 c57 c58 c59 c60 c61 c62 c63 c64 c65 c66 c67 c68 c69 c70 c71 c72 c73 c74 c75 c76 c77 c78 c79 c80 c81 c82 c83 c84 c85 c86 c87 c88 c89 c90 c91 c92 c93 c94 c95 c96 c97 c98 c99 c100 c101 c102 c103 c104 c105 c106 c107 c108 c109 c110 c111 c112 c113 c114 c115 c116 c117 c118 c119 c120 c121 c122 c123 c124 c125 c126 c127 c128 c129 c130 c131 c132 c133 c134 c135 c136 c137 c138 c139 c140 c141 c142 c143 c144 c145 c146 c147 c148 c149 c150 c151 c152 c153 c154 c155 c156 c157 c158 c159 c160 c161 c162 c163 c164 c165 c166 c167 c168 c169 c170 c171 c172 c173 c174 c175 c176 c177 c178 c179 c180 c181 c182 c183 c184 c185 c186 c187 c188 c189 c190 c191 c192 c193 c194 c195 c196 c197 c198 c199 c200 c201 c202 c203 c204 c205 c206 c207 c208 c209 c210 c211 c212 c213 c214 c215 c216 c217 c218 c219 c220 c221 c222 c223 c224 c225 c226 c227 c228 c229 c230 c231 c232 c233 c234 c235 Q c hc HT HF HY HQ (none_iff hqn) (by simpa using hl) hQ

theorem seg_two {W : World} {s t : ByteArray} {ty : TypeId} : Seg (W.alloc (.cells #[.string s, .string t] ty)) (some ⟨W.heap.size, 0, none⟩) [s, t] := by
  intro k _
  refine ⟨W.heap.size, 0, rfl, fun i hi => ?_⟩
  match i, hi with
  | 0, _ => simp
  | 1, _ => simp

theorem one_str {ps : List ByteArray} (h : ps.length = 1) : ps = [ps.getD 0 ByteArray.empty] := by
  match ps, h with
  | [a], _ => rfl

theorem done24 {w W : World} {a : Act} {n : Nat} (h0 : Below w.heap.size w W) (h24 : a.eval (.tmp 24) = .bool true) (hd : a.defers = []) :
    bodyPost Try.prog Try.f4 (fun e w' => e = .returned (.bool true) ∧ Below w.heap.size w w') .ret a (W.drewN n) := by
  refine bodyPost_ret (results_tmp rfl _ _ _) hd ?_
  exact ⟨ret_val h24, drewN_below h0 n⟩

theorem not_empty {s : ByteArray} (h : (!s.toList.isEmpty) = true) : s.toList ≠ [] := by intro e; rw [e] at h; simp at h
theorem is_empty {s : ByteArray} (h : (!s.toList.isEmpty) = false) : s.toList = [] := by simpa using h
theorem nil_of {ps : List ByteArray} {lp : Nat} (LP : lp = ps.length) (h : (((lp : Nat) : Int) == 0) = true) : ps = [] :=
  List.eq_nil_of_length_eq_zero (by rw [← LP]; simpa using h)
theorem not_nil {ps : List ByteArray} {lp : Nat} (LP : lp = ps.length) (h : (((lp : Nat) : Int) == 0) = false) : ps.length ≠ 0 := by
  rw [← LP]; simpa using h

set_option maxRecDepth 1000000 in
set_option maxHeartbeats 8000000 in
theorem law_any (ak an aa az ap ax : Option Addr) (ks ns : List ByteArray) (xs : List In) (sc ps qs : List ByteArray) (lk ln la ls lp lq ck cn ca cs cp cx : Nat) (kw tn sf ch co : ByteArray) (f0 f1 f2 : Bool) (w : World)
    (HK : Hid (SA w ak ks lk ck)) (HN : Hid (SA w an ns ln cn)) (HX : Hid (LA w aa xs la ca)) (HZ : Hid (SA w az sc ls cs)) (HP : Hid (SA w ap ps lp cp)) (HQ : Hid (SA w ax qs lq cx))
    (HKM : Hid (∀ i, i < ks.length → (ks.getD i ByteArray.empty).size ≤ maxLen)) (HKW : Hid (kw.size ≤ maxLen)) :
    Calls Try.prog 4 #[.slice ak lk ck, .slice an ln cn, .slice aa la ca, .slice az ls cs, .string kw, .string tn, .slice ap lp cp, .string sf, .slice ax lq cx, .agg #[.bool f0, .bool f1, .bool f2], .string ch, .string co] w
      fun e w' => e = .returned (.bool true) ∧ Below w.heap.size w w' := by
  go_enter Try.func4, Try.ntmps4
  go_wp2_with fail
  have HF : Hid (FL (w.alloc (.cells #[.bool f0, .bool f1, .bool f2] 27)) w.heap.size f0 f1 f2) := flags_new w f0 f1 f2 27
  have H0 : Hid (Below w.heap.size w (w.alloc (.cells #[.bool f0, .bool f1, .bool f2] 27))) := (Below.refl _ _).alloc (Nat.le_refl _) _
  generalize (w.alloc (.cells #[.bool f0, .bool f1, .bool f2] 27)) = W0 at HF H0 ⊢
  replace HK : Hid (SA W0 ak ks lk ck) := HK.out.kept H0.out
  replace HN : Hid (SA W0 an ns ln cn) := HN.out.kept H0.out
  replace HX : Hid (LA W0 aa xs la ca) := HX.out.kept H0.out
  replace HZ : Hid (SA W0 az sc ls cs) := HZ.out.kept H0.out
  replace HP : Hid (SA W0 ap ps lp cp) := HP.out.kept H0.out
  replace HQ : Hid (SA W0 ax qs lq cx) := HQ.out.kept H0.out
  refine (bytes_any ak an aa az ap ax ks ns xs sc ps qs lk ln la ls lp lq ck cn ca cs cp cx kw tn sf ch co f0 f1 f2 W0 HK.out.1 HN.out.1 HX.out.1 HZ.out.1 HP.out.1 HQ.out.1 HK.out.2.1 HN.out.2.1 HX.out.2.1 HZ.out.2.1 HP.out.2.1 HQ.out.2.1).mono ?_
  rintro e W1 ⟨⟨b, rfl⟩, hb⟩
  replace HK : Hid (SA W1 ak ks lk ck) := HK.out.kept hb
  replace HN : Hid (SA W1 an ns ln cn) := HN.out.kept hb
  replace HX : Hid (LA W1 aa xs la ca) := HX.out.kept hb
  replace HZ : Hid (SA W1 az sc ls cs) := HZ.out.kept hb
  replace HP : Hid (SA W1 ap ps lp cp) := HP.out.kept hb
  replace HQ : Hid (SA W1 ax qs lq cx) := HQ.out.kept hb
  replace HF : Hid (FL W1 w.heap.size f0 f1 f2) := HF.out.kept hb
  replace H0 : Hid (Below w.heap.size w W1) := below_up H0.out hb
  clear hb
  cases b
  · go_wp2
    go_ret
    exact ⟨rfl, H0.out⟩
  go_wp2_with fail
  refine (args_any' ak an aa az ap ax ks ns xs sc ps qs lk ln la ls lp lq ck cn ca cs cp cx kw tn sf ch co W1 HK.out HN.out HX.out HZ.out HP.out HQ.out).mono ?_
  rintro e w' ⟨n, rfl, hw, hab⟩
  obtain rfl := hw.symm
  clear hw
  have HAB : Hid (AB n lk ln xs ls lp lq) := hab
  clear hab
  by_cases hn0 : 1048576 < n
  · go_wp2
    go_ret
    exact ⟨rfl, H0.out⟩
  have hn : n ≤ 1048576 := by omega
  go_wp2_with fail
  obtain ⟨m1, m2, ⟨m3, m4⟩, m5, m6, m7⟩ := HAB.out hn
  have HM4 : Hid (∀ x ∈ xs, x.2.1.length ≤ 65536) := m4
  clear HAB m4 hn hn0
  refine (shaped_any ak an aa az lk ln la ls ck cn ca cs W1).mono ?_
  rintro e w' ⟨b, rfl, hw, hsh⟩
  obtain rfl := hw.symm
  clear hw
  cases b
  · go_wp2
    go_ret
    exact ⟨rfl, H0.out⟩
  obtain ⟨e1, e2, e3⟩ := hsh rfl
  clear hsh
  subst e1 e2 e3
  go_wp2_with fail
  have LK : Hid (ls = ks.length) := HK.out.2.1
  have LN : Hid (ls = ns.length) := HN.out.2.1
  have LX : Hid (ls = xs.length) := HX.out.2.1
  have LZ : Hid (ls = sc.length) := HZ.out.2.1
  have LP : Hid (lp = ps.length) := HP.out.2.1
  have LQ : Hid (lq = qs.length) := HQ.out.2.1
  refine (clone_sa ak ks ls ck W1 HK.out (by omega)).mono ?_
  rintro e W2 ⟨ka, rfl, hb, -, hca⟩
  replace HN : Hid (SA W2 an ns ls cn) := HN.out.kept hb
  replace HX : Hid (LA W2 aa xs ls ca) := HX.out.kept hb
  replace HZ : Hid (SA W2 az sc ls cs) := HZ.out.kept hb
  replace HP : Hid (SA W2 ap ps lp cp) := HP.out.kept hb
  replace HQ : Hid (SA W2 ax qs lq cx) := HQ.out.kept hb
  replace HF : Hid (FL W2 w.heap.size f0 f1 f2) := HF.out.kept hb
  replace H0 : Hid (Below w.heap.size w W2) := below_up H0.out hb
  have CK : Hid (CA W2 ka ks) := hca
  clear hb hca HK
  go_wp2_with fail
  refine (clone_sa an ns ls cn W2 HN.out (by omega)).mono ?_
  rintro e W3 ⟨na, rfl, hb, -, hca⟩
  replace HX : Hid (LA W3 aa xs ls ca) := HX.out.kept hb
  replace HZ : Hid (SA W3 az sc ls cs) := HZ.out.kept hb
  replace HP : Hid (SA W3 ap ps lp cp) := HP.out.kept hb
  replace HQ : Hid (SA W3 ax qs lq cx) := HQ.out.kept hb
  replace HF : Hid (FL W3 w.heap.size f0 f1 f2) := HF.out.kept hb
  replace CK : Hid (CA W3 ka ks) := CK.out.kept hb
  replace H0 : Hid (Below w.heap.size w W3) := below_up H0.out hb
  have CN : Hid (CA W3 na ns) := hca
  clear hb hca HN
  go_wp2_with fail
  refine (clones_la aa xs ls ca W3 HX.out (by omega) HM4.out).mono ?_
  rintro e W4 ⟨la, ys, rfl, hb, hmap, hca⟩
  replace HZ : Hid (SA W4 az sc ls cs) := HZ.out.kept hb
  replace HP : Hid (SA W4 ap ps lp cp) := HP.out.kept hb
  replace HQ : Hid (SA W4 ax qs lq cx) := HQ.out.kept hb
  replace HF : Hid (FL W4 w.heap.size f0 f1 f2) := HF.out.kept hb
  replace CK : Hid (CA W4 ka ks) := CK.out.kept hb
  replace CN : Hid (CA W4 na ns) := CN.out.kept hb
  replace H0 : Hid (Below w.heap.size w W4) := below_up H0.out hb
  have CX : Hid (CL W4 la ys) := hca
  have HMAP : Hid (ys.map (fun y => y.2.1) = xs.map (fun y => y.2.1)) := hmap
  clear hmap
  clear hb hca HX
  go_wp2_with fail
  refine (clone_sa az sc ls cs W4 HZ.out (by omega)).mono ?_
  rintro e W5 ⟨za, rfl, hb, -, hca⟩
  replace HP : Hid (SA W5 ap ps lp cp) := HP.out.kept hb
  replace HQ : Hid (SA W5 ax qs lq cx) := HQ.out.kept hb
  replace HF : Hid (FL W5 w.heap.size f0 f1 f2) := HF.out.kept hb
  replace CK : Hid (CA W5 ka ks) := CK.out.kept hb
  replace CN : Hid (CA W5 na ns) := CN.out.kept hb
  replace CX : Hid (CL W5 la ys) := CX.out.kept hb
  replace H0 : Hid (Below w.heap.size w W5) := below_up H0.out hb
  have CZ : Hid (CA W5 za sc) := hca
  clear hb hca HZ
  go_wp2_with fail
  refine (clone_sa ap ps lp cp W5 HP.out (by omega)).mono ?_
  rintro e W6 ⟨pa, rfl, hb, -, hca⟩
  replace HQ : Hid (SA W6 ax qs lq cx) := HQ.out.kept hb
  replace HF : Hid (FL W6 w.heap.size f0 f1 f2) := HF.out.kept hb
  replace CK : Hid (CA W6 ka ks) := CK.out.kept hb
  replace CN : Hid (CA W6 na ns) := CN.out.kept hb
  replace CX : Hid (CL W6 la ys) := CX.out.kept hb
  replace CZ : Hid (CA W6 za sc) := CZ.out.kept hb
  replace H0 : Hid (Below w.heap.size w W6) := below_up H0.out hb
  have CP : Hid (CA W6 pa ps) := hca
  clear hb hca HP
  go_wp2_with fail
  refine (clone_sa ax qs lq cx W6 HQ.out (by omega)).mono ?_
  rintro e W7 ⟨qa, rfl, hb, -, hca⟩
  replace HF : Hid (FL W7 w.heap.size f0 f1 f2) := HF.out.kept hb
  replace CK : Hid (CA W7 ka ks) := CK.out.kept hb
  replace CN : Hid (CA W7 na ns) := CN.out.kept hb
  replace CX : Hid (CL W7 la ys) := CX.out.kept hb
  replace CZ : Hid (CA W7 za sc) := CZ.out.kept hb
  replace CP : Hid (CA W7 pa ps) := CP.out.kept hb
  replace H0 : Hid (Below w.heap.size w W7) := below_up H0.out hb
  have CQ : Hid (CA W7 qa qs) := hca
  clear hb hca HQ
  go_wp2_with fail
  have hF0 := HF.out.1
  have hF1 := HF.out.2.1
  have hF2 := HF.out.2.2
  go_region_held (fun w' => w'.cell? ⟨w.heap.size, 0, none⟩ = some (.bool f0) ∧ w'.cell? ⟨w.heap.size, 1, none⟩ = some (.bool f1) ∧ w'.cell? ⟨w.heap.size, 2, none⟩ = some (.bool f2)) (go_keep)
    (first
      | (go_at_call_of 11 (Value.slice pa lp lp); refine (clone_sa pa ps lp lp _ ?_ m6).mono ?_; exact ca_sa CP.out.dr LP.out m6; rintro e W8 ⟨p1, rfl, hb8, hi8, hc8⟩; have h8 := below_dr hb8; have g0 := below_cell h8 hF0; have g1 := below_cell h8 hF1; have g2 := below_cell h8 hF2; have H8 : Hid (Below W7.heap.size W7 W8 ∧ (p1 = none ↔ pa = none) ∧ CA W8 p1 ps) := ⟨h8, hi8, hc8⟩; clear hb8 hi8 hc8 h8)
      | (go_at_call_of 11 (Value.slice qa lq lq); refine (clone_sa qa qs lq lq _ ?_ m7).mono ?_; exact ca_sa (CQ.out.kept H8.out.1) LQ.out m7; rintro e W9 ⟨q1, rfl, hb9, hi9, hc9⟩; have k0 := below_cell hb9 g0; have k1 := below_cell hb9 g1; have k2 := below_cell hb9 g2; have H9 : Hid (Below W8.heap.size W8 W9 ∧ (q1 = none ↔ qa = none) ∧ CA W9 q1 qs) := ⟨hb9, hi9, hc9⟩; clear hb9 hi9 hc9))
  go_wp2_with fail
  have h79 := below_up H8.out.1 H9.out.1
  replace CK : Hid (CA W9 ka ks) := CK.out.kept h79
  replace CN : Hid (CA W9 na ns) := CN.out.kept h79
  replace CX : Hid (CL W9 la ys) := CX.out.kept h79
  replace CZ : Hid (CA W9 za sc) := CZ.out.kept h79
  replace CP : Hid (CA W9 pa ps) := CP.out.kept h79
  replace CQ : Hid (CA W9 qa qs) := CQ.out.kept h79
  replace HF : Hid (FL W9 w.heap.size f0 f1 f2) := HF.out.kept h79
  replace H0 : Hid (Below w.heap.size w W9) := below_up H0.out h79
  have CP1 : Hid (CA W9 p1 ps) := H8.out.2.2.kept H9.out.1
  have CQ1 : Hid (CA W9 q1 qs) := H9.out.2.2
  have NP : Hid (p1 = none ↔ pa = none) := H8.out.2.1
  have NQ : Hid (q1 = none ↔ qa = none) := H9.out.2.1
  clear H8 H9 h79 hF0 hF1 hF2 g0 g1 g2 k0 k1 k2
  have LY : Hid (ls = ys.length) := LX.out.trans (map_len HMAP.out).symm
  have hT := tt_new W9 tn (.slice p1 lp lp) sf (.slice q1 lq lq) f0 f1 f2 ch co 35
  have hA : Below W9.heap.size W9 (W9.alloc (.cells #[.string tn, .slice p1 lp lp, .string sf, .slice q1 lq lq, .bool f0, .bool f1, .bool f2, .string ch, .string co] 35)) := (Below.refl _ _).alloc (Nat.le_refl _) _
  generalize (W9.alloc (.cells #[.string tn, .slice p1 lp lp, .string sf, .slice q1 lq lq, .bool f0, .bool f1, .bool f2, .string ch, .string co] 35)) = W10 at hT hA ⊢
  refine (zzspell_any W9.heap.size ls ka na la za p1 ks ns sc ps ys lp kw tn sf ch co (.slice q1 lq lq) f0 f1 f2 W10 (CK.out.1.kept hA) (CN.out.1.kept hA) (CX.out.1.kept hA) (CZ.out.1.kept hA) LK.out LN.out LY.out LZ.out m5 HKM.out HKW.out hT (CP1.out.arg LP.out m6 hA) (CX.out.args HMAP.out HM4.out hA)).mono ?_
  rintro e W11 ⟨rfl, nm, as', sx, hent, hasl, hb, p2, pc, hTT, hSeg, hnil⟩
  have h911 : Below W9.heap.size W9 W11 := hA.trans hb
  have HTT : Hid (TT W11 W9.heap.size (wantN tn nm) (.slice p2 (wantP ps as' sx).length pc) sf (.slice q1 lq lq) f0 f1 f2 ch co) := hTT
  have HSP : Hid (Seg W11 p2 (wantP ps as' sx) ∧ (p2 = none ↔ p1 = none ∧ wantP ps as' sx = [])) := ⟨hSeg, hnil⟩
  have HENT : Hid (Ent ks ns ys sc kw nm as' sx ∧ as'.length ≤ 65536) := ⟨hent, hasl⟩
  replace CK : Hid (CA W11 ka ks) := CK.out.kept h911
  replace CN : Hid (CA W11 na ns) := CN.out.kept h911
  replace CX : Hid (CL W11 la ys) := CX.out.kept h911
  replace CZ : Hid (CA W11 za sc) := CZ.out.kept h911
  replace CP : Hid (CA W11 pa ps) := CP.out.kept h911
  replace CQ : Hid (CA W11 qa qs) := CQ.out.kept h911
  replace CQ1 : Hid (CA W11 q1 qs) := CQ1.out.kept h911
  replace HF : Hid (FL W11 w.heap.size f0 f1 f2) := HF.out.kept h911
  replace H0 : Hid (Below w.heap.size w W11) := below_up H0.out h911
  clear hent hasl hb hTT hSeg hnil h911 hA hT CP1
  go_wp2_with fail
  refine (last_any ka ks kw ls ls W11 CK.out.1 LK.out m5).mono ?_
  rintro e w' ⟨r, rfl, hw, hlast⟩
  obtain rfl := hw.symm
  clear hw
  have HR := ent_last HENT.out.1 hlast
  replace HENT : Hid (as'.length ≤ 65536) := HENT.out.2
  clear hlast
  have MAXP : Hid (ps.length ≤ 65536) := LP.out ▸ m6
  have MAXQ : Hid (qs.length ≤ 65536) := LQ.out ▸ m7
  replace HSP : Hid (Seg W11 p2 (wantP ps as' sx) ∧ (p2 = none ↔ pa = none ∧ wantP ps as' sx = [])) := ⟨HSP.out.1, HSP.out.2.trans (and_congr_left fun _ => NP.out)⟩
  clear NP m1 m2 m3 HM4 HKM HKW LX HMAP
  rcases HR with ⟨rfl, rfl, rfl, rfl⟩ | ⟨k, hk, rfl, rfl, rfl, rfl⟩
  · rw [wantN_empty] at HTT
    go_wp2_with fail
    · have h1 : (((lp : Nat) : Int) == 0) = true := by assumption
      have eP : wantP ps [] ByteArray.empty = [] := by rw [nil_of LP.out h1]; exact wantP_nil _ _
      rw [eP] at HTT HSP
      have HNIL : Hid (p2 = none ↔ pa = none ∧ ([] : List ByteArray) = []) := HSP.out.2
      refine final_any w.heap.size W9.heap.size lp lq 0 0 pc tn sf ch co qa none q1 pa p2 [] qs f0 f1 f2 _ _ _ _ _ _ _ _ _ _ _ _ _ _ _ _ _ _ _ _ _ _ _ _ _ _ _ _ _ _ _ _ _ _ _ _ _ _ _ _ _ _ _ _ _ _ _ _ _ _ _ _ _ _ _ _ _ _ _ _ _ _ _ _ _ _ _ _ _ _ _ _ _ _ _ _ _ _ _ _ _ _ _ _ _ _ _ _ _ _ _ _ _ _ _ _ _ _ _ _ _ _ _ _ _ _ _ _ _ _ _ _ _ _ _ _ _ _ _ _ _ _ _ _ _ _ _ _ _ _ _ _ _ _ _ _ _ _ _ _ _ _ _ _ _ _ _ _ _ _ _ _ _ _ _ _ _ _ _ _ _ _ _ _ _ _ _ _ _ _ _ _ _ _ _ _ _ _ _ _ _ _ _ _ _ _ _ _ _ _ _ _ _ _ _ _ _ _ _ _ _ _ _ _ _ _ _ _ _ _ _ _ _ _ _ _ _ _ _ _ _ _ _ _ _ _ _ _ _ _ ?_ HTT.out HF.out ⟨HSP.out.1, (fun k hk => absurd hk (by simp)), rfl, by simp⟩ ⟨CQ1.out.1, CQ.out.1, LQ.out, by have := MAXQ.out; omega⟩ NQ.out HNIL.out ?_
      · rfl
      · intro a n' h24 hd
        go_wp2
        exact done24 H0.out h24 hd
    all_goals
      have h1 : (((lp : Nat) : Int) == 0) = false := by assumption
      have eP : wantP ps [] ByteArray.empty = ps := wantP_rest (not_nil LP.out h1) (.inr empty_toList)
      rw [eP] at HTT HSP
      have HNIL : Hid (p2 = none ↔ pa = none ∧ ps = []) := HSP.out.2
      refine final_any w.heap.size W9.heap.size lp lq lp lp pc tn sf ch co qa pa q1 pa p2 ps qs f0 f1 f2 _ _ _ _ _ _ _ _ _ _ _ _ _ _ _ _ _ _ _ _ _ _ _ _ _ _ _ _ _ _ _ _ _ _ _ _ _ _ _ _ _ _ _ _ _ _ _ _ _ _ _ _ _ _ _ _ _ _ _ _ _ _ _ _ _ _ _ _ _ _ _ _ _ _ _ _ _ _ _ _ _ _ _ _ _ _ _ _ _ _ _ _ _ _ _ _ _ _ _ _ _ _ _ _ _ _ _ _ _ _ _ _ _ _ _ _ _ _ _ _ _ _ _ _ _ _ _ _ _ _ _ _ _ _ _ _ _ _ _ _ _ _ _ _ _ _ _ _ _ _ _ _ _ _ _ _ _ _ _ _ _ _ _ _ _ _ _ _ _ _ _ _ _ _ _ _ _ _ _ _ _ _ _ _ _ _ _ _ _ _ _ _ _ _ _ _ _ _ _ _ _ _ _ _ _ _ _ _ _ _ _ _ _ _ _ _ _ _ _ _ _ _ _ _ _ _ _ _ _ _ ?_ HTT.out HF.out ⟨HSP.out.1, CP.out.1, LP.out, by have := MAXP.out; omega⟩ ⟨CQ1.out.1, CQ.out.1, LQ.out, by have := MAXQ.out; omega⟩ NQ.out HNIL.out ?_
      · rfl
      · intro a n' h24 hd
        go_wp2
        exact done24 H0.out h24 hd
  · have hkn : k < ns.length := by have := LK.out; have := LN.out; omega
    have hky : k < ys.length := by have := LK.out; have := LY.out; omega
    have hkz : k < sc.length := by have := LK.out; have := LZ.out; omega
    obtain ⟨bn, on, rfl, c2⟩ := CN.out.1 k hkn
    obtain ⟨bx, ox, rfl, c3⟩ := CX.out.1.1 k hky
    obtain ⟨bz, oz, rfl, c4⟩ := CZ.out.1 k hkz
    have hxs := CX.out.1.2 _ (getD_mem' hky)
    have d2 := c2 k hkn
    have d3 := c3 k hky
    have d4 := c4 k hkz
    have hkl : k < ls := by have := LK.out; omega
    generalize ns.getD k ByteArray.empty = s2 at d2 HTT
    generalize ys.getD k none' = x3 at d3 HTT HSP HENT hxs
    generalize sc.getD k ByteArray.empty = s4 at d4 HTT HSP
    obtain ⟨xa, xss, xc⟩ := x3
    simp only [sl] at d3
    simp only at HTT HSP HENT
    have HXS : Hid (Seg W11 xa xss) := hxs.1
    clear c2 c3 c4 hkn hky hkz hxs hk
    by_cases hp1 : lp = 1
    · obtain ⟨bp, op, rfl, c5⟩ := CP.out.1 0 (by have := LP.out; omega)
      have d5 : W11.cell? ⟨bp, op, none⟩ = some (.string (ps.getD 0 ByteArray.empty)) := c5 0 (by have := LP.out; omega)
      have LP1 : Hid (ps.length = 1) := by have := LP.out; show ps.length = 1; omega
      have EP : Hid (ps = [ps.getD 0 ByteArray.empty]) := one_str LP1.out
      obtain ⟨s0, hs0⟩ : ∃ s0, s0 = ps.getD 0 ByteArray.empty := ⟨_, rfl⟩
      rw [← hs0] at d5
      replace EP : Hid (ps = [s0]) := by rw [hs0]; exact EP.out
      clear c5 hs0
      subst hp1
      go_wp2_with fail
      · have h2 : (!s2.toList.isEmpty) = true := by assumption
        have h4 : (!s4.toList.isEmpty) = true := by assumption
        have hA : Below W11.heap.size W11 (W11.alloc (.cells #[.string s0, .string s4] 9)) := (Below.refl _ _).alloc (Nat.le_refl _) _
        have eP : wantP ps xss s4 = [s0, s4] := by rw [wantP_scale LP1.out (not_empty h4), EP.out]; rfl
        rw [eP, name_set h2] at HTT
        rw [eP] at HSP
        have HNIL : Hid (p2 = none ↔ (some ⟨bp, op, none⟩ : Option Addr) = none ∧ [s0, s4] = []) := HSP.out.2
        have HT2 := HTT.out.below hA HTT.out.lt
        refine final_any w.heap.size W9.heap.size 1 lq 2 2 pc s2 sf ch co qa (some ⟨W11.heap.size, 0, none⟩) q1 (some ⟨bp, op, none⟩) p2 [s0, s4] qs f0 f1 f2 _ _ _ _ _ _ _ _ _ _ _ _ _ _ _ _ _ _ _ _ _ _ _ _ _ _ _ _ _ _ _ _ _ _ _ _ _ _ _ _ _ _ _ _ _ _ _ _ _ _ _ _ _ _ _ _ _ _ _ _ _ _ _ _ _ _ _ _ _ _ _ _ _ _ _ _ _ _ _ _ _ _ _ _ _ _ _ _ _ _ _ _ _ _ _ _ _ _ _ _ _ _ _ _ _ _ _ _ _ _ _ _ _ _ _ _ _ _ _ _ _ _ _ _ _ _ _ _ _ _ _ _ _ _ _ _ _ _ _ _ _ _ _ _ _ _ _ _ _ _ _ _ _ _ _ _ _ _ _ _ _ _ _ _ _ _ _ _ _ _ _ _ _ _ _ _ _ _ _ _ _ _ _ _ _ _ _ _ _ _ _ _ _ _ _ _ _ _ _ _ _ _ _ _ _ _ _ _ _ _ _ _ _ _ _ _ _ _ _ _ _ _ _ _ _ _ _ _ _ _ ?_ HT2 (HF.out.kept hA) ⟨(HSP.out.1.kept hA), seg_two, rfl, by simp⟩ ⟨(CQ1.out.1.kept hA), (CQ.out.1.kept hA), LQ.out, by have := MAXQ.out; omega⟩ NQ.out HNIL.out ?_
        · rfl
        · intro a n' h24 hd
          go_wp2
          exact done24 (below_up H0.out hA) h24 hd
      · have h2 : (!s2.toList.isEmpty) = true := by assumption
        have h4 : (!s4.toList.isEmpty) = false := by assumption
        have eP : wantP ps xss s4 = ps := wantP_rest (by rw [LP1.out]; decide) (.inr (is_empty h4))
        rw [eP, name_set h2] at HTT
        rw [eP] at HSP
        have HNIL : Hid (p2 = none ↔ (some ⟨bp, op, none⟩ : Option Addr) = none ∧ ps = []) := HSP.out.2
        refine final_any w.heap.size W9.heap.size 1 lq 1 1 pc s2 sf ch co qa (some ⟨bp, op, none⟩) q1 (some ⟨bp, op, none⟩) p2 ps qs f0 f1 f2 _ _ _ _ _ _ _ _ _ _ _ _ _ _ _ _ _ _ _ _ _ _ _ _ _ _ _ _ _ _ _ _ _ _ _ _ _ _ _ _ _ _ _ _ _ _ _ _ _ _ _ _ _ _ _ _ _ _ _ _ _ _ _ _ _ _ _ _ _ _ _ _ _ _ _ _ _ _ _ _ _ _ _ _ _ _ _ _ _ _ _ _ _ _ _ _ _ _ _ _ _ _ _ _ _ _ _ _ _ _ _ _ _ _ _ _ _ _ _ _ _ _ _ _ _ _ _ _ _ _ _ _ _ _ _ _ _ _ _ _ _ _ _ _ _ _ _ _ _ _ _ _ _ _ _ _ _ _ _ _ _ _ _ _ _ _ _ _ _ _ _ _ _ _ _ _ _ _ _ _ _ _ _ _ _ _ _ _ _ _ _ _ _ _ _ _ _ _ _ _ _ _ _ _ _ _ _ _ _ _ _ _ _ _ _ _ _ _ _ _ _ _ _ _ _ _ _ _ _ _ ?_ HTT.out HF.out ⟨HSP.out.1, CP.out.1, LP1.out.symm, by have := MAXP.out; omega⟩ ⟨CQ1.out.1, CQ.out.1, LQ.out, by have := MAXQ.out; omega⟩ NQ.out HNIL.out ?_
        · rfl
        · intro a n' h24 hd
          go_wp2
          exact done24 H0.out h24 hd
      · have h2 : (!s2.toList.isEmpty) = false := by assumption
        have h4 : (!s4.toList.isEmpty) = true := by assumption
        have hA : Below W11.heap.size W11 (W11.alloc (.cells #[.string s0, .string s4] 9)) := (Below.refl _ _).alloc (Nat.le_refl _) _
        have eP : wantP ps xss s4 = [s0, s4] := by rw [wantP_scale LP1.out (not_empty h4), EP.out]; rfl
        rw [eP, name_not h2] at HTT
        rw [eP] at HSP
        have HNIL : Hid (p2 = none ↔ (some ⟨bp, op, none⟩ : Option Addr) = none ∧ [s0, s4] = []) := HSP.out.2
        have HT2 := HTT.out.below hA HTT.out.lt
        refine final_any w.heap.size W9.heap.size 1 lq 2 2 pc tn sf ch co qa (some ⟨W11.heap.size, 0, none⟩) q1 (some ⟨bp, op, none⟩) p2 [s0, s4] qs f0 f1 f2 _ _ _ _ _ _ _ _ _ _ _ _ _ _ _ _ _ _ _ _ _ _ _ _ _ _ _ _ _ _ _ _ _ _ _ _ _ _ _ _ _ _ _ _ _ _ _ _ _ _ _ _ _ _ _ _ _ _ _ _ _ _ _ _ _ _ _ _ _ _ _ _ _ _ _ _ _ _ _ _ _ _ _ _ _ _ _ _ _ _ _ _ _ _ _ _ _ _ _ _ _ _ _ _ _ _ _ _ _ _ _ _ _ _ _ _ _ _ _ _ _ _ _ _ _ _ _ _ _ _ _ _ _ _ _ _ _ _ _ _ _ _ _ _ _ _ _ _ _ _ _ _ _ _ _ _ _ _ _ _ _ _ _ _ _ _ _ _ _ _ _ _ _ _ _ _ _ _ _ _ _ _ _ _ _ _ _ _ _ _ _ _ _ _ _ _ _ _ _ _ _ _ _ _ _ _ _ _ _ _ _ _ _ _ _ _ _ _ _ _ _ _ _ _ _ _ _ _ _ _ ?_ HT2 (HF.out.kept hA) ⟨(HSP.out.1.kept hA), seg_two, rfl, by simp⟩ ⟨(CQ1.out.1.kept hA), (CQ.out.1.kept hA), LQ.out, by have := MAXQ.out; omega⟩ NQ.out HNIL.out ?_
        · rfl
        · intro a n' h24 hd
          go_wp2
          exact done24 (below_up H0.out hA) h24 hd
      · have h2 : (!s2.toList.isEmpty) = false := by assumption
        have h4 : (!s4.toList.isEmpty) = false := by assumption
        have eP : wantP ps xss s4 = ps := wantP_rest (by rw [LP1.out]; decide) (.inr (is_empty h4))
        rw [eP, name_not h2] at HTT
        rw [eP] at HSP
        have HNIL : Hid (p2 = none ↔ (some ⟨bp, op, none⟩ : Option Addr) = none ∧ ps = []) := HSP.out.2
        refine final_any w.heap.size W9.heap.size 1 lq 1 1 pc tn sf ch co qa (some ⟨bp, op, none⟩) q1 (some ⟨bp, op, none⟩) p2 ps qs f0 f1 f2 _ _ _ _ _ _ _ _ _ _ _ _ _ _ _ _ _ _ _ _ _ _ _ _ _ _ _ _ _ _ _ _ _ _ _ _ _ _ _ _ _ _ _ _ _ _ _ _ _ _ _ _ _ _ _ _ _ _ _ _ _ _ _ _ _ _ _ _ _ _ _ _ _ _ _ _ _ _ _ _ _ _ _ _ _ _ _ _ _ _ _ _ _ _ _ _ _ _ _ _ _ _ _ _ _ _ _ _ _ _ _ _ _ _ _ _ _ _ _ _ _ _ _ _ _ _ _ _ _ _ _ _ _ _ _ _ _ _ _ _ _ _ _ _ _ _ _ _ _ _ _ _ _ _ _ _ _ _ _ _ _ _ _ _ _ _ _ _ _ _ _ _ _ _ _ _ _ _ _ _ _ _ _ _ _ _ _ _ _ _ _ _ _ _ _ _ _ _ _ _ _ _ _ _ _ _ _ _ _ _ _ _ _ _ _ _ _ _ _ _ _ _ _ _ _ _ _ _ _ _ ?_ HTT.out HF.out ⟨HSP.out.1, CP.out.1, LP1.out.symm, by have := MAXP.out; omega⟩ ⟨CQ1.out.1, CQ.out.1, LQ.out, by have := MAXQ.out; omega⟩ NQ.out HNIL.out ?_
        · rfl
        · intro a n' h24 hd
          go_wp2
          exact done24 H0.out h24 hd
    · go_wp2_with fail
      · have h2 : (!s2.toList.isEmpty) = true := by assumption
        have h1 : (((lp : Nat) : Int) == 0) = true := by assumption
        have eP : wantP ps xss s4 = xss := by rw [nil_of LP.out h1]; exact wantP_nil _ _
        rw [eP, name_set h2] at HTT
        rw [eP] at HSP
        have HNIL : Hid (p2 = none ↔ pa = none ∧ xss = []) := HSP.out.2
        refine final_any w.heap.size W9.heap.size lp lq xss.length xc pc s2 sf ch co qa xa q1 pa p2 xss qs f0 f1 f2 _ _ _ _ _ _ _ _ _ _ _ _ _ _ _ _ _ _ _ _ _ _ _ _ _ _ _ _ _ _ _ _ _ _ _ _ _ _ _ _ _ _ _ _ _ _ _ _ _ _ _ _ _ _ _ _ _ _ _ _ _ _ _ _ _ _ _ _ _ _ _ _ _ _ _ _ _ _ _ _ _ _ _ _ _ _ _ _ _ _ _ _ _ _ _ _ _ _ _ _ _ _ _ _ _ _ _ _ _ _ _ _ _ _ _ _ _ _ _ _ _ _ _ _ _ _ _ _ _ _ _ _ _ _ _ _ _ _ _ _ _ _ _ _ _ _ _ _ _ _ _ _ _ _ _ _ _ _ _ _ _ _ _ _ _ _ _ _ _ _ _ _ _ _ _ _ _ _ _ _ _ _ _ _ _ _ _ _ _ _ _ _ _ _ _ _ _ _ _ _ _ _ _ _ _ _ _ _ _ _ _ _ _ _ _ _ _ _ _ _ _ _ _ _ _ _ _ _ _ _ ?_ HTT.out HF.out ⟨HSP.out.1, HXS.out, rfl, by have := HENT.out; omega⟩ ⟨CQ1.out.1, CQ.out.1, LQ.out, by have := MAXQ.out; omega⟩ NQ.out HNIL.out ?_
        · rfl
        · intro a n' h24 hd
          go_wp2
          exact done24 H0.out h24 hd
      · have h2 : (!s2.toList.isEmpty) = true := by assumption
        have h1 : (((lp : Nat) : Int) == 0) = false := by assumption
        have eP : wantP ps xss s4 = ps := wantP_rest (not_nil LP.out h1) (.inl (by rw [← LP.out]; exact hp1))
        rw [eP, name_set h2] at HTT
        rw [eP] at HSP
        have HNIL : Hid (p2 = none ↔ pa = none ∧ ps = []) := HSP.out.2
        refine final_any w.heap.size W9.heap.size lp lq lp lp pc s2 sf ch co qa pa q1 pa p2 ps qs f0 f1 f2 _ _ _ _ _ _ _ _ _ _ _ _ _ _ _ _ _ _ _ _ _ _ _ _ _ _ _ _ _ _ _ _ _ _ _ _ _ _ _ _ _ _ _ _ _ _ _ _ _ _ _ _ _ _ _ _ _ _ _ _ _ _ _ _ _ _ _ _ _ _ _ _ _ _ _ _ _ _ _ _ _ _ _ _ _ _ _ _ _ _ _ _ _ _ _ _ _ _ _ _ _ _ _ _ _ _ _ _ _ _ _ _ _ _ _ _ _ _ _ _ _ _ _ _ _ _ _ _ _ _ _ _ _ _ _ _ _ _ _ _ _ _ _ _ _ _ _ _ _ _ _ _ _ _ _ _ _ _ _ _ _ _ _ _ _ _ _ _ _ _ _ _ _ _ _ _ _ _ _ _ _ _ _ _ _ _ _ _ _ _ _ _ _ _ _ _ _ _ _ _ _ _ _ _ _ _ _ _ _ _ _ _ _ _ _ _ _ _ _ _ _ _ _ _ _ _ _ _ _ _ ?_ HTT.out HF.out ⟨HSP.out.1, CP.out.1, LP.out, by have := MAXP.out; omega⟩ ⟨CQ1.out.1, CQ.out.1, LQ.out, by have := MAXQ.out; omega⟩ NQ.out HNIL.out ?_
        · rfl
        · intro a n' h24 hd
          go_wp2
          exact done24 H0.out h24 hd
      · have h2 : (!s2.toList.isEmpty) = false := by assumption
        have h1 : (((lp : Nat) : Int) == 0) = true := by assumption
        have eP : wantP ps xss s4 = xss := by rw [nil_of LP.out h1]; exact wantP_nil _ _
        rw [eP, name_not h2] at HTT
        rw [eP] at HSP
        have HNIL : Hid (p2 = none ↔ pa = none ∧ xss = []) := HSP.out.2
        refine final_any w.heap.size W9.heap.size lp lq xss.length xc pc tn sf ch co qa xa q1 pa p2 xss qs f0 f1 f2 _ _ _ _ _ _ _ _ _ _ _ _ _ _ _ _ _ _ _ _ _ _ _ _ _ _ _ _ _ _ _ _ _ _ _ _ _ _ _ _ _ _ _ _ _ _ _ _ _ _ _ _ _ _ _ _ _ _ _ _ _ _ _ _ _ _ _ _ _ _ _ _ _ _ _ _ _ _ _ _ _ _ _ _ _ _ _ _ _ _ _ _ _ _ _ _ _ _ _ _ _ _ _ _ _ _ _ _ _ _ _ _ _ _ _ _ _ _ _ _ _ _ _ _ _ _ _ _ _ _ _ _ _ _ _ _ _ _ _ _ _ _ _ _ _ _ _ _ _ _ _ _ _ _ _ _ _ _ _ _ _ _ _ _ _ _ _ _ _ _ _ _ _ _ _ _ _ _ _ _ _ _ _ _ _ _ _ _ _ _ _ _ _ _ _ _ _ _ _ _ _ _ _ _ _ _ _ _ _ _ _ _ _ _ _ _ _ _ _ _ _ _ _ _ _ _ _ _ _ _ ?_ HTT.out HF.out ⟨HSP.out.1, HXS.out, rfl, by have := HENT.out; omega⟩ ⟨CQ1.out.1, CQ.out.1, LQ.out, by have := MAXQ.out; omega⟩ NQ.out HNIL.out ?_
        · rfl
        · intro a n' h24 hd
          go_wp2
          exact done24 H0.out h24 hd
      · have h2 : (!s2.toList.isEmpty) = false := by assumption
        have h1 : (((lp : Nat) : Int) == 0) = false := by assumption
        have eP : wantP ps xss s4 = ps := wantP_rest (not_nil LP.out h1) (.inl (by rw [← LP.out]; exact hp1))
        rw [eP, name_not h2] at HTT
        rw [eP] at HSP
        have HNIL : Hid (p2 = none ↔ pa = none ∧ ps = []) := HSP.out.2
        refine final_any w.heap.size W9.heap.size lp lq lp lp pc tn sf ch co qa pa q1 pa p2 ps qs f0 f1 f2 _ _ _ _ _ _ _ _ _ _ _ _ _ _ _ _ _ _ _ _ _ _ _ _ _ _ _ _ _ _ _ _ _ _ _ _ _ _ _ _ _ _ _ _ _ _ _ _ _ _ _ _ _ _ _ _ _ _ _ _ _ _ _ _ _ _ _ _ _ _ _ _ _ _ _ _ _ _ _ _ _ _ _ _ _ _ _ _ _ _ _ _ _ _ _ _ _ _ _ _ _ _ _ _ _ _ _ _ _ _ _ _ _ _ _ _ _ _ _ _ _ _ _ _ _ _ _ _ _ _ _ _ _ _ _ _ _ _ _ _ _ _ _ _ _ _ _ _ _ _ _ _ _ _ _ _ _ _ _ _ _ _ _ _ _ _ _ _ _ _ _ _ _ _ _ _ _ _ _ _ _ _ _ _ _ _ _ _ _ _ _ _ _ _ _ _ _ _ _ _ _ _ _ _ _ _ _ _ _ _ _ _ _ _ _ _ _ _ _ _ _ _ _ _ _ _ _ _ _ _ ?_ HTT.out HF.out ⟨HSP.out.1, CP.out.1, LP.out, by have := MAXP.out; omega⟩ ⟨CQ1.out.1, CQ.out.1, LQ.out, by have := MAXQ.out; omega⟩ NQ.out HNIL.out ?_
        · rfl
        · intro a n' h24 hd
          go_wp2
          exact done24 H0.out h24 hd
end Go.Proofs.Qxb6604272a.Sp
