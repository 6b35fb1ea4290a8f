import Derived.Test.YbulkcicwFmtTail20
namespace Go.Proofs.YbulkcicwFmt
open Go.RowKit Go.Extern.Stop Go.Stop Go.Extern
set_option linter.unusedVariables false
attribute [local go_sem ↓] look_held len_held

set_option maxHeartbeats 1600000 in
set_option maxRecDepth 1000000 in
theorem tail12 (c0 c1 c2 c6 c14 c15 c16 c17 c18 c19 c20 c21 c22 c23 c24 c25 c26 c27 c28 c29 c30 c31 c32 c33 c34 c35 c36 c37 c38 c39 c40 c41 c42 c43 c44 c45 c46 c47 c48 c49 c50 c51 c52 c53 c54 c55 c56 c57 c58 c59 c60 c61 c62 c63 c64 c65 c66 c67 c68 c69 c70 c71 c72 c73 c74 c75 c76 c77 c78 c79 c80 c81 c82 c83 c84 c85 c86 c87 c88 c89 c90 c91 c92 c93 c94 c95 c96 c97 c98 c99 c100 c101 c102 c103 c104 c105 c106 c107 c108 c109 c110 c111 c112 c113 c114 c115 c116 c117 c118 c119 c120 c121 c122 c123 c124 c125 c126 c127 c128 c129 c130 c131 c132 c133 c134 c135 c136 c137 c138 c139 c140 c141 c142 c143 c144 c145 c146 c147 c148 c149 c150 c151 c152 c153 c154 c155 c156 c157 c158 c159 c160 c161 c162 c163 c164 c165 c166 c167 c168 c169 c170 c171 c172 c173 c174 c175 c176 c177 c178 c179 c180 c181 c182 c183 c184 c185 c186 c187 c188 c189 c190 c191 c192 c193 c194 c195 c196 c197 c198 c199 c200 c201 c202 c203 c204 c205 c206 c207 c208 c209 : Value) (F : Interp) (a4 a5 : Option Addr) (n cc4 cc5 : Nat) (S r m1 m2 base : Nat) (name text : ByteArray) (line : Int) (ps : Pairs) (w wr : World)
    (hF : F.answers wr.tape) (hn : ps.length = n) (hN : n + 1 ≤ 1024) (hO : One ps) (hS : St w wr r m1 m2 base ps (swp ps) (.slice a4 n cc4) (.slice a5 n cc5) (ps.map (·.1)) (ps.map (·.2)))
    (hline : wr.cell? ⟨S, 2, none⟩ = some (.int .i64 line))
    (Q : Exit → Act → World → Prop) (hQ : ∀ (d2 d10 d11 d12 d13 d14 d15 d16 d17 d18 d19 d20 d21 d22 d23 d24 d25 d26 d27 d28 d29 d50 d51 d52 d53 d54 d55 d56 d57 d58 d59 d60 d61 d62 d63 d64 d65 d66 d67 d68 d69 d70 d71 d72 d73 d74 d75 d76 d77 d78 d79 d80 d81 d82 d83 d84 d85 d86 d87 d88 d89 d90 d91 d92 d93 d94 d95 d96 d97 d98 d99 d100 d101 d102 d103 d104 d105 d106 d107 d108 d109 d110 d111 d112 d113 d114 d115 d116 d117 d118 d119 d120 d121 d122 d123 d124 d125 d126 d127 d128 d129 d130 d131 d132 d133 d134 d135 d136 d137 d138 d139 d140 d141 d142 d143 d144 d145 d146 d147 d148 d149 d150 d151 d152 d153 d154 d155 d156 d157 d158 d159 d160 d161 d162 d163 d164 d165 d166 d167 d168 d169 d170 d171 d172 d173 d174 d175 d176 d177 d178 d179 d180 d181 d182 d183 d184 d185 d186 d187 d188 d189 d190 d191 d192 d193 d194 d195 d196 d197 d198 d199 d200 d201 d202 d203 d204 d205 d206 d207 d208 : Value) (b4 b5 : Option Addr) (k kc4 kc5 : Nat) (qs : Pairs) (w' : World), k ≤ n + 1 → qs.length = k → One qs → St w w' r m1 m2 base qs (swp qs) (.slice b4 k kc4) (.slice b5 k kc5) (qs.map (·.1)) (qs.map (·.2)) → Q .normal ⟨#[c0, c1, d2, .pointer (some ⟨r, 0, none⟩), .slice b4 k kc4, .slice b5 k kc5, c6, .pointer (some ⟨S, 0, none⟩), .string name, .string text, d10, d11, d12, d13, d14, d15, d16, d17, d18, d19, d20, d21, d22, d23, d24, d25, d26, d27, d28, d29, c30, c31, c32, c33, c34, c35, c36, c37, c38, c39, c40, c41, c42, c43, c44, c45, c46, c47, c48, c49, d50, d51, d52, d53, d54, d55, d56, d57, d58, d59, d60, d61, d62, d63, d64, d65, d66, d67, d68, d69, d70, d71, d72, d73, d74, d75, d76, d77, d78, d79, d80, d81, d82, d83, d84, d85, d86, d87, d88, d89, d90, d91, d92, d93, d94, d95, d96, d97, d98, d99, d100, d101, d102, d103, d104, d105, d106, d107, d108, d109, d110, d111, d112, d113, d114, d115, d116, d117, d118, d119, d120, d121, d122, d123, d124, d125, d126, d127, d128, d129, d130, d131, d132, d133, d134, d135, d136, d137, d138, d139, d140, d141, d142, d143, d144, d145, d146, d147, d148, d149, d150, d151, d152, d153, d154, d155, d156, d157, d158, d159, d160, d161, d162, d163, d164, d165, d166, d167, d168, d169, d170, d171, d172, d173, d174, d175, d176, d177, d178, d179, d180, d181, d182, d183, d184, d185, d186, d187, d188, d189, d190, d191, d192, d193, d194, d195, d196, d197, d198, d199, d200, d201, d202, d203, d204, d205, d206, d207, d208, c209], []⟩ w') :
    Code.wp Ybaf.prog (tailAt 12 ((blockAt 1 (Ybaf.f3.body.getD .skip)).getD .skip)) Q ⟨#[c0, c1, c2, .pointer (some ⟨r, 0, none⟩), .slice a4 n cc4, .slice a5 n cc5, c6, .pointer (some ⟨S, 0, none⟩), .string name, .string text, .string ⟨#[]⟩, .bool false, .string ⟨#[]⟩, .bool false, c14, c15, c16, c17, c18, c19, c20, c21, c22, c23, c24, c25, c26, c27, c28, c29, c30, c31, c32, c33, c34, c35, c36, c37, c38, c39, c40, c41, c42, c43, c44, c45, c46, c47, c48, c49, c50, c51, c52, c53, c54, c55, c56, c57, c58, c59, c60, c61, c62, c63, c64, c65, c66, c67, c68, c69, c70, c71, c72, c73, c74, c75, c76, c77, c78, c79, c80, c81, c82, c83, c84, c85, c86, c87, c88, c89, c90, c91, c92, c93, c94, c95, c96, c97, c98, c99, c100, c101, c102, c103, c104, c105, c106, c107, c108, c109, c110, c111, c112, c113, c114, c115, c116, c117, c118, c119, c120, c121, c122, c123, c124, c125, c126, c127, c128, c129, c130, c131, c132, c133, c134, c135, c136, c137, c138, c139, c140, c141, c142, c143, c144, c145, c146, c147, c148, c149, c150, c151, c152, c153, c154, c155, c156, c157, c158, c159, c160, c161, c162, c163, c164, c165, c166, c167, c168, c169, c170, c171, c172, c173, c174, c175, c176, c177, c178, c179, c180, c181, c182, c183, c184, c185, c186, c187, c188, c189, c190, c191, c192, c193, c194, c195, c196, c197, c198, c199, c200, c201, c202, c203, c204, c205, c206, c207, c208, c209], []⟩ wr := by
  conv => arg 2; whnf
  obtain ⟨h4, h5⟩ := hS.rows hn
  have HS := hide hS
  have HO := hide hO
  have HN := hide hn
  clear hS hO hn
  go_wp2_with fail
  rename_i K0 hK0
  have HK0 := hide hK0
  clear hK0
  go_loopg [10, 11, 12, 13, 52] n (fun g v10 v11 v12 v13 v52 wx => ∃ i : Nat, i ≤ n ∧ g = n - i ∧ v52 = .int .i64 i ∧ v10 = .string ((sc ps name i).getD ⟨#[]⟩) ∧ v11 = .bool (sc ps name i).isSome ∧ v12 = .string ((sc (swp ps) text i).getD ⟨#[]⟩) ∧ v13 = .bool (sc (swp ps) text i).isSome ∧ wx = wr)
  case atStart => go_light; exact ⟨0, by omega, rfl, rfl, rfl, rfl, rfl, rfl, rfl⟩
  case round =>
    rename World => w2
    rename_i J2 K2 hJ2 hK2
    obtain ⟨i, hi, rfl, rfl, rfl, rfl, rfl, rfl, rfl⟩ := hrel
    by_cases hlt : i < n
    · have hlt' : (i : Int) < (n : Int) := by omega
      obtain ⟨g4, rfl, e4⟩ := h4 i hlt
      obtain ⟨g5, rfl, e5⟩ := h5 i hlt
      have hsc1 : sc ps name (i + 1) = if ((ps.getD i noPair).1.toList == name.toList) then some (ps.getD i noPair).2 else sc ps name i := rfl
      have hsc2 : sc (swp ps) text (i + 1) = if ((ps.getD i noPair).2.toList == text.toList) then some (ps.getD i noPair).1 else sc (swp ps) text i := by
        rw [sc, swp_at]
      obtain ⟨p, hp⟩ : ∃ p, ps.getD i noPair = p := ⟨_, rfl⟩
      obtain ⟨x, y⟩ := p
      rw [hp] at hsc1 hsc2
      simp only [hp] at e4 e5 hsc1 hsc2
      obtain ⟨s1, hs1⟩ : ∃ s1, (sc ps name i).getD ⟨#[]⟩ = s1 := ⟨_, rfl⟩
      obtain ⟨b1, hb1⟩ : ∃ b1, (sc ps name i).isSome = b1 := ⟨_, rfl⟩
      obtain ⟨s2, hs2⟩ : ∃ s2, (sc (swp ps) text i).getD ⟨#[]⟩ = s2 := ⟨_, rfl⟩
      obtain ⟨b2, hb2⟩ : ∃ b2, (sc (swp ps) text i).isSome = b2 := ⟨_, rfl⟩
      rw [hs1, hb1, hs2, hb2]
      clear h4 h5 hline hF
      cases hx : (x.toList == name.toList) with
      | true =>
        cases hy : (y.toList == text.toList) with
        | true =>
          have n1 : y = (sc ps name (i + 1)).getD ⟨#[]⟩ := by rw [hsc1, hx]; rfl
          have n2 : true = (sc ps name (i + 1)).isSome := by rw [hsc1, hx]; rfl
          have n3 : x = (sc (swp ps) text (i + 1)).getD ⟨#[]⟩ := by rw [hsc2, hy]; rfl
          have n4 : true = (sc (swp ps) text (i + 1)).isSome := by rw [hsc2, hy]; rfl
          have N1 := hide n1
          have N2 := hide n2
          have N3 := hide n3
          have N4 := hide n4
          clear hsc1 hsc2 hp hs1 hb1 hs2 hb2 n1 n2 n3 n4
          go_wp2
          go_roundg (n - (i + 1))
          case measure => go_light; omega
          case rel => go_light; exact ⟨i + 1, by omega, rfl, by go_num, by rw [← N1.out], by rw [← N2.out], by rw [← N3.out], by rw [← N4.out], rfl⟩
        | false =>
          have n1 : y = (sc ps name (i + 1)).getD ⟨#[]⟩ := by rw [hsc1, hx]; rfl
          have n2 : true = (sc ps name (i + 1)).isSome := by rw [hsc1, hx]; rfl
          have n3 : s2 = (sc (swp ps) text (i + 1)).getD ⟨#[]⟩ := by rw [hsc2, hy, ← hs2]; rfl
          have n4 : b2 = (sc (swp ps) text (i + 1)).isSome := by rw [hsc2, hy, ← hb2]; rfl
          have N1 := hide n1
          have N2 := hide n2
          have N3 := hide n3
          have N4 := hide n4
          clear hsc1 hsc2 hp hs1 hb1 hs2 hb2 n1 n2 n3 n4
          go_wp2
          go_roundg (n - (i + 1))
          case measure => go_light; omega
          case rel => go_light; exact ⟨i + 1, by omega, rfl, by go_num, by rw [← N1.out], by rw [← N2.out], by rw [← N3.out], by rw [← N4.out], rfl⟩
      | false =>
        cases hy : (y.toList == text.toList) with
        | true =>
          have n1 : s1 = (sc ps name (i + 1)).getD ⟨#[]⟩ := by rw [hsc1, hx, ← hs1]; rfl
          have n2 : b1 = (sc ps name (i + 1)).isSome := by rw [hsc1, hx, ← hb1]; rfl
          have n3 : x = (sc (swp ps) text (i + 1)).getD ⟨#[]⟩ := by rw [hsc2, hy]; rfl
          have n4 : true = (sc (swp ps) text (i + 1)).isSome := by rw [hsc2, hy]; rfl
          have N1 := hide n1
          have N2 := hide n2
          have N3 := hide n3
          have N4 := hide n4
          clear hsc1 hsc2 hp hs1 hb1 hs2 hb2 n1 n2 n3 n4
          go_wp2
          go_roundg (n - (i + 1))
          case measure => go_light; omega
          case rel => go_light; exact ⟨i + 1, by omega, rfl, by go_num, by rw [← N1.out], by rw [← N2.out], by rw [← N3.out], by rw [← N4.out], rfl⟩
        | false =>
          have n1 : s1 = (sc ps name (i + 1)).getD ⟨#[]⟩ := by rw [hsc1, hx, ← hs1]; rfl
          have n2 : b1 = (sc ps name (i + 1)).isSome := by rw [hsc1, hx, ← hb1]; rfl
          have n3 : s2 = (sc (swp ps) text (i + 1)).getD ⟨#[]⟩ := by rw [hsc2, hy, ← hs2]; rfl
          have n4 : b2 = (sc (swp ps) text (i + 1)).isSome := by rw [hsc2, hy, ← hb2]; rfl
          have N1 := hide n1
          have N2 := hide n2
          have N3 := hide n3
          have N4 := hide n4
          clear hsc1 hsc2 hp hs1 hb1 hs2 hb2 n1 n2 n3 n4
          go_wp2
          go_roundg (n - (i + 1))
          case measure => go_light; omega
          case rel => go_light; exact ⟨i + 1, by omega, rfl, by go_num, by rw [← N1.out], by rw [← N2.out], by rw [← N3.out], by rw [← N4.out], rfl⟩
    · clear hJ2 hK2
      obtain rfl : i = n := by omega
      have q1 := sc_all HO.out name
      have q2 := sc_all HO.out.turn text
      rw [length_swp, HN.out] at q2
      rw [HN.out] at q1
      rw [q1, q2]
      clear q1 q2 h4 h5
      go_wp2
      refine HK0.out _ _ (tail20 _ _ _ _ _ _ _ _ _ _ _ _ _ _ _ _ _ _ _ _ _ _ _ _ _ _ _ _ _ _ _ _ _ _ _ _ _ _ _ _ _ _ _ _ _ _ _ _ _ _ _ _ _ _ _ _ _ _ _ _ _ _ _ _ _ _ _ _ _ _ _ _ _ _ _ _ _ _ _ _ _ _ _ _ _ _ _ _ _ _ _ _ _ _ _ _ _ _ _ _ _ _ _ _ _ _ _ _ _ _ _ _ _ _ _ _ _ _ _ _ _ _ _ _ _ _ _ _ _ _ _ _ _ _ _ _ _ _ _ _ _ _ _ _ _ _ _ _ _ _ _ _ _ _ _ _ _ _ _ _ _ _ _ _ _ _ _ _ _ _ _ _ _ _ _ _ _ _ _ _ _ _ _ _ _ _ _ _ _ _ _ _ _ _ _ _ _ _ _ _ F _ _ i _ _ S r m1 m2 base name text line _ _ ps w _ hF HN.out hN HO.out HS.out rfl rfl hline _ ?_)
      intro d2 d15 d16 d17 d18 d19 d20 d21 d22 d23 d24 d25 d26 d27 d28 d29 d76 d77 d78 d79 d80 d81 d82 d83 d84 d85 d86 d87 d88 d89 d90 d91 d92 d93 d94 d95 d96 d97 d98 d99 d100 d101 d102 d103 d104 d105 d106 d107 d108 d109 d110 d111 d112 d113 d114 d115 d116 d117 d118 d119 d120 d121 d122 d123 d124 d125 d126 d127 d128 d129 d130 d131 d132 d133 d134 d135 d136 d137 d138 d139 d140 d141 d142 d143 d144 d145 d146 d147 d148 d149 d150 d151 d152 d153 d154 d155 d156 d157 d158 d159 d160 d161 d162 d163 d164 d165 d166 d167 d168 d169 d170 d171 d172 d173 d174 d175 d176 d177 d178 d179 d180 d181 d182 d183 d184 d185 d186 d187 d188 d189 d190 d191 d192 d193 d194 d195 d196 d197 d198 d199 d200 d201 d202 d203 d204 d205 d206 d207 d208 b4 b5 k kc4 kc5 qs w' hk hq hOq hSq
      exact hQ _ _ _ _ _ _ _ _ _ _ _ _ _ _ _ _ _ _ _ _ _ _ _ _ _ _ _ _ _ _ _ _ _ _ _ _ _ _ _ _ _ _ _ _ _ _ _ _ _ _ _ _ _ _ _ _ _ _ _ _ _ _ _ _ _ _ _ _ _ _ _ _ _ _ _ _ _ _ _ _ _ _ _ _ _ _ _ _ _ _ _ _ _ _ _ _ _ _ _ _ _ _ _ _ _ _ _ _ _ _ _ _ _ _ _ _ _ _ _ _ _ _ _ _ _ _ _ _ _ _ _ _ _ _ _ _ _ _ _ _ _ _ _ _ _ _ _ _ _ _ _ _ _ _ _ _ _ _ _ _ _ _ _ _ _ _ _ _ _ _ _ _ _ _ _ _ _ _ _ _ _ _ _ _ _ qs _ hk hq hOq hSq

end Go.Proofs.YbulkcicwFmt
