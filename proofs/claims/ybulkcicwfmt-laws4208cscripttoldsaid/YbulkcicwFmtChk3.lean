import Derived.Test.YbulkcicwFmtChk4
namespace Go.Proofs.YbulkcicwFmt
open Go.RowKit Go.Extern.Stop Go.Stop Go.Extern
set_option linter.unusedVariables false
attribute [local go_sem ↓] look_held len_held

set_option maxHeartbeats 1600000 in
set_option maxRecDepth 1000000 in
theorem chk3 (c0 c1 c2 c6 c7 c8 c9 c10 c11 c12 c13 c14 c15 c16 c17 c18 c19 c20 c21 c22 c23 c24 c25 c26 c27 c28 c29 c30 c31 c32 c33 c34 c35 c36 c37 c38 c39 c40 c41 c42 c43 c44 c45 c46 c47 c48 c49 c50 c51 c52 c53 c54 c55 c56 c57 c58 c59 c60 c61 c62 c63 c64 c65 c66 c67 c68 c69 c70 c71 c72 c73 c74 c75 c76 c77 c78 c79 c80 c81 c82 c83 c84 c85 c86 c87 c88 c89 c90 c91 c92 c93 c94 c95 c96 c97 c98 c99 c100 c101 c102 c103 c104 c105 c106 c107 c108 c109 c110 c111 c112 c113 c114 c115 c116 c117 c118 c119 c120 c121 c122 c123 c124 c125 c126 c127 c128 c129 c130 c131 c132 c133 c134 c135 c136 c137 c138 c139 c140 c141 c142 c143 c144 c145 c146 c147 c148 c149 c150 c151 c152 c153 c154 c155 c156 c157 c158 c159 c160 c161 c162 c163 c164 c165 c166 c167 c168 c169 c170 c171 c172 c173 c174 c175 c176 c177 c178 c179 c180 c181 c182 c183 c184 c185 c186 c187 c188 c189 c190 c191 c192 c193 c194 c195 c196 c197 c198 c199 c200 c201 c202 c203 c204 c205 c206 c207 c208 c209 : Value) (a4 a5 : Option Addr) (n cc4 cc5 : Nat) (r m1 m2 : Nat) (ps : Pairs) (wr : World)
    (hn : ps.length = n) (hN : n ≤ 1024) (hO : One ps) (hR : Rdr wr r m1 m2 ps (swp ps)) (h4 : Rs wr a4 n fun i => (ps.getD i noPair).1) (h5 : Rs wr a5 n fun i => (ps.getD i noPair).2)
    (Q : Exit → Act → World → Prop) (hQ : ∀ (d2 d17 d18 d19 d20 d21 d22 d23 d24 d25 d26 d27 d28 d29 d117 d118 d119 d120 d121 d122 d123 d124 d125 d126 d127 d128 d129 d130 d131 d132 d133 d134 d135 d136 d137 d138 d139 d140 d141 d142 d143 d144 d145 d146 d147 d148 d149 d150 d151 d152 d153 d154 d155 d156 d157 d158 d159 d160 d161 d162 d163 d164 d165 d166 d167 d168 d169 d170 d171 d172 d173 d174 d175 d176 d177 d178 d179 d180 d181 d182 d183 d184 d185 d186 d187 d188 d189 d190 d191 d192 d193 d194 d195 d196 d197 d198 d199 d200 d201 d202 d203 d204 d205 d206 d207 d208 : Value), Q .normal ⟨#[c0, c1, d2, .pointer (some ⟨r, 0, none⟩), .slice a4 n cc4, .slice a5 n cc5, c6, c7, c8, c9, c10, c11, c12, c13, c14, c15, c16, d17, d18, d19, d20, d21, d22, d23, d24, d25, d26, d27, d28, d29, c30, c31, c32, c33, c34, c35, c36, c37, c38, c39, c40, c41, c42, c43, c44, c45, c46, c47, c48, c49, c50, c51, c52, c53, c54, c55, c56, c57, c58, c59, c60, c61, c62, c63, c64, c65, c66, c67, c68, c69, c70, c71, c72, c73, c74, c75, c76, c77, c78, c79, c80, c81, c82, c83, c84, c85, c86, c87, c88, c89, c90, c91, c92, c93, c94, c95, c96, c97, c98, c99, c100, c101, c102, c103, c104, c105, c106, c107, c108, c109, c110, c111, c112, c113, c114, c115, c116, d117, d118, d119, d120, d121, d122, d123, d124, d125, d126, d127, d128, d129, d130, d131, d132, d133, d134, d135, d136, d137, d138, d139, d140, d141, d142, d143, d144, d145, d146, d147, d148, d149, d150, d151, d152, d153, d154, d155, d156, d157, d158, d159, d160, d161, d162, d163, d164, d165, d166, d167, d168, d169, d170, d171, d172, d173, d174, d175, d176, d177, d178, d179, d180, d181, d182, d183, d184, d185, d186, d187, d188, d189, d190, d191, d192, d193, d194, d195, d196, d197, d198, d199, d200, d201, d202, d203, d204, d205, d206, d207, d208, c209], []⟩ wr) :
    Code.wp Ybaf.prog (tailAt 30 ((blockAt 1 (Ybaf.f3.body.getD .skip)).getD .skip)) Q ⟨#[c0, c1, c2, .pointer (some ⟨r, 0, none⟩), .slice a4 n cc4, .slice a5 n cc5, c6, c7, c8, c9, c10, c11, c12, c13, c14, c15, c16, c17, c18, c19, c20, c21, c22, c23, c24, c25, c26, c27, c28, c29, c30, c31, c32, c33, c34, c35, c36, c37, c38, c39, c40, c41, c42, c43, c44, c45, c46, c47, c48, c49, c50, c51, c52, c53, c54, c55, c56, c57, c58, c59, c60, c61, c62, c63, c64, c65, c66, c67, c68, c69, c70, c71, c72, c73, c74, c75, c76, c77, c78, c79, c80, c81, c82, c83, c84, c85, c86, c87, c88, c89, c90, c91, c92, c93, c94, c95, c96, c97, c98, c99, c100, c101, c102, c103, c104, c105, c106, c107, c108, c109, c110, c111, c112, c113, c114, c115, c116, c117, c118, c119, c120, c121, c122, c123, c124, c125, c126, c127, c128, c129, c130, c131, c132, c133, c134, c135, c136, c137, c138, c139, c140, c141, c142, c143, c144, c145, c146, c147, c148, c149, c150, c151, c152, c153, c154, c155, c156, c157, c158, c159, c160, c161, c162, c163, c164, c165, c166, c167, c168, c169, c170, c171, c172, c173, c174, c175, c176, c177, c178, c179, c180, c181, c182, c183, c184, c185, c186, c187, c188, c189, c190, c191, c192, c193, c194, c195, c196, c197, c198, c199, c200, c201, c202, c203, c204, c205, c206, c207, c208, c209], []⟩ wr := by
  conv => arg 2; whnf
  have e1 := hR.c1
  have e2 := hR.c2
  have l1 : ∀ ty, (lenHeld ty #[.map (some m1)]).run Ybaf.prog wr = .ok (.int .i64 (n : Int)) wr := fun ty => by rw [← hn]; exact run_len hR.b1 ty
  have l2 : ∀ ty, (lenHeld ty #[.map (some m2)]).run Ybaf.prog wr = .ok (.int .i64 (n : Int)) wr := fun ty => by
    have := run_len hR.b2 ty
    rw [length_swp, hn] at this
    exact this
  have hnn : ((n : Int) != (n : Int)) = false := by simp
  have H4 := hide h4
  have H5 := hide h5
  have HN := hide hn
  have HR := hide hR
  have HO := hide hO
  clear h4 h5 hn hR hO
  go_wp2_with fail
  clear l1 l2 hnn e1 e2
  go_loopg [17] 4 (fun g v17 wx => ∃ k : Nat, k ≤ 4 ∧ g = 4 - k ∧ v17 = .int .i64 k ∧ wx = wr)
  case atStart => go_light; exact ⟨0, by omega, rfl, rfl, rfl⟩
  case round =>
    rename World => w2
    rename_i J2 K2 hJ2 hK2
    obtain ⟨k, hk, rfl, rfl, rfl⟩ := hrel
    by_cases hlt : k < 4
    · have hlt' : (k : Int) < 4 := by omega
      have hq := sc_all HO.out (nm k)
      rw [HN.out] at hq
      obtain ⟨s2, hs2⟩ : ∃ s2, (sc ps (nm k) n).getD ⟨#[]⟩ = s2 := ⟨_, rfl⟩
      obtain ⟨b2, hb2⟩ : ∃ b2, (sc ps (nm k) n).isSome = b2 := ⟨_, rfl⟩
      have e1 := HR.out.c1
      have L1 : (lookHeld 47 (.map (some m1)) (.string (nm k)) true).run Ybaf.prog w2 = .ok (.tuple #[.string s2, .bool b2]) w2 := by
        rw [← hs2, ← hb2, hq]
        exact run_look HR.out.b1 (nm k) true
      have HS2 := hide hs2
      have HB2 := hide hb2
      clear hq hs2 hb2
      go_upto_region 37 with (go_at_call 6; refine (name6 _ _).mono ?_; rintro e w3 ⟨rfl, rfl⟩)
      rename_i K1 hK1
      have HK1 := hide hK1
      clear hK1 L1 e1
      go_wp2
      refine HK1.out _ _ (chk4 _ _ _ _ _ _ _ _ _ _ _ _ _ _ _ _ _ _ _ _ _ _ _ _ _ _ _ _ _ _ _ _ _ _ _ _ _ _ _ _ _ _ _ _ _ _ _ _ _ _ _ _ _ _ _ _ _ _ _ _ _ _ _ _ _ _ _ _ _ _ _ _ _ _ _ _ _ _ _ _ _ _ _ _ _ _ _ _ _ _ _ _ _ _ _ _ _ _ _ _ _ _ _ _ _ _ _ _ _ _ _ _ _ _ _ _ _ _ _ _ _ _ _ _ _ _ _ _ _ _ _ _ _ _ _ _ _ _ _ _ _ _ _ _ _ _ _ _ _ _ _ _ _ _ _ _ _ _ _ _ _ _ _ _ _ _ _ _ _ _ _ _ _ _ _ _ _ _ _ _ _ _ _ _ _ _ _ _ _ _ _ _ _ _ _ _ _ _ _ _ _ a4 a5 n cc4 cc5 r m1 m2 k (nm k) s2 b2 ps _ HN.out hN HO.out HR.out H4.out H5.out HS2.out HB2.out _ ?_)
      clear HK1
      intro d21 d22 d23 d24 d25 d26 d27 d28 d29 d150 d151 d152 d153 d154 d155 d156 d157 d158 d159 d160 d161 d162 d163 d164 d165 d166 d167 d168 d169 d170 d171 d172 d173 d174 d175 d176 d177 d178 d179 d180 d181 d182 d183 d184 d185 d186 d187 d188 d189 d190 d191 d192 d193 d194 d195 d196 d197 d198 d199 d200 d201 d202 d203 d204 d205 d206 d207 d208
      go_wp2
      go_roundg (4 - (k + 1))
      case measure => go_light; omega
      case rel => go_light; exact ⟨k + 1, by omega, rfl, by go_num, rfl⟩
    · clear hJ2 hK2
      obtain rfl : k = 4 := by omega
      go_wp2
      exact hQ _ _ _ _ _ _ _ _ _ _ _ _ _ _ _ _ _ _ _ _ _ _ _ _ _ _ _ _ _ _ _ _ _ _ _ _ _ _ _ _ _ _ _ _ _ _ _ _ _ _ _ _ _ _ _ _ _ _ _ _ _ _ _ _ _ _ _ _ _ _ _ _ _ _ _ _ _ _ _ _ _ _ _ _ _ _ _ _ _ _ _ _ _ _ _ _ _ _ _ _ _ _ _ _ _ _

end Go.Proofs.YbulkcicwFmt
