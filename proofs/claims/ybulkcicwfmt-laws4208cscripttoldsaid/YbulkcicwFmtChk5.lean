import Derived.Test.YbulkcicwFmtScan
namespace Go.Proofs.YbulkcicwFmt
open Go.RowKit Go.Extern.Stop Go.Stop Go.Extern
set_option linter.unusedVariables false
attribute [local go_sem ↓] look_held len_held

/-- A slice of strings that can be read. -/
def Rs (w : World) (a : Option Addr) (n : Nat) (f : Nat → ByteArray) : Prop := ∀ i, i < n → ∃ g, a = some ⟨g, 0, none⟩ ∧ w.cell? ⟨g, i, none⟩ = some (.string (f i))

set_option maxHeartbeats 1600000 in
set_option maxRecDepth 1000000 in
theorem chk5 (c0 c1 c2 c3 c6 c7 c8 c9 c10 c11 c12 c13 c14 c15 c16 c17 c18 c19 c20 c21 c22 c23 c29 c30 c31 c32 c33 c34 c35 c36 c37 c38 c39 c40 c41 c42 c43 c44 c45 c46 c47 c48 c49 c50 c51 c52 c53 c54 c55 c56 c57 c58 c59 c60 c61 c62 c63 c64 c65 c66 c67 c68 c69 c70 c71 c72 c73 c74 c75 c76 c77 c78 c79 c80 c81 c82 c83 c84 c85 c86 c87 c88 c89 c90 c91 c92 c93 c94 c95 c96 c97 c98 c99 c100 c101 c102 c103 c104 c105 c106 c107 c108 c109 c110 c111 c112 c113 c114 c115 c116 c117 c118 c119 c120 c121 c122 c123 c124 c125 c126 c127 c128 c129 c130 c131 c132 c133 c134 c135 c136 c137 c138 c139 c140 c141 c142 c143 c144 c145 c146 c147 c148 c149 c150 c151 c152 c153 c154 c155 c156 c157 c158 c159 c160 c161 c162 c163 c164 c165 c166 c167 c168 c169 c170 c171 c172 c173 c174 c175 c176 c177 c178 c179 c180 c181 c182 c183 c184 c185 c186 c187 c188 c189 c190 c191 c192 c193 c194 c195 c196 c197 c198 c199 c200 c201 c202 c203 c204 c205 c206 c207 c208 c209 : Value) (a4 a5 : Option Addr) (n cc4 cc5 : Nat) (t s : ByteArray) (b : Bool) (ps : Pairs) (wr : World)
    (hn : ps.length = n) (hN : n ≤ 1024) (h4 : Rs wr a4 n fun i => (ps.getD i noPair).1) (h5 : Rs wr a5 n fun i => (ps.getD i noPair).2) (hs : (sc (swp ps) t n).getD ⟨#[]⟩ = s) (hb : (sc (swp ps) t n).isSome = b)
    (Q : Exit → Act → World → Prop) (hQ : ∀ (d27 d28 d29 d185 d186 d187 d188 d189 d190 d191 d192 d193 d194 d195 d196 d197 d198 d199 d200 d201 d202 d203 d204 d205 d206 d207 d208 : Value), Q .normal ⟨#[c0, c1, c2, c3, .slice a4 n cc4, .slice a5 n cc5, c6, c7, c8, c9, c10, c11, c12, c13, c14, c15, c16, c17, c18, c19, c20, c21, c22, c23, .string t, .string s, .bool b, d27, d28, d29, c30, c31, c32, c33, c34, c35, c36, c37, c38, c39, c40, c41, c42, c43, c44, c45, c46, c47, c48, c49, c50, c51, c52, c53, c54, c55, c56, c57, c58, c59, c60, c61, c62, c63, c64, c65, c66, c67, c68, c69, c70, c71, c72, c73, c74, c75, c76, c77, c78, c79, c80, c81, c82, c83, c84, c85, c86, c87, c88, c89, c90, c91, c92, c93, c94, c95, c96, c97, c98, c99, c100, c101, c102, c103, c104, c105, c106, c107, c108, c109, c110, c111, c112, c113, c114, c115, c116, c117, c118, c119, c120, c121, c122, c123, c124, c125, c126, c127, c128, c129, c130, c131, c132, c133, c134, c135, c136, c137, c138, c139, c140, c141, c142, c143, c144, c145, c146, c147, c148, c149, c150, c151, c152, c153, c154, c155, c156, c157, c158, c159, c160, c161, c162, c163, c164, c165, c166, c167, c168, c169, c170, c171, c172, c173, c174, c175, c176, c177, c178, c179, c180, c181, c182, c183, c184, d185, d186, d187, d188, d189, d190, d191, d192, d193, d194, d195, d196, d197, d198, d199, d200, d201, d202, d203, d204, d205, d206, d207, d208, c209], []⟩ wr) :
    Code.wp Ybaf.prog (tailAt 49 ((blockAt 5 (Ybaf.f3.body.getD .skip)).getD .skip)) Q ⟨#[c0, c1, c2, c3, .slice a4 n cc4, .slice a5 n cc5, c6, c7, c8, c9, c10, c11, c12, c13, c14, c15, c16, c17, c18, c19, c20, c21, c22, c23, .string t, .string s, .bool b, .string ⟨#[]⟩, .bool false, c29, c30, c31, c32, c33, c34, c35, c36, c37, c38, c39, c40, c41, c42, c43, c44, c45, c46, c47, c48, c49, c50, c51, c52, c53, c54, c55, c56, c57, c58, c59, c60, c61, c62, c63, c64, c65, c66, c67, c68, c69, c70, c71, c72, c73, c74, c75, c76, c77, c78, c79, c80, c81, c82, c83, c84, c85, c86, c87, c88, c89, c90, c91, c92, c93, c94, c95, c96, c97, c98, c99, c100, c101, c102, c103, c104, c105, c106, c107, c108, c109, c110, c111, c112, c113, c114, c115, c116, c117, c118, c119, c120, c121, c122, c123, c124, c125, c126, c127, c128, c129, c130, c131, c132, c133, c134, c135, c136, c137, c138, c139, c140, c141, c142, c143, c144, c145, c146, c147, c148, c149, c150, c151, c152, c153, c154, c155, c156, c157, c158, c159, c160, c161, c162, c163, c164, c165, c166, c167, c168, c169, c170, c171, c172, c173, c174, c175, c176, c177, c178, c179, c180, c181, c182, c183, c184, c185, c186, c187, c188, c189, c190, c191, c192, c193, c194, c195, c196, c197, c198, c199, c200, c201, c202, c203, c204, c205, c206, c207, c208, c209], []⟩ wr := by
  conv => arg 2; whnf
  go_wp2_with fail
  rename_i K0 hK0
  have HK0 := hide hK0
  clear hK0
  go_loopg [27, 28, 187] n (fun g v27 v28 v187 wx => ∃ i : Nat, i ≤ n ∧ g = n - i ∧ v187 = .int .i64 i ∧ v27 = .string ((sc (swp ps) t i).getD ⟨#[]⟩) ∧ v28 = .bool (sc (swp ps) t i).isSome ∧ wx = wr)
  case atStart => go_light; exact ⟨0, by omega, rfl, rfl, rfl, rfl, rfl⟩
  case round =>
    rename World => w2
    rename_i J2 K2 hJ2 hK2
    obtain ⟨i, hi, rfl, rfl, rfl, rfl, rfl⟩ := hrel
    by_cases hlt : i < n
    · have hlt' : (i : Int) < (n : Int) := by omega
      obtain ⟨g4, rfl, e4⟩ := h4 i hlt
      obtain ⟨g5, rfl, e5⟩ := h5 i hlt
      have hsc : sc (swp ps) t (i + 1) = if ((ps.getD i noPair).2.toList == t.toList) then some (ps.getD i noPair).1 else sc (swp ps) t i := by
        rw [sc, swp_at]
      obtain ⟨p, hp⟩ : ∃ p, ps.getD i noPair = p := ⟨_, rfl⟩
      obtain ⟨x, y⟩ := p
      rw [hp] at hsc
      simp only [hp] at e4 e5 hsc
      obtain ⟨s0, hs0⟩ : ∃ s0, (sc (swp ps) t i).getD ⟨#[]⟩ = s0 := ⟨_, rfl⟩
      obtain ⟨b0, hb0⟩ : ∃ b0, (sc (swp ps) t i).isSome = b0 := ⟨_, rfl⟩
      rw [hs0, hb0]
      have HS := hide hs
      have HB := hide hb
      have H4 := hide h4
      have H5 := hide h5
      cases hxy : (y.toList == t.toList) with
      | true =>
        have n1 : x = (sc (swp ps) t (i + 1)).getD ⟨#[]⟩ := by rw [hsc, hxy]; rfl
        have n2 : true = (sc (swp ps) t (i + 1)).isSome := by rw [hsc, hxy]; rfl
        have N1 := hide n1
        have N2 := hide n2
        clear hsc hp hs0 hb0 n1 n2 hs hb h4 h5
        go_wp2
        go_roundg (n - (i + 1))
        case measure => go_light; omega
        case rel => go_light; exact ⟨i + 1, by omega, rfl, by go_num, by rw [← N1.out], by rw [← N2.out], rfl⟩
      | false =>
        have n1 : s0 = (sc (swp ps) t (i + 1)).getD ⟨#[]⟩ := by rw [hsc, hxy, ← hs0]; rfl
        have n2 : b0 = (sc (swp ps) t (i + 1)).isSome := by rw [hsc, hxy, ← hb0]; rfl
        have N1 := hide n1
        have N2 := hide n2
        clear hsc hp hs0 hb0 n1 n2 hs hb h4 h5
        go_wp2
        go_roundg (n - (i + 1))
        case measure => go_light; omega
        case rel => go_light; exact ⟨i + 1, by omega, rfl, by go_num, by rw [← N1.out], by rw [← N2.out], rfl⟩
    · clear hJ2 hK2
      obtain rfl : i = n := by omega
      rw [hs, hb]
      have hbb : (b != b) = false := by simp
      have hK0 := HK0.out
      clear HK0 hs hb h4 h5 hlt
      go_wp2
      exact hQ _ _ _ _ _ _ _ _ _ _ _ _ _ _ _ _ _ _ _ _ _ _ _ _ _ _ _

end Go.Proofs.YbulkcicwFmt
