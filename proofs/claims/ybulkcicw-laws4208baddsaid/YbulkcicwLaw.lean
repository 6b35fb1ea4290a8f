import Derived.Test.YbulkcicwTail
namespace Go.Proofs.Ybulkcicw
open Go.RowKit
set_option linter.unusedVariables false

set_option maxHeartbeats 1600000 in
set_option maxRecDepth 1000000 in
theorem tail26 (c4 c5 c6 c7 c8 c11 c13 c17 c18 c19 c20 c21 c22 c23 c24 c25 c26 c27 c28 c29 c30 c31 c32 c33 c34 c35 c36 c37 c38 c39 c40 c41 c42 c43 c44 c45 c46 c47 c48 c49 c50 c51 c52 c53 c54 c55 c56 c57 c58 c59 c60 c61 c62 c63 c64 c65 c66 c67 c68 c69 c70 c71 c72 c73 c74 c75 c76 c77 c78 c79 c80 c81 c82 c83 c84 c85 c86 c87 c88 c89 c90 c91 c92 c93 c94 c95 c96 c97 c98 c99 c100 c101 c102 c103 c104 c105 c106 c107 c108 c109 c110 c111 c112 c113 c114 c115 c116 c117 c118 c119 c120 c121 c122 c123 c124 c125 c126 c127 c128 c129 c130 c131 c132 c133 c134 c135 c136 c137 c138 c139 c140 c141 c142 c143 c144 c145 c146 c147 c148 c149 c150 c151 c152 c153 c154 c155 c156 c157 c158 c159 c160 c161 c162 c163 c164 c165 c166 c167 c168 c169 c170 c171 c172 c173 c174 c175 c176 c177 c178 c179 c180 c181 c182 c183 c184 c185 c186 c187 c188 c189 c190 c191 c192 c193 c194 c195 c196 c197 c198 c199 c200 c201 c202 c203 c204 c205 c206 c207 c208 c209 c210 c211 c212 c213 c214 c215 c216 c217 c218 c219 c220 c221 c222 c223 c224 c225 c226 c227 c228 c229 c230 c231 c232 : Value) (Bb Lb tot : Nat) (bs : List Nat) (a0 a1 a3 : Option Addr) (len0 cap0 len1 cap1 len3 cap3 n S : Nat) (sz : List Nat) (round : Int) (z1 z3 : List Int) (w wr : World) (l1 : len1 ≤ maxLen) (l3 : len3 ≤ 4096) (h1 : Rd .i64 w a1 len1 z1) (h3 : Rd .u16 w a3 len3 z3) (b3 : ∀ i, 0 ≤ z3.getD i 0 ∧ z3.getD i 0 ≤ 65535) (HT : Hid (tot = pre sz n)) (hM : Marking w wr n S Bb Lb (Lb + 1) sz bs tot (initAt z1 len1) round) :
    Code.wp Yba.prog (tailAt 26 (Yba.f3.body.getD .skip)) (bodyPost Yba.prog Yba.f3 fun e w' => e = .returned (.bool true) ∧ Below w.heap.size w w') ⟨#[.slice a0 len0 cap0, .slice a1 len1 cap1, .int .i64 round, .slice a3 len3 cap3, c4, c5, c6, c7, c8, .int .i64 (n : Nat), .slice (some ⟨S, 0, none⟩) n n, c11, .slice (some ⟨Bb, 0, none⟩) (n + 1) (n + 1), c13, .int .i64 (tot : Nat), .slice (some ⟨Lb, 0, none⟩) tot tot, .slice (some ⟨Lb + 1, 0, none⟩) tot tot, c17, c18, c19, c20, c21, c22, c23, c24, c25, c26, c27, c28, c29, c30, c31, c32, c33, c34, c35, c36, c37, c38, c39, c40, c41, c42, c43, c44, c45, c46, c47, c48, c49, c50, c51, c52, c53, c54, c55, c56, c57, c58, c59, c60, c61, c62, c63, c64, c65, c66, c67, c68, c69, c70, c71, c72, c73, c74, c75, c76, c77, c78, c79, c80, c81, c82, c83, c84, c85, c86, c87, c88, c89, c90, c91, c92, c93, c94, c95, c96, c97, c98, c99, c100, c101, c102, c103, c104, c105, c106, c107, c108, c109, c110, c111, c112, c113, c114, c115, c116, c117, c118, c119, c120, c121, c122, c123, c124, c125, c126, c127, c128, c129, c130, c131, c132, c133, c134, c135, c136, c137, c138, c139, c140, c141, c142, c143, c144, c145, c146, c147, c148, c149, c150, c151, c152, c153, c154, c155, c156, c157, c158, c159, c160, c161, c162, c163, c164, c165, c166, c167, c168, c169, c170, c171, c172, c173, c174, c175, c176, c177, c178, c179, c180, c181, c182, c183, c184, c185, c186, c187, c188, c189, c190, c191, c192, c193, c194, c195, c196, c197, c198, c199, c200, c201, c202, c203, c204, c205, c206, c207, c208, c209, c210, c211, c212, c213, c214, c215, c216, c217, c218, c219, c220, c221, c222, c223, c224, c225, c226, c227, c228, c229, c230, c231, c232], []⟩ wr := by
  conv => arg 2; whnf
  have hn2 := hM.1.1.2.2.2.2.2.1
  have ht1 : tot ≤ 4 * n := by rw [HT.out]; exact pre_le sz hM.1.1.2.2.2.2.2.2 n
  have hR0 := run_start (by rw [← HT.out]; exact hM)
  rw [← HT.out] at hR0
  obtain ⟨ls0, mk0, hT0, hR0⟩ := hR0
  clear hM
  go_wp2_with fail
  rename_i K0 hK0
  have HK0 := hide hK0
  clear hK0
  obtain ⟨G, hG⟩ : ∃ G, wr.heap.size = G := ⟨_, rfl⟩
  rw [hG] at hR0 ⊢
  clear hG
  go_loopg [19, 20, 118] len3 (fun g v19 v20 v118 wx => ∃ j ls mk items, j ≤ len3 ∧ g = len3 - j ∧ v118 = .int .i64 (j : Nat) ∧ List.length items ≤ j ∧ Told tot (initAt z1 len1) round ls mk ∧ Mem w wx n S Bb Lb G (G + 1) tot sz bs round ls mk items items v19 v20)
  case atStart => go_light; exact ⟨0, ls0, mk0, [], by omega, rfl, rfl, by simp, hT0, hR0⟩
  case round =>
    rename World => w4
    rename_i J4 K4 hJ4 hK4
    clear hR0 hT0
    obtain ⟨j, ls, mk, items, hj, rfl, rfl, hit, hT, hR⟩ := hrel
    by_cases hlt3 : j < len3
    · rcases h3 with h3 | ⟨b, off, rfl, hb, hc⟩
      · omega
      have hcell : w4.cell? ⟨b, off + j, none⟩ = some (.int .u16 (z3.getD j 0)) := by rw [hR.based.1.1.cell (p := ⟨b, off + j, none⟩) hb]; exact hc j hlt3
      refine round4 _ _ _ _ _ _ _ _ _ _ _ _ _ _ _ _ _ _ _ _ _ _ _ _ _ _ _ _ _ _ _ _ _ _ _ _ _ _ _ _ _ _ _ _ _ _ _ _ _ _ _ _ _ _ _ _ _ _ _ _ _ _ _ _ _ _ _ _ _ _ _ _ _ _ _ _ _ _ _ _ _ _ _ _ _ _ _ _ _ _ _ _ _ _ _ _ _ _ _ _ _ _ _ _ _ _ _ _ _ _ _ _ _ _ _ _ _ _ _ _ _ _ _ _ _ _ _ _ _ _ _ _ _ _ _ _ _ _ _ _ _ _ _ _ _ _ _ _ _ _ _ _ _ _ _ _ _ _ _ _ _ _ _ _ _ _ _ _ _ _ _ _ _ _ _ _ _ _ _ _ _ _ _ _ _ _ _ _ _ _ _ _ _ _ _ _ _ _ _ _ _ _ _ _ _ _ _ _ _ _ _ _ _ _ _ _ _ _ _ _ a0 a1 len0 cap0 len1 cap1 len3 cap3 b off n S Bb Lb G tot j sz bs round (z3.getD j 0) (initAt z1 len1) ls mk items w w4 hlt3 l3 (b3 j).1 (b3 j).2 hcell HT hit hT hR _ _ ?_
      intro x22 x23 x24 x25 x26 x27 x119 x120 x121 x122 x123 x124 x125 x126 x127 x128 x129 x130 x131 x132 x133 x134 x135 x136 x137 x138 x139 x140 x141 x142 x143 x144 x145 x146 x147 x148 x149 x150 x151 x152 x153 x154 x155 x156 x157 x158 x159 x160 x161 x162 x163 x164 x165 x166 x167 x168 gv wv ls' mk' items' w' q1 q2 q3
      refine hK4 _ _ (Handed.intro (len3 - (j + 1)) (by omega) (hJ4 _ _ _ ?_))
      repeat apply Exists.intro
      exact ⟨⟨j + 1, ls', mk', items', by omega, rfl, by go_num, q1, q2, q3⟩, rfl⟩
    · clear hJ4 hK4
      have h1' : Rd .i64 w4 a1 len1 z1 := h1.below hR.based.1.1
      go_wp2
      exact HK0.out _ _ (tail45 _ _ _ _ _ _ _ _ _ _ _ _ _ _ _ _ _ _ _ _ _ _ _ _ _ _ _ _ _ _ _ _ _ _ _ _ _ _ _ _ _ _ _ _ _ _ _ _ _ _ _ _ _ _ _ _ _ _ _ _ _ _ _ _ _ _ _ _ _ _ _ _ _ _ _ _ _ _ _ _ _ _ _ _ _ _ _ _ _ _ _ _ _ _ _ _ _ _ _ _ _ _ _ _ _ _ _ _ _ _ _ _ _ _ _ _ _ _ _ _ _ _ _ _ _ _ _ _ _ _ _ _ _ _ _ _ _ _ _ _ _ _ _ _ _ _ _ _ _ _ _ _ _ _ _ _ _ _ _ _ _ _ _ _ _ _ _ _ _ _ _ _ _ _ _ _ _ _ _ _ _ _ _ _ _ _ _ _ _ _ _ _ _ _ _ _ _ _ _ _ _ _ _ _ _ _ _ _ _ _ _ _ _ _ _ _ _ _ _ _ _ _ _ _ _ _ _ _ a1 len1 cap1 n S Bb Lb G tot sz bs round z1 ls mk items w w4 l1 (by omega) (by omega) h1' hT hR)

set_option maxHeartbeats 1600000 in
set_option maxRecDepth 1000000 in
theorem tail18 (c4 c5 c6 c7 c8 c11 c13 c14 c15 c16 c17 c18 c19 c20 c21 c22 c23 c24 c25 c26 c27 c28 c29 c30 c31 c32 c33 c34 c35 c36 c37 c38 c39 c40 c41 c42 c43 c44 c45 c46 c47 c48 c49 c50 c51 c52 c53 c54 c55 c56 c57 c58 c59 c60 c61 c62 c63 c64 c65 c66 c67 c68 c69 c70 c71 c72 c73 c74 c75 c76 c77 c78 c79 c80 c81 c82 c83 c84 c85 c86 c87 c88 c89 c90 c91 c92 c93 c94 c95 c96 c97 c98 c99 c100 c101 c102 c103 c104 c105 c106 c107 c108 c109 c110 c111 c112 c113 c114 c115 c116 c117 c118 c119 c120 c121 c122 c123 c124 c125 c126 c127 c128 c129 c130 c131 c132 c133 c134 c135 c136 c137 c138 c139 c140 c141 c142 c143 c144 c145 c146 c147 c148 c149 c150 c151 c152 c153 c154 c155 c156 c157 c158 c159 c160 c161 c162 c163 c164 c165 c166 c167 c168 c169 c170 c171 c172 c173 c174 c175 c176 c177 c178 c179 c180 c181 c182 c183 c184 c185 c186 c187 c188 c189 c190 c191 c192 c193 c194 c195 c196 c197 c198 c199 c200 c201 c202 c203 c204 c205 c206 c207 c208 c209 c210 c211 c212 c213 c214 c215 c216 c217 c218 c219 c220 c221 c222 c223 c224 c225 c226 c227 c228 c229 c230 c231 c232 : Value) (Bb : Nat) (bs : List Nat) (a0 a1 a3 : Option Addr) (len0 cap0 len1 cap1 len3 cap3 n S : Nat) (sz : List Nat) (round : Int) (z1 z3 : List Int) (w wr : World) (l1 : len1 ≤ maxLen) (l3 : len3 ≤ 4096) (h1 : Rd .i64 w a1 len1 z1) (h3 : Rd .u16 w a3 len3 z3) (b3 : ∀ i, 0 ≤ z3.getD i 0 ∧ z3.getD i 0 ≤ 65535) (hbs : Based w wr n S Bb sz bs) :
    Code.wp Yba.prog (tailAt 18 (Yba.f3.body.getD .skip)) (bodyPost Yba.prog Yba.f3 fun e w' => e = .returned (.bool true) ∧ Below w.heap.size w w') ⟨#[.slice a0 len0 cap0, .slice a1 len1 cap1, .int .i64 round, .slice a3 len3 cap3, c4, c5, c6, c7, c8, .int .i64 (n : Nat), .slice (some ⟨S, 0, none⟩) n n, c11, .slice (some ⟨Bb, 0, none⟩) (n + 1) (n + 1), c13, c14, c15, c16, c17, c18, c19, c20, c21, c22, c23, c24, c25, c26, c27, c28, c29, c30, c31, c32, c33, c34, c35, c36, c37, c38, c39, c40, c41, c42, c43, c44, c45, c46, c47, c48, c49, c50, c51, c52, c53, c54, c55, c56, c57, c58, c59, c60, c61, c62, c63, c64, c65, c66, c67, c68, c69, c70, c71, c72, c73, c74, c75, c76, c77, c78, c79, c80, c81, c82, c83, c84, c85, c86, c87, c88, c89, c90, c91, c92, c93, c94, c95, c96, c97, c98, c99, c100, c101, c102, c103, c104, c105, c106, c107, c108, c109, c110, c111, c112, c113, c114, c115, c116, c117, c118, c119, c120, c121, c122, c123, c124, c125, c126, c127, c128, c129, c130, c131, c132, c133, c134, c135, c136, c137, c138, c139, c140, c141, c142, c143, c144, c145, c146, c147, c148, c149, c150, c151, c152, c153, c154, c155, c156, c157, c158, c159, c160, c161, c162, c163, c164, c165, c166, c167, c168, c169, c170, c171, c172, c173, c174, c175, c176, c177, c178, c179, c180, c181, c182, c183, c184, c185, c186, c187, c188, c189, c190, c191, c192, c193, c194, c195, c196, c197, c198, c199, c200, c201, c202, c203, c204, c205, c206, c207, c208, c209, c210, c211, c212, c213, c214, c215, c216, c217, c218, c219, c220, c221, c222, c223, c224, c225, c226, c227, c228, c229, c230, c231, c232], []⟩ wr := by
  conv => arg 2; whnf
  have hn2 := hbs.1.2.2.2.2.2.1
  have ht1 := pre_le sz hbs.1.2.2.2.2.2.2 n
  obtain ⟨tot, htot⟩ : ∃ tot, tot = pre sz n := ⟨_, rfl⟩
  have e1 := NB.cell hbs.2.2.1 n (by have := hbs.2.2.2.1; omega)
  rw [hbs.2.2.2.2 n (Nat.le_refl _), ← htot] at e1
  have hmk := run_make_row' (P := Yba.prog) 23 3 (.int .i64 0) 8 Yba.underlying23 Yba.info3 rfl .i64 .i64 tot (by omega) (by omega)
  have hmk2 := run_make_row' (P := Yba.prog) 25 4 (.bool false) 1 Yba.underlying25 Yba.info4 rfl .i64 .i64 tot (by omega) (by omega)
  have HT : Hid (tot = pre sz n) := htot
  rw [← htot] at ht1
  clear htot
  go_wp2_with fail
  rename_i K0 hK0
  have HK0 := hide hK0
  clear hK0
  clear hmk hmk2 e1
  have hM0 := marking_start (f := initAt z1 len1) (round := round) hbs
  rw [← HT.out] at hM0
  obtain ⟨Lb, hLb⟩ : ∃ Lb, wr.heap.size = Lb := ⟨_, rfl⟩
  rw [hLb] at hM0 ⊢
  clear hLb hbs
  go_loopg [17] tot (fun g i wx => ∃ k' : Nat, k' ≤ tot ∧ g = tot - k' ∧ i = .int .i64 k' ∧ Marking w wx n S Bb Lb (Lb + 1) sz bs k' (initAt z1 len1) round)
  case atStart => go_light; exact ⟨0, by omega, rfl, rfl, hM0⟩
  case round =>
    rename World => w3
    rename_i J3 K3 hJ3 hK3
    clear hM0
    obtain ⟨k', hk', rfl, rfl, hM⟩ := hrel
    by_cases hlt2 : k' < tot
    · have hlt2' : (k' : Int) < (tot : Int) := by omega
      obtain ⟨ls, mk, q1, q2, q3, q4, _⟩ := hM.2.2.2
      have e1 := IB.cell q1 k' (by rw [q3, ← HT.out]; exact hlt2)
      have e2 := BB.cell q2 k' (by rw [q4, ← HT.out]; exact hlt2)
      have f1 : w3.frozen? ⟨Lb, k', none⟩ = false := Blk.frozen q1 _
      have f2 : w3.frozen? ⟨Lb + 1, k', none⟩ = false := Blk.frozen q2 _
      have hrd := h1.below hM.1.1.1
      have R := marking_step hM (by rw [← HT.out]; exact hlt2)
      obtain ⟨x, hx⟩ : ∃ x, ls.getD k' 0 = x := ⟨_, rfl⟩
      obtain ⟨y, hy⟩ : ∃ y, mk.getD k' false = y := ⟨_, rfl⟩
      rw [hx] at e1
      rw [hy] at e2
      clear hM q1 q2 q3 q4 hx hy h1
      go_wp2_with (go_at_call 4; refine (init_any a1 len1 cap1 k' z1 _ ?_ l1 ?_).mono ?_; (exact hrd); (unfold maxLen; omega); rintro e w' ⟨rfl, rfl⟩)
      go_roundg (tot - (k' + 1))
      case measure => go_light; omega
      case rel => go_light; exact ⟨k' + 1, by omega, rfl, by go_num, by simpa using R⟩
    · clear hJ3 hK3
      obtain rfl : tot = k' := by omega
      go_wp2
      exact HK0.out _ _ (tail26 _ _ _ _ _ _ _ _ _ _ _ _ _ _ _ _ _ _ _ _ _ _ _ _ _ _ _ _ _ _ _ _ _ _ _ _ _ _ _ _ _ _ _ _ _ _ _ _ _ _ _ _ _ _ _ _ _ _ _ _ _ _ _ _ _ _ _ _ _ _ _ _ _ _ _ _ _ _ _ _ _ _ _ _ _ _ _ _ _ _ _ _ _ _ _ _ _ _ _ _ _ _ _ _ _ _ _ _ _ _ _ _ _ _ _ _ _ _ _ _ _ _ _ _ _ _ _ _ _ _ _ _ _ _ _ _ _ _ _ _ _ _ _ _ _ _ _ _ _ _ _ _ _ _ _ _ _ _ _ _ _ _ _ _ _ _ _ _ _ _ _ _ _ _ _ _ _ _ _ _ _ _ _ _ _ _ _ _ _ _ _ _ _ _ _ _ _ _ _ _ _ _ _ _ _ _ _ _ _ _ _ _ _ _ _ _ _ _ _ _ _ _ _ Bb Lb tot bs a0 a1 a3 len0 cap0 len1 cap1 len3 cap3 n S sz round z1 z3 w w3 l1 l3 h1 h3 b3 HT hM)

set_option maxHeartbeats 1600000 in
set_option maxRecDepth 1000000 in
theorem tail13 (c4 c5 c6 c7 c8 c11 c12 c13 c14 c15 c16 c17 c18 c19 c20 c21 c22 c23 c24 c25 c26 c27 c28 c29 c30 c31 c32 c33 c34 c35 c36 c37 c38 c39 c40 c41 c42 c43 c44 c45 c46 c47 c48 c49 c50 c51 c52 c53 c54 c55 c56 c57 c58 c59 c60 c61 c62 c63 c64 c65 c66 c67 c68 c69 c70 c71 c72 c73 c74 c75 c76 c77 c78 c79 c80 c81 c82 c83 c84 c85 c86 c87 c88 c89 c90 c91 c92 c93 c94 c95 c96 c97 c98 c99 c100 c101 c102 c103 c104 c105 c106 c107 c108 c109 c110 c111 c112 c113 c114 c115 c116 c117 c118 c119 c120 c121 c122 c123 c124 c125 c126 c127 c128 c129 c130 c131 c132 c133 c134 c135 c136 c137 c138 c139 c140 c141 c142 c143 c144 c145 c146 c147 c148 c149 c150 c151 c152 c153 c154 c155 c156 c157 c158 c159 c160 c161 c162 c163 c164 c165 c166 c167 c168 c169 c170 c171 c172 c173 c174 c175 c176 c177 c178 c179 c180 c181 c182 c183 c184 c185 c186 c187 c188 c189 c190 c191 c192 c193 c194 c195 c196 c197 c198 c199 c200 c201 c202 c203 c204 c205 c206 c207 c208 c209 c210 c211 c212 c213 c214 c215 c216 c217 c218 c219 c220 c221 c222 c223 c224 c225 c226 c227 c228 c229 c230 c231 c232 : Value) (a0 a1 a3 : Option Addr) (len0 cap0 len1 cap1 len3 cap3 n S : Nat) (sz : List Nat) (round : Int) (z1 z3 : List Int) (w wr : World) (l1 : len1 ≤ maxLen) (l3 : len3 ≤ 4096) (h1 : Rd .i64 w a1 len1 z1) (h3 : Rd .u16 w a3 len3 z3) (b3 : ∀ i, 0 ≤ z3.getD i 0 ∧ z3.getD i 0 ≤ 65535) (hS : Sized w wr n S sz) :
    Code.wp Yba.prog (tailAt 13 (Yba.f3.body.getD .skip)) (bodyPost Yba.prog Yba.f3 fun e w' => e = .returned (.bool true) ∧ Below w.heap.size w w') ⟨#[.slice a0 len0 cap0, .slice a1 len1 cap1, .int .i64 round, .slice a3 len3 cap3, c4, c5, c6, c7, c8, .int .i64 (n : Nat), .slice (some ⟨S, 0, none⟩) n n, c11, c12, c13, c14, c15, c16, c17, c18, c19, c20, c21, c22, c23, c24, c25, c26, c27, c28, c29, c30, c31, c32, c33, c34, c35, c36, c37, c38, c39, c40, c41, c42, c43, c44, c45, c46, c47, c48, c49, c50, c51, c52, c53, c54, c55, c56, c57, c58, c59, c60, c61, c62, c63, c64, c65, c66, c67, c68, c69, c70, c71, c72, c73, c74, c75, c76, c77, c78, c79, c80, c81, c82, c83, c84, c85, c86, c87, c88, c89, c90, c91, c92, c93, c94, c95, c96, c97, c98, c99, c100, c101, c102, c103, c104, c105, c106, c107, c108, c109, c110, c111, c112, c113, c114, c115, c116, c117, c118, c119, c120, c121, c122, c123, c124, c125, c126, c127, c128, c129, c130, c131, c132, c133, c134, c135, c136, c137, c138, c139, c140, c141, c142, c143, c144, c145, c146, c147, c148, c149, c150, c151, c152, c153, c154, c155, c156, c157, c158, c159, c160, c161, c162, c163, c164, c165, c166, c167, c168, c169, c170, c171, c172, c173, c174, c175, c176, c177, c178, c179, c180, c181, c182, c183, c184, c185, c186, c187, c188, c189, c190, c191, c192, c193, c194, c195, c196, c197, c198, c199, c200, c201, c202, c203, c204, c205, c206, c207, c208, c209, c210, c211, c212, c213, c214, c215, c216, c217, c218, c219, c220, c221, c222, c223, c224, c225, c226, c227, c228, c229, c230, c231, c232], []⟩ wr := by
  conv => arg 2; whnf
  obtain ⟨hn1, hn2⟩ : 1 ≤ n ∧ n ≤ 1024 := ⟨hS.2.2.2.2.1, hS.2.2.2.2.2.1⟩
  have hmk := run_make_row' (P := Yba.prog) 23 3 (.int .i64 0) 8 Yba.underlying23 Yba.info3 rfl .i64 .i64 (n + 1) (by omega) (by omega)
  rw [show ((n + 1 : Nat) : Int) = (n : Int) + 1 from by omega] at hmk
  go_wp2_with fail
  rename_i K0 hK0
  have HK0 := hide hK0
  clear hK0
  clear hmk
  have hB0 := basing_start hS
  obtain ⟨Bb, hBb⟩ : ∃ Bb, wr.heap.size = Bb := ⟨_, rfl⟩
  rw [hBb] at hB0 ⊢
  clear hBb
  go_loopg [13] n (fun g i wx => ∃ k : Nat, k ≤ n ∧ g = n - k ∧ i = .int .i64 k ∧ Basing w wx n S Bb k sz)
  case atStart => go_light; exact ⟨0, by omega, rfl, rfl, hB0⟩
  case round =>
    rename World => w2
    rename_i J2 K2 hJ2 hK2
    obtain ⟨k, hk, rfl, rfl, hB⟩ := hrel
    have hszl : sz.length = n := hS.2.2.2.1
    have hx4 : ∀ x ∈ sz, 1 ≤ x ∧ x ≤ 4 := hS.2.2.2.2.2.2
    clear hS hB0
    by_cases hlt : k < n
    · have hlt' : (k : Int) < (n : Int) := by omega
      obtain ⟨l, hl, hn, hj⟩ := hB.2.2
      have hp0 := pre_le sz hx4 k
      have hs4 : sz.getD k 0 ≤ 4 := (hx4 _ (by simp [hszl, hlt])).2
      have e1 := NB.cell hl k (by omega)
      rw [hj k (by omega)] at e1
      have e2 := NB.cell hB.1.2.1 k (by omega)
      have e3 := NB.cell hl (k + 1) (by omega)
      have hfz : w2.frozen? ⟨Bb, k + 1, none⟩ = false := Blk.frozen hl _
      have R := basing_step hB hlt
      obtain ⟨x, hx⟩ : ∃ x, sz.getD k 0 = x := ⟨_, rfl⟩
      rw [hx] at hs4 e2 R
      clear hx hszl
      obtain ⟨y, hy⟩ : ∃ y, pre sz k = y := ⟨_, rfl⟩
      rw [hy] at hp0 e1 R
      clear hB hl hj hx4 hy
      go_wp2
      go_region
      go_wp2
      go_roundg (n - (k + 1))
      case measure => go_light; omega
      case rel => go_light; exact ⟨k + 1, by omega, rfl, by go_num, by simpa using R⟩
    · clear hJ2 hK2
      obtain rfl : n = k := by omega
      obtain ⟨bs, hbs⟩ := basing_done hB
      clear hB
      go_wp2
      exact HK0.out _ _ (tail18 _ _ _ _ _ _ _ _ _ _ _ _ _ _ _ _ _ _ _ _ _ _ _ _ _ _ _ _ _ _ _ _ _ _ _ _ _ _ _ _ _ _ _ _ _ _ _ _ _ _ _ _ _ _ _ _ _ _ _ _ _ _ _ _ _ _ _ _ _ _ _ _ _ _ _ _ _ _ _ _ _ _ _ _ _ _ _ _ _ _ _ _ _ _ _ _ _ _ _ _ _ _ _ _ _ _ _ _ _ _ _ _ _ _ _ _ _ _ _ _ _ _ _ _ _ _ _ _ _ _ _ _ _ _ _ _ _ _ _ _ _ _ _ _ _ _ _ _ _ _ _ _ _ _ _ _ _ _ _ _ _ _ _ _ _ _ _ _ _ _ _ _ _ _ _ _ _ _ _ _ _ _ _ _ _ _ _ _ _ _ _ _ _ _ _ _ _ _ _ _ _ _ _ _ _ _ _ _ _ _ _ _ _ _ _ _ _ _ _ _ _ _ _ _ _ _ Bb bs a0 a1 a3 len0 cap0 len1 cap1 len3 cap3 n S sz round z1 z3 w w2 l1 l3 h1 h3 b3 hbs)

set_option maxHeartbeats 1600000 in
set_option maxRecDepth 1000000 in
theorem law_any (a0 : Option Addr) (len0 cap0 : Nat) (z0 : List Int) (a1 : Option Addr) (len1 cap1 : Nat) (z1 : List Int) (round : Int) (a3 : Option Addr) (len3 cap3 : Nat) (z3 : List Int) (w : World)
    (h0 : Rd .u8 w a0 len0 z0) (b0 : ∀ i, 0 ≤ z0.getD i 0 ∧ z0.getD i 0 ≤ 255) (h1 : Rd .i64 w a1 len1 z1) (h3 : Rd .u16 w a3 len3 z3) (b3 : ∀ i, 0 ≤ z3.getD i 0 ∧ z3.getD i 0 ≤ 65535)
    (l1 : len1 ≤ maxLen) (l0 : len0 ≤ 1024) (l3 : len3 ≤ 4096) :
    Calls Yba.prog 3 #[.slice a0 len0 cap0, .slice a1 len1 cap1, .int .i64 round, .slice a3 len3 cap3] w fun e w' => e = .returned (.bool true) ∧ Below w.heap.size w w' := by
  go_enter Yba.func3, Yba.ntmps3
  go_upto_if 41 with fail
  rename_i K0 hK0
  have HK0 := hide hK0
  clear hK0
  go_cut [9, 10] (fun v9 v10 wx => ∃ n S sz, v9 = .int .i64 (n : Nat) ∧ v10 = .slice (some ⟨S, 0, none⟩) n n ∧ Sized w wx n S sz)
  case first =>
    clear h1 h3 b3 l1 l3
    by_cases hz : len0 = 0
    · subst hz
      go_wp2
      go_meet
      case rel => 
        go_light
        exact ⟨1, w.heap.size, [1], rfl, rfl, (Below.refl _ _).alloc (Nat.le_refl _) _, Blk.new w 3 [.int .i64 1], Nat.le_refl _, rfl, by omega, by omega, by simp⟩
    · have hz' : ((len0 : Int) == 0) = false := by simpa using hz
      rcases h0 with h0 | ⟨b, off, rfl, hb, hc⟩
      · omega
      have hmk := run_make_row' (P := Yba.prog) 23 3 (.int .i64 0) 8 Yba.underlying23 Yba.info3 rfl .i64 .i64 len0 (by omega) (by omega)
      go_wp2
      clear hmk
      go_loopg [11] len0 (fun g i wr => ∃ k : Nat, k ≤ len0 ∧ g = len0 - k ∧ i = .int .i64 k ∧ Sizing w wr len0 w.heap.size k)
      case atStart =>
        go_light
        refine ⟨0, by omega, rfl, rfl, (Below.refl _ _).alloc (Nat.le_refl _) _, Nat.le_refl _, _, NB.made w len0, by simp, fun j hj => by omega⟩
      case round =>
        obtain ⟨k, hk, rfl, rfl, hS⟩ := hrel
        by_cases hlt : k < len0
        · have hlt' : (k : Int) < (len0 : Int) := by omega
          have hcell : wr.cell? ⟨b, off + k, none⟩ = some (.int .u8 (z0.getD k 0)) := by rw [hS.1.cell (p := ⟨b, off + k, none⟩) hb]; exact hc k hlt
          obtain ⟨hbk, hbk'⟩ : 0 ≤ z0[k]?.getD 0 ∧ z0[k]?.getD 0 ≤ 255 := by simpa using b0 k
          obtain ⟨l, hl, hn, _⟩ := hS.2.2
          have hst := NB.cell hl k (by omega)
          have hfz : wr.frozen? ⟨w.heap.size, k, none⟩ = false := Blk.frozen hl k
          have R := sizing_step hS hlt hbk
          clear hS hl hc
          go_wp2
          go_roundg (len0 - (k + 1))
          case measure => go_light; omega
          case rel => go_light; exact ⟨k + 1, by omega, rfl, by go_num, by simpa using R⟩
        · have hk' : k = len0 := by omega
          subst hk'
          go_wp2
          go_meet
          case rel =>
            go_light
            obtain ⟨sz, hsz⟩ := sizing_done hS (by omega) l0
            exact ⟨k, w.heap.size, sz, rfl, rfl, hsz⟩
  case rest =>
    obtain ⟨n, S, sz, rfl, rfl, hS⟩ := hcut
    exact HK0.out _ _ (tail13 _ _ _ _ _ _ _ _ _ _ _ _ _ _ _ _ _ _ _ _ _ _ _ _ _ _ _ _ _ _ _ _ _ _ _ _ _ _ _ _ _ _ _ _ _ _ _ _ _ _ _ _ _ _ _ _ _ _ _ _ _ _ _ _ _ _ _ _ _ _ _ _ _ _ _ _ _ _ _ _ _ _ _ _ _ _ _ _ _ _ _ _ _ _ _ _ _ _ _ _ _ _ _ _ _ _ _ _ _ _ _ _ _ _ _ _ _ _ _ _ _ _ _ _ _ _ _ _ _ _ _ _ _ _ _ _ _ _ _ _ _ _ _ _ _ _ _ _ _ _ _ _ _ _ _ _ _ _ _ _ _ _ _ _ _ _ _ _ _ _ _ _ _ _ _ _ _ _ _ _ _ _ _ _ _ _ _ _ _ _ _ _ _ _ _ _ _ _ _ _ _ _ _ _ _ _ _ _ _ _ _ _ _ _ _ _ _ _ _ _ _ _ _ _ _ _ _ a0 a1 a3 len0 cap0 len1 cap1 len3 cap3 n S sz round z1 z3 w _ l1 l3 h1 h3 b3 hS)


end Go.Proofs.Ybulkcicw
