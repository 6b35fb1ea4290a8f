import Derived.Test.YbulkciemGreatDoorTail31
namespace Go.Proofs.YbulkciemGreatDoor
open Go.RowKit
set_option linter.unusedVariables false
set_option linter.unusedSimpArgs false

set_option maxRecDepth 1000000 in
set_option maxHeartbeats 3200000 in
theorem tail19 (c1 c2 c4 c6 c7 c8 c9 c10 c13 c14 c15 c16 c17 c18 c19 c20 c21 c22 c23 c24 c25 c26 c27 c28 c29 c30 c31 c32 c33 c34 c35 c36 c37 c38 c39 c40 c41 c42 c43 c44 c45 c46 c47 c48 c49 c50 c51 c52 c53 c54 c55 c56 c57 c58 c59 c60 c61 c62 c63 c64 c65 c66 c67 c68 c69 c70 c71 c72 c73 c74 c75 c76 c77 c78 c79 c80 c81 c82 c83 c84 c85 c86 c87 c88 c89 c90 c91 c92 c93 c94 c95 c96 c97 c98 c99 c100 c101 c102 c103 c104 c105 c106 c107 c108 c109 c110 c111 c112 c113 c114 c115 c116 c117 c118 c119 c120 c121 c122 c123 c124 c125 c126 c127 c128 c129 c130 c131 c132 c133 c134 c135 c136 c137 c138 c139 c140 c141 c142 c143 c144 c145 c146 c147 c148 c149 c150 c151 c152 c153 c154 c155 c156 c157 c158 c159 c160 c161 c162 c163 c164 c165 c166 c167 c168 c169 c170 c171 c172 c173 c174 c175 c176 c177 c178 c179 c180 c181 c182 c183 c184 c185 c186 c187 c188 c189 c190 c191 c192 c193 c194 c195 c196 c197 c198 c199 c200 c201 c202 c203 c204 c205 c206 c207 c208 c209 c210 c211 c212 c213 c214 c215 c216 c217 c218 c219 c220 c221 c222 c223 c224 c225 c226 c227 : Value) (F R LP AC O c gf cf n cn vc lc icap : Nat) (ia va la : Option Addr) (bf : Nat → Int) (ex : Nat → Bool) (v : Nat → Value) (a : Int) (w0 w : World) (hA : Aft w F R LP AC O c gf cf n cn vc lc ia va la bf ex v a) (hb : Below w0.heap.size w0 w) (hn : n ≤ 300) (ha0 : 0 ≤ a) (ha1 : a ≤ 255) :
    Code.wp Ybaz.prog (tailAt 19 (Ybaz.f3.body.getD .skip)) (bodyPost Ybaz.prog Ybaz.f3 fun e w' => e = .returned (.bool true) ∧ Below w0.heap.size w0 w') ⟨#[.slice ia n icap, c1, c2, .pointer (some ⟨AC, 0, none⟩), c4, .pointer (some ⟨LP, 0, none⟩), c6, c7, c8, c9, c10, .pointer (some ⟨R, 0, none⟩), .pointer (some ⟨F, 0, none⟩), c13, c14, c15, c16, c17, c18, c19, c20, c21, c22, c23, c24, c25, c26, c27, c28, c29, c30, c31, c32, c33, c34, c35, c36, c37, c38, c39, c40, c41, c42, c43, c44, c45, c46, c47, c48, c49, c50, c51, c52, c53, c54, c55, c56, c57, c58, c59, c60, c61, c62, c63, c64, c65, c66, c67, c68, c69, c70, c71, c72, c73, c74, c75, c76, c77, c78, c79, c80, c81, c82, c83, c84, c85, c86, c87, c88, c89, c90, c91, c92, c93, c94, c95, c96, c97, c98, c99, c100, c101, c102, c103, c104, c105, c106, c107, c108, c109, c110, c111, c112, c113, c114, c115, c116, c117, c118, c119, c120, c121, c122, c123, c124, c125, c126, c127, c128, c129, c130, c131, c132, c133, c134, c135, c136, c137, c138, c139, c140, c141, c142, c143, c144, c145, c146, c147, c148, c149, c150, c151, c152, c153, c154, c155, c156, c157, c158, c159, c160, c161, c162, c163, c164, c165, c166, c167, c168, c169, c170, c171, c172, c173, c174, c175, c176, c177, c178, c179, c180, c181, c182, c183, c184, c185, c186, c187, c188, c189, c190, c191, c192, c193, c194, c195, c196, c197, c198, c199, c200, c201, c202, c203, c204, c205, c206, c207, c208, c209, c210, c211, c212, c213, c214, c215, c216, c217, c218, c219, c220, c221, c222, c223, c224, c225, c226, c227], []⟩ w := by
  conv => arg 2; whnf
  have r2 := hA.r2
  have f54 := hA.f54
  have lp := hA.lp
  have HA := hide hA
  have HB := hide hb
  clear hA hb
  go_wp2_with fail
  rename_i K0 hK0
  have HK0 := hide hK0
  clear hK0 r2 f54 lp
  go_loopg [105] n (fun g0 v105 wx => ∃ i : Nat, i ≤ n ∧ g0 = n - i ∧ v105 = .int .i64 i ∧ Aft wx F R LP AC O c gf cf n cn vc lc ia va la bf ex v a ∧ Below w0.heap.size w0 wx)
  case atStart => go_light; exact ⟨0, by omega, rfl, rfl, HA.out, HB.out⟩
  case round =>
    rename World => w2
    rename_i J2 K2 hJ2 hK2
    obtain ⟨i, hi, rfl, rfl, hA2, hb2⟩ := hrel
    by_cases hlt : i < n
    · have hlt' : (i : Int) < (n : Int) := by omega
      rcases hA2.inp with hz | ⟨b, off, hia, hblt, hin⟩
      · omega
      obtain ⟨h1, h2, h3, h4⟩ := hin i hlt
      rcases hA2.log with hz | ⟨lg, hla, hlog⟩
      · omega
      have lp := hA2.lp
      rw [hla] at lp
      have hlplt := World.block_lt_of_cell? _ _ lp
      have hl := hlog i hlt
      have hllt := World.block_lt_of_cell? _ _ hl
      have htb : tbl (kOf bf i) = tbl (bf i % 4) := by
        unfold kOf
        rw [Int.toNat_of_nonneg (by omega)]
      rw [htb] at hl
      have HT := fun w => hide (tbl5 (bf i) w h3 h4)
      have HA2 := hide hA2
      have HB2 := hide hb2
      subst hia
      clear hA2 hb2 hin HA HB hla hlog htb
      obtain ⟨sx, hsx⟩ : ∃ sx, tbl (bf i % 4) = sx := ⟨_, rfl⟩
      rw [hsx] at hl HT
      clear hsx
      go_wp2
      go_quiet ((go_at_call 5; exact Calls.quiet_of_same (HT _).out))
      go_wp2
      go_roundg (n - (i + 1))
      case measure => go_light; omega
      case rel => go_light; exact ⟨i + 1, by omega, rfl, by go_num, HA2.out.below (below_drewN ((Below.refl _ _).alloc (Nat.le_refl _) _) _), below_drewN (HB2.out.alloc HB2.out.size _) _⟩
    · have hin : n = i := by omega
      subst hin
      have HA2 := hide hA2
      have HB2 := hide hb2
      clear hA2 hb2 hJ2 hK2 HA HB
      go_wp2
      exact HK0.out _ _ (tail31 _ _ _ _ _ _ _ _ _ _ _ _ _ _ _ _ _ _ _ _ _ _ _ _ _ _ _ _ _ _ _ _ _ _ _ _ _ _ _ _ _ _ _ _ _ _ _ _ _ _ _ _ _ _ _ _ _ _ _ _ _ _ _ _ _ _ _ _ _ _ _ _ _ _ _ _ _ _ _ _ _ _ _ _ _ _ _ _ _ _ _ _ _ _ _ _ _ _ _ _ _ _ _ _ _ _ _ _ _ _ _ _ _ _ _ _ _ _ _ _ _ _ _ _ _ _ _ _ _ _ _ _ _ _ _ _ _ _ _ _ _ _ _ _ _ _ _ _ _ _ _ _ _ _ _ _ _ _ _ _ _ _ _ _ _ _ _ _ _ _ _ _ _ _ _ _ _ _ _ _ _ _ _ _ _ _ _ _ _ _ _ _ _ _ _ _ _ _ _ _ _ _ _ _ _ _ _ _ _ _ _ _ _ _ _ _ _ _ _ _ _ _ _ F R LP AC O c gf cf n cn vc lc icap ia va la bf ex v a w0 w2 HA2.out HB2.out hn ha0 ha1)
end Go.Proofs.YbulkciemGreatDoor
