import Derived.Test.YbulkcicwPlain
namespace Go.Proofs.Ybulkcicw
open Go.RowKit
set_option linter.unusedVariables false

/-- The bodies of the loops of a function's text, outer ones first. -/
def loopsIn : Code → List Code
  | .loop c => c :: loopsIn c
  | .seq a b => loopsIn a ++ loopsIn b
  | .block _ c => loopsIn c
  | .scope c => loopsIn c
  | .cond _ a b => loopsIn a ++ loopsIn b
  | _ => []

set_option maxHeartbeats 1600000 in
set_option maxRecDepth 1000000 in
theorem round4 (c4 c5 c6 c7 c8 c11 c12 c13 c17 c21 c28 c29 c30 c31 c32 c33 c34 c35 c36 c37 c38 c39 c40 c41 c42 c43 c44 c45 c46 c47 c48 c49 c50 c51 c52 c53 c54 c55 c56 c57 c58 c59 c60 c61 c62 c63 c64 c65 c66 c67 c68 c69 c70 c71 c72 c73 c74 c75 c76 c77 c78 c79 c80 c81 c82 c83 c84 c85 c86 c87 c88 c89 c90 c91 c92 c93 c94 c95 c96 c97 c98 c99 c100 c101 c102 c103 c104 c105 c106 c107 c108 c109 c110 c111 c112 c113 c114 c115 c169 c170 c171 c172 c173 c174 c175 c176 c177 c178 c179 c180 c181 c182 c183 c184 c185 c186 c187 c188 c189 c190 c191 c192 c193 c194 c195 c196 c197 c198 c199 c200 c201 c202 c203 c204 c205 c206 c207 c208 c209 c210 c211 c212 c213 c214 c215 c216 c217 c218 c219 c220 c221 c222 c223 c224 c225 c226 c227 c228 c229 c230 c231 c232 u22 u23 u24 u25 u26 u27 u119 u120 u121 u122 u123 u124 u125 u126 u127 u128 u129 u130 u131 u132 u133 u134 u135 u136 u137 u138 u139 u140 u141 u142 u143 u144 u145 u146 u147 u148 u149 u150 u151 u152 u153 u154 u155 u156 u157 u158 u159 u160 u161 u162 u163 u164 u165 u166 u167 u168 gv wv : Value) (a0 a1 : Option Addr) (len0 cap0 len1 cap1 len3 cap3 b off n S Bb Lb G tot j : Nat) (sz bs : List Nat) (round s : Int) (f : Nat → Int) (ls : List Int) (mk : List Bool) (items : List (Nat × Nat)) (w wr : World)
    (hj : j < len3) (l3 : len3 ≤ 4096) (hs0 : 0 ≤ s) (hs1 : s ≤ 65535) (hcell : wr.cell? ⟨b, off + j, none⟩ = some (.int .u16 s)) (HT : Hid (tot = pre sz n)) (hit : items.length ≤ j) (hT : Told tot f round ls mk) (hR : Mem w wr n S Bb Lb G (G + 1) tot sz bs round ls mk items items gv wv)
    (K : Act → World → Prop) (Q : Exit → Act → World → Prop)
    (hK : ∀ (u22 u23 u24 u25 u26 u27 u119 u120 u121 u122 u123 u124 u125 u126 u127 u128 u129 u130 u131 u132 u133 u134 u135 u136 u137 u138 u139 u140 u141 u142 u143 u144 u145 u146 u147 u148 u149 u150 u151 u152 u153 u154 u155 u156 u157 u158 u159 u160 u161 u162 u163 u164 u165 u166 u167 u168 gv wv : Value) (ls : List Int) (mk : List Bool) (items : List (Nat × Nat)) (w' : World), items.length ≤ j + 1 → Told tot f round ls mk → Mem w w' n S Bb Lb G (G + 1) tot sz bs round ls mk items items gv wv → K ⟨#[.slice a0 len0 cap0, .slice a1 len1 cap1, .int .i64 round, .slice (some ⟨b, off, none⟩) len3 cap3, c4, c5, c6, c7, c8, .int .i64 (n : Nat), .slice (some ⟨S, 0, none⟩) n n, c11, c12, c13, .int .i64 (tot : Nat), .slice (some ⟨Lb, 0, none⟩) tot tot, .slice (some ⟨Lb + 1, 0, none⟩) tot tot, c17, .pointer (some ⟨G + 1, 0, none⟩), gv, wv, c21, u22, u23, u24, u25, u26, u27, c28, c29, c30, c31, c32, c33, c34, c35, c36, c37, c38, c39, c40, c41, c42, c43, c44, c45, c46, c47, c48, c49, c50, c51, c52, c53, c54, c55, c56, c57, c58, c59, c60, c61, c62, c63, c64, c65, c66, c67, c68, c69, c70, c71, c72, c73, c74, c75, c76, c77, c78, c79, c80, c81, c82, c83, c84, c85, c86, c87, c88, c89, c90, c91, c92, c93, c94, c95, c96, c97, c98, c99, c100, c101, c102, c103, c104, c105, c106, c107, c108, c109, c110, c111, c112, c113, c114, c115, .slice (some ⟨b, off, none⟩) len3 cap3, .int .i64 (len3 : Nat), .int .i64 ((j : Nat) + 1), u119, u120, u121, u122, u123, u124, u125, u126, u127, u128, u129, u130, u131, u132, u133, u134, u135, u136, u137, u138, u139, u140, u141, u142, u143, u144, u145, u146, u147, u148, u149, u150, u151, u152, u153, u154, u155, u156, u157, u158, u159, u160, u161, u162, u163, u164, u165, u166, u167, u168, c169, c170, c171, c172, c173, c174, c175, c176, c177, c178, c179, c180, c181, c182, c183, c184, c185, c186, c187, c188, c189, c190, c191, c192, c193, c194, c195, c196, c197, c198, c199, c200, c201, c202, c203, c204, c205, c206, c207, c208, c209, c210, c211, c212, c213, c214, c215, c216, c217, c218, c219, c220, c221, c222, c223, c224, c225, c226, c227, c228, c229, c230, c231, c232], []⟩ w') :
    Code.wp Yba.prog (((Yba.f3.body.map loopsIn).getD []).getD 3 .skip) (Exit.then K Q) ⟨#[.slice a0 len0 cap0, .slice a1 len1 cap1, .int .i64 round, .slice (some ⟨b, off, none⟩) len3 cap3, c4, c5, c6, c7, c8, .int .i64 (n : Nat), .slice (some ⟨S, 0, none⟩) n n, c11, c12, c13, .int .i64 (tot : Nat), .slice (some ⟨Lb, 0, none⟩) tot tot, .slice (some ⟨Lb + 1, 0, none⟩) tot tot, c17, .pointer (some ⟨G + 1, 0, none⟩), gv, wv, c21, u22, u23, u24, u25, u26, u27, c28, c29, c30, c31, c32, c33, c34, c35, c36, c37, c38, c39, c40, c41, c42, c43, c44, c45, c46, c47, c48, c49, c50, c51, c52, c53, c54, c55, c56, c57, c58, c59, c60, c61, c62, c63, c64, c65, c66, c67, c68, c69, c70, c71, c72, c73, c74, c75, c76, c77, c78, c79, c80, c81, c82, c83, c84, c85, c86, c87, c88, c89, c90, c91, c92, c93, c94, c95, c96, c97, c98, c99, c100, c101, c102, c103, c104, c105, c106, c107, c108, c109, c110, c111, c112, c113, c114, c115, .slice (some ⟨b, off, none⟩) len3 cap3, .int .i64 (len3 : Nat), .int .i64 (j : Nat), u119, u120, u121, u122, u123, u124, u125, u126, u127, u128, u129, u130, u131, u132, u133, u134, u135, u136, u137, u138, u139, u140, u141, u142, u143, u144, u145, u146, u147, u148, u149, u150, u151, u152, u153, u154, u155, u156, u157, u158, u159, u160, u161, u162, u163, u164, u165, u166, u167, u168, c169, c170, c171, c172, c173, c174, c175, c176, c177, c178, c179, c180, c181, c182, c183, c184, c185, c186, c187, c188, c189, c190, c191, c192, c193, c194, c195, c196, c197, c198, c199, c200, c201, c202, c203, c204, c205, c206, c207, c208, c209, c210, c211, c212, c213, c214, c215, c216, c217, c218, c219, c220, c221, c222, c223, c224, c225, c226, c227, c228, c229, c230, c231, c232], []⟩ wr := by
  conv => arg 2; whnf
  have hj' : (j : Int) < (len3 : Int) := by omega
  have hn1 := hR.based.1.2.2.2.2.1
  have hn2 := hR.based.1.2.2.2.2.2.1
  have hszl := hR.based.1.2.2.2.1
  have ht1 : tot ≤ 4 * n := by rw [HT.out]; exact pre_le sz hR.based.1.2.2.2.2.2.2 n
  obtain ⟨hs2, hs3⟩ := and255 s hs0 hs1
  go_upto_region 31 with fail
  go_cut [23] from 119 to 168 (fun v wx => wx = wr ∧ ∃ p : Nat, p < n ∧ v = .int .i64 p)
  case first =>
    go_wp2
    go_meet
    case rel =>
      go_light
      exact ⟨rfl, (bits .and .u16 s 255 % (n : Int)).toNat, by have := Int.emod_lt_of_pos (bits .and .u16 s 255) (show (0 : Int) < n by omega); have := Int.emod_nonneg (bits .and .u16 s 255) (show (n : Int) ≠ 0 by omega); omega,
        by rw [Int.toNat_of_nonneg (Int.emod_nonneg _ (by omega))]⟩
  case rest =>
    obtain ⟨rfl, p, hp, rfl⟩ := hcut
    clear hs2 hs3
    have hx4 := hR.based.1.2.2.2.2.2.2
    have e1 := NB.cell hR.based.1.2.1 p (by omega)
    obtain ⟨x, hx⟩ : ∃ x, sz.getD p 0 = x := ⟨_, rfl⟩
    have hx1 : 1 ≤ x ∧ x ≤ 4 := by rw [← hx]; exact hx4 _ (by simp [hszl, hp])
    obtain ⟨hx1, hx2⟩ := hx1
    rw [hx] at e1
    have HX : Hid (sz.getD p 0 = x) := hx
    have hp' : (p : Int) < (n : Int) := by omega
    clear hx hx4
    go_upto_region 32 with fail
    go_cut [24] from 119 to 168 (fun v wx => wx = wc ∧ ∃ d : Nat, d < x ∧ v = .int .i64 d)
    case first =>
      go_wp2
      go_meet
      case rel =>
        go_light
        exact ⟨rfl, (s / 256 % (x : Int)).toNat, by have := Int.emod_lt_of_pos (s / 256) (show (0 : Int) < x by omega); have := Int.emod_nonneg (s / 256) (show (x : Int) ≠ 0 by omega); omega,
          by rw [Int.toNat_of_nonneg (Int.emod_nonneg _ (by omega))]⟩
    case rest =>
      rename World => w4
      obtain ⟨rfl, d, hd, rfl⟩ := hcut
      clear e1 hcell hs0 hs1
      -- where the item stands
      obtain ⟨y, hy⟩ : ∃ y, pre sz p = y := ⟨_, rfl⟩
      have hyt : y + d < tot := by rw [HT.out, ← hy]; exact pre_lt sz p d n hR.based.1.2.2.2.2.2.2 (by omega) (by omega) (by rw [HX.out]; exact hd)
      have HY : Hid (pre sz p = y) := hy
      clear hy
      dsimp only at hK
      go_upto_region 34 with fail
      have hR5 : Mem w (w4.alloc (.cells #[.int .i64 (p : Int), .int .i64 (d : Int)] 43)) n S Bb Lb G (G + 1) tot sz bs round ls mk items items gv wv := hR.below ((Below.refl _ _).alloc (Nat.le_refl _) _)
      have hI : Blk (w4.alloc (.cells #[.int .i64 (p : Int), .int .i64 (d : Int)] 43)) w4.heap.size 43 [.int .i64 (p : Int), .int .i64 (d : Int)] := Blk.new w4 43 _
      have hgI : ∀ t ∈ Lb :: gv.ownBlock.toList, t < w4.heap.size := by
        intro t ht
        simp at ht
        rcases ht with rfl | ht
        · have := hR.o1; have := hR.o3; have := hR.o4; have := hR.o5; omega
        · exact (hR.got.lt t ht).2
      have hLI : Lb + 1 < w4.heap.size := by have := hR.o3; have := hR.o4; have := hR.o5; omega
      have hwI : ∀ t, wv.ownBlock = some t → t < w4.heap.size := fun t ht => (hR.want.lt t ht).2
      obtain ⟨I, hIe⟩ : ∃ I, w4.heap.size = I := ⟨_, rfl⟩
      obtain ⟨w5, hw5⟩ : ∃ w5, w4.alloc (.cells #[.int .i64 (p : Int), .int .i64 (d : Int)] 43) = w5 := ⟨_, rfl⟩
      rw [hIe, hw5] at hI
      rw [hw5] at hR5
      rw [hIe, hw5]
      rw [hIe] at hgI hwI hLI
      clear hIe hw5 hR
      have c0 : w5.cell? ⟨G + 1, 0, none⟩ = some (.pointer (some ⟨G, 0, none⟩)) := hR5.hc.cell 0
      have c1 : w5.cell? ⟨G + 1, 1, none⟩ = some (.int .i64 round) := hR5.hc.cell 1
      have c2 : w5.cell? ⟨G + 1, 2, none⟩ = some (.slice (some ⟨Lb, 0, none⟩) tot tot) := hR5.hc.cell 2
      have c3 : w5.cell? ⟨G, 4, none⟩ = some (.slice (some ⟨Bb, 0, none⟩) (n + 1) (n + 1)) := hR5.hg.cell 4
      have c4' : w5.cell? ⟨Bb, p, none⟩ = some (.int .i64 (y : Int)) := by
        have := NB.cell hR5.based.2.2.1 p (by have := hR5.based.2.2.2.1; omega)
        rw [hR5.based.2.2.2.2 p (by omega), HY.out] at this
        exact this
      have i0 : w5.cell? ⟨I, 0, none⟩ = some (.int .i64 (p : Int)) := hI.cell 0
      have i1 : w5.cell? ⟨I, 1, none⟩ = some (.int .i64 (d : Int)) := hI.cell 1
      have c5' := IB.cell hR5.hl (y + d) (by rw [hT.1]; exact hyt)
      go_cut [19] from 119 to 168 (fun v19 wx => ∃ ls' gi', Mem w wx n S Bb Lb G (G + 1) tot sz bs round ls' mk gi' items v19 wv ∧ Blk wx I 43 [.int .i64 (p : Int), .int .i64 (d : Int)] ∧
          ((ls.getD (y + d) 0 = round ∧ ls' = ls ∧ gi' = items) ∨ (ls.getD (y + d) 0 ≠ round ∧ ls' = ls.set (y + d) round ∧ gi' = items ++ [(p, d)])))
      case first =>
        by_cases hm : ls.getD (y + d) 0 = round
        · rw [hm] at c5'
          have HM : Hid (ls.getD (y + d) 0 = round) := hm
          clear hm
          go_wp2_with (go_at_call 5; refine (add_skip (G + 1) G Bb (n + 1) (n + 1) Lb tot p d (y + d) y round gv w5 c0 c1 c2 c3 ?_ ?_ ?_ ?_ c4' ?_ ?_ hyt c5').mono ?_; omega; omega; omega; omega; omega; omega; rintro e w6 ⟨rfl, hb6⟩)
          go_meet
          case rel => go_light; exact ⟨ls, items, hR5.below hb6, hI.below hb6 hI.lt, .inl ⟨HM.out, rfl, rfl⟩⟩
        · obtain ⟨z, hz⟩ : ∃ z, ls.getD (y + d) 0 = z := ⟨_, rfl⟩
          rw [hz] at c5'
          have hzr : (z == round) = false := by rw [← hz]; simpa using hm
          have HM : Hid (ls.getD (y + d) 0 ≠ round) := hm
          clear hm hz
          go_wp2_with (go_at_call 5; refine (add_new (G + 1) G Bb (n + 1) (n + 1) Lb tot p d (y + d) (G + 2) items.length y z round gv (flat items) ls w5 c0 c1 c2 c3 ?_ ?_ ?_ ?_ c4' ?_ ?_ hyt c5' hzr hR5.hl ?_ hR5.got ?_ ?_).mono ?_; omega; omega; omega; omega; omega; omega; omega; (have := hR5.o5; omega); (have := hR5.o1; have := hR5.o3; omega); rintro e w6 ⟨g, cap, rfl, a1, a2, a3, a4, a5⟩)
          go_meet
          case rel => go_light; exact ⟨ls.set (y + d) round, items ++ [(p, d)], hR5.added a1 a2 a3 a4, hI.chg a2 (fun hm => by have := hgI _ hm; omega), .inr ⟨HM.out, rfl, rfl⟩⟩
      case rest =>
        obtain ⟨ls', gi', hR6, hI6, hor⟩ := hcut
        clear c0 c1 c2 c3 c4' i0 i1 c5' hR5 hI
        go_wp2_with fail
        go_loopg [26, 27] p (fun g v26 v27 wx => wx = wc ∧ ∃ q : Nat, q ≤ p ∧ g = p - q ∧ v26 = .int .i64 (pre sz q : Nat) ∧ v27 = .int .i64 q)
        case atStart => go_light; exact ⟨rfl, 0, by omega, rfl, by simp [pre], rfl⟩
        case round =>
          rename_i J5 K5 hJ5 hK5
          obtain ⟨rfl, q, hq, rfl, rfl, rfl⟩ := hrel
          by_cases hqp : q < p
          · have hqp' : (q : Int) < (p : Int) := by omega
            have e1 := NB.cell hR6.based.1.2.1 q (by omega)
            have hpl := pre_le sz hR6.based.1.2.2.2.2.2.2 q
            obtain ⟨x', hx'⟩ : ∃ x', sz.getD q 0 = x' := ⟨_, rfl⟩
            have hps := pre_succ sz q (by omega)
            rw [hx'] at e1 hps
            have hx4 : x' ≤ 4 := by rw [← hx']; exact (hR6.based.1.2.2.2.2.2.2 _ (by simp [show q < sz.length by omega])).2
            have HPS : Hid (pre sz (q + 1) = pre sz q + x') := hps
            have hqn : (q : Int) < (n : Int) := by omega
            clear hx' hps
            go_wp2
            go_roundg (p - (q + 1))
            case measure => go_light; omega
            case rel => go_light; exact ⟨rfl, q + 1, by omega, rfl, by rw [HPS.out]; go_num, by go_num⟩
          · clear hJ5 hK5
            obtain rfl : p = q := by omega
            have e2 := BB.cell hR6.hm (y + d) (by rw [hT.2.1]; exact hyt)
            have hT3 := hT.2.2 (y + d) hyt
            rw [HY.out]
            obtain ⟨m, hm⟩ : ∃ m, mk.getD (y + d) false = m := ⟨_, rfl⟩
            rw [hm] at e2 hT3
            cases m with
            | true =>
              have hls := hT3.1 rfl
              rcases hor with ⟨_, rfl, rfl⟩ | ⟨h, _⟩
              · clear hT3 hls hm hI6 hgI hwI
                go_wp2
                exact hK _ _ _ _ _ _ _ _ _ _ _ _ _ _ _ _ _ _ _ _ _ _ _ _ _ _ _ _ _ _ _ _ _ _ _ _ _ _ _ _ _ _ _ _ _ _ _ _ _ _ _ _ _ _ _ _ _ _ _ mk _ _ (by omega) hT hR6
              · exact absurd hls h
            | false =>
              obtain ⟨hls1, hls2⟩ := hT3.2 rfl
              rcases hor with ⟨h, _⟩ | ⟨_, rfl, rfl⟩
              · rw [hls1] at h; exact absurd h hls2
              · clear hT3 hls1 hls2 hm
                have f2 := Blk.frozen hR6.hm (y + d)
                have i0 : wr.cell? ⟨I, 0, none⟩ = some (.int .i64 (p : Int)) := hI6.cell 0
                have i1 : wr.cell? ⟨I, 1, none⟩ = some (.int .i64 (d : Int)) := hI6.cell 1
                have hIL : Lb + 1 < I := hLI
                have hM7 := (hR6.marked (y + d)).below ((Below.refl _ _).alloc (Nat.le_refl _) (.cells #[.int .i64 (p : Int), .int .i64 (d : Int)] 43))
                obtain ⟨t0, ht0, hz0, hz1, hz2⟩ := info_parts Yba.info43
                go_wp2_with (at_builtin; refine wpList_append_lies _ rfl _ _ 37 rfl (G + 2) 43 t0 (.agg #[.int .i64 0, .int .i64 0]) 2 16 Yba.underlying37 ht0 hz0 hz1 hz2 rfl (by decide) wv items.length (flat items) rfl ?a1 ⟨_, 0, none⟩ 1 1 [.int .i64 p, .int .i64 d] rfl rfl ?a2 ?a3 (by decide) ?a4 ?a5 ?a6 _ rfl ?a7)
                case a1 => exact hM7.want
                case a2 => exact fun j u hj => by simpa using cell_two_new (wr.setCell ⟨Lb + 1, y + d, none⟩ (.bool true)) _ _ 43 j u hj
                case a3 => intro u hu; simp at hu; rcases hu with rfl | rfl <;> rfl
                case a4 => unfold maxLen; omega
                case a5 => omega
                case a6 => have := hM7.o5; simp at this ⊢; omega
                case a7 =>
                  intro g cap w7 hown7 hgr7 hat7 hlt7
                  have R := hM7.wanted hown7 hgr7 (by simpa using hat7)
                  have T := told_set hT (y + d) hyt
                  clear hown7 hgr7 hat7 hlt7 hM7
                  go_wp2
                  exact hK _ _ _ _ _ _ _ _ _ _ _ _ _ _ _ _ _ _ _ _ _ _ _ _ _ _ _ _ _ _ _ _ _ _ _ _ _ _ _ _ _ _ _ _ _ _ _ _ _ _ _ _ _ _ _ _ _ _ (ls.set (y + d) round) (mk.set (y + d) true) (items ++ [(p, d)]) _ (by simp; omega) T R

end Go.Proofs.Ybulkcicw
