import Derived.Test.YbulkcicwRound
namespace Go.Proofs.Ybulkcicw
open Go.RowKit
set_option linter.unusedVariables false

/-- The number of a text's first region. -/
def headReg : Code → Nat
  | .region id _ _ => id
  | .seq a _ => headReg a
  | _ => 1000000
/-- What follows from region k on, in a text that is a chain of statements. -/
def tailAt (k : Nat) : Code → Code
  | .seq a b => bif headReg b == k then b else tailAt k b
  | c => c

set_option maxHeartbeats 1600000 in
set_option maxRecDepth 1000000 in
theorem tail45 (c0 c3 c4 c5 c6 c7 c8 c9 c10 c11 c12 c13 c15 c17 c21 c22 c23 c24 c25 c26 c27 c28 c29 c30 c31 c32 c33 c34 c35 c36 c37 c38 c39 c40 c41 c42 c43 c44 c45 c46 c47 c48 c49 c50 c51 c52 c53 c54 c55 c56 c57 c58 c59 c60 c61 c62 c63 c64 c65 c66 c67 c68 c69 c70 c71 c72 c73 c74 c75 c76 c77 c78 c79 c80 c81 c82 c83 c84 c85 c86 c87 c88 c89 c90 c91 c92 c93 c94 c95 c96 c97 c98 c99 c100 c101 c102 c103 c104 c105 c106 c107 c108 c109 c110 c111 c112 c113 c114 c115 c116 c117 c118 c119 c120 c121 c122 c123 c124 c125 c126 c127 c128 c129 c130 c131 c132 c133 c134 c135 c136 c137 c138 c139 c140 c141 c142 c143 c144 c145 c146 c147 c148 c149 c150 c151 c152 c153 c154 c155 c156 c157 c158 c159 c160 c161 c162 c163 c164 c165 c166 c167 c168 c169 c170 c171 c172 c173 c174 c175 c176 c177 c178 c179 c180 c181 c182 c183 c184 c185 c186 c187 c188 c189 c190 c191 c192 c193 c194 c195 c196 c197 c198 c199 c200 c201 c202 c203 c204 c205 c206 c207 c208 c209 c210 c211 c212 c213 c214 c215 c216 c217 c218 c219 c220 c221 c222 c223 c224 c225 c226 c227 c228 c229 c230 c231 c232 gv wv : Value) (a1 : Option Addr) (len1 cap1 n S Bb Lb G tot : Nat) (sz bs : List Nat) (round : Int) (z1 : List Int) (ls : List Int) (mk : List Bool) (items : List (Nat × Nat)) (w wr : World)
    (l1 : len1 ≤ maxLen) (hit : items.length ≤ 4096) (ht : tot ≤ 4096) (h1 : Rd .i64 wr a1 len1 z1) (hT : Told tot (initAt z1 len1) round ls mk) (hR : Mem w wr n S Bb Lb G (G + 1) tot sz bs round ls mk items items gv wv) :
    Code.wp Yba.prog (tailAt 45 (Yba.f3.body.getD .skip)) (bodyPost Yba.prog Yba.f3 fun e w' => e = .returned (.bool true) ∧ Below w.heap.size w w') ⟨#[c0, .slice a1 len1 cap1, .int .i64 round, c3, c4, c5, c6, c7, c8, c9, c10, c11, c12, c13, .int .i64 (tot : Nat), c15, .slice (some ⟨Lb + 1, 0, none⟩) tot tot, c17, .pointer (some ⟨G + 1, 0, none⟩), gv, wv, c21, c22, c23, c24, c25, c26, c27, c28, c29, c30, c31, c32, c33, c34, c35, c36, c37, c38, c39, c40, c41, c42, c43, c44, c45, c46, c47, c48, c49, c50, c51, c52, c53, c54, c55, c56, c57, c58, c59, c60, c61, c62, c63, c64, c65, c66, c67, c68, c69, c70, c71, c72, c73, c74, c75, c76, c77, c78, c79, c80, c81, c82, c83, c84, c85, c86, c87, c88, c89, c90, c91, c92, c93, c94, c95, c96, c97, c98, c99, c100, c101, c102, c103, c104, c105, c106, c107, c108, c109, c110, c111, c112, c113, c114, c115, c116, c117, c118, c119, c120, c121, c122, c123, c124, c125, c126, c127, c128, c129, c130, c131, c132, c133, c134, c135, c136, c137, c138, c139, c140, c141, c142, c143, c144, c145, c146, c147, c148, c149, c150, c151, c152, c153, c154, c155, c156, c157, c158, c159, c160, c161, c162, c163, c164, c165, c166, c167, c168, c169, c170, c171, c172, c173, c174, c175, c176, c177, c178, c179, c180, c181, c182, c183, c184, c185, c186, c187, c188, c189, c190, c191, c192, c193, c194, c195, c196, c197, c198, c199, c200, c201, c202, c203, c204, c205, c206, c207, c208, c209, c210, c211, c212, c213, c214, c215, c216, c217, c218, c219, c220, c221, c222, c223, c224, c225, c226, c227, c228, c229, c230, c231, c232], []⟩ wr := by
  conv => arg 2; whnf
  obtain ⟨ga, gc, hgv, hgx⟩ := owns_form hR.got
  obtain ⟨va, vc, hwv, hwx⟩ := owns_form hR.want
  subst hgv hwv
  have hnn : ((items.length : Int) != (items.length : Int)) = false := by simp
  go_wp2_with fail
  rename_i K0 hK0
  have HK0 := hide hK0
  clear hK0
  go_loopg [28] items.length (fun g v28 wx => Below wr.heap.size wr wx ∧ ∃ q : Nat, q ≤ items.length ∧ g = items.length - q ∧ v28 = .int .i64 q)
  case atStart => go_light; exact ⟨Below.refl _ _, 0, by omega, rfl, rfl⟩
  case round =>
    rename World => w0
    rename_i J6 K6 hJ6 hK6
    obtain ⟨hb, q, hq, rfl, rfl⟩ := hrel
    by_cases hlt : q < items.length
    · have hlt' : (q : Int) < (items.length : Int) := by omega
      obtain ⟨g, rfl, c1, c2⟩ := hgx q hlt
      obtain ⟨g', rfl, d1, d2⟩ := hwx q hlt
      obtain ⟨x, hx⟩ : ∃ x, items.getD q (0, 0) = x := ⟨_, rfl⟩
      rw [hx] at c1 c2 d1 d2
      obtain ⟨x1, x2⟩ := x
      clear hx
      rw [← hb.cell (p := ⟨g, q * 2, none⟩) (World.block_lt_of_cell? _ _ c1)] at c1
      rw [← hb.cell (p := ⟨g, q * 2 + 1, none⟩) (World.block_lt_of_cell? _ _ c2)] at c2
      rw [← hb.cell (p := ⟨g', q * 2, none⟩) (World.block_lt_of_cell? _ _ d1)] at d1
      rw [← hb.cell (p := ⟨g', q * 2 + 1, none⟩) (World.block_lt_of_cell? _ _ d2)] at d2
      have HB := hide hb
      clear hb hR h1 hT hgx hwx
      go_wp2
      go_quiet (fail)
      go_wp2
      go_roundg (items.length - (q + 1))
      case measure => go_light; omega
      case rel => go_light; exact ⟨below_drewN HB.out _, q + 1, by omega, rfl, by go_num⟩
    · clear hJ6 hK6 hgx hwx
      have hR7 := hR.below hb
      have h17 := h1.below hb
      clear hR h1 hb
      have c1 : w0.cell? ⟨G + 1, 1, none⟩ = some (.int .i64 round) := hR7.hc.cell 1
      have c2 : w0.cell? ⟨G + 1, 2, none⟩ = some (.slice (some ⟨Lb, 0, none⟩) tot tot) := hR7.hc.cell 2
      have hrr : (round != round) = false := by simp
      have htt : ((tot : Int) != (tot : Int)) = false := by simp
      have hK0 := HK0.out
      clear HK0
      go_wp2_with fail
      rename_i K7 hK7
      have HK7 := hide hK7
      clear hK7
      go_loopg [29] tot (fun g v29 wx => Below w0.heap.size w0 wx ∧ ∃ q : Nat, q ≤ tot ∧ g = tot - q ∧ v29 = .int .i64 q)
      case atStart => go_light; exact ⟨Below.refl _ _, 0, by omega, rfl, rfl⟩
      case round =>
        rename World => w1
        rename_i J8 K8 hJ8 hK8
        obtain ⟨hb, q', hq', rfl, rfl⟩ := hrel
        clear c1 c2
        have hR8 := hR7.below hb
        have h18 := h17.below hb
        clear hR7 h17
        by_cases hlt2 : q' < tot
        · have hlt2' : (q' : Int) < (tot : Int) := by omega
          have hT3 := hT.2.2 q' hlt2
          have c2 : w1.cell? ⟨G + 1, 2, none⟩ = some (.slice (some ⟨Lb, 0, none⟩) tot tot) := hR8.hc.cell 2
          have c3 := IB.cell hR8.hl q' (by rw [hT.1]; exact hlt2)
          have c4' := BB.cell hR8.hm q' (by rw [hT.2.1]; exact hlt2)
          obtain ⟨m, hm⟩ : ∃ m, mk.getD q' false = m := ⟨_, rfl⟩
          rw [hm] at c4' hT3
          have HB := hide hb
          clear hm hb
          cases m with
          | true =>
            rw [hT3.1 rfl] at c3
            clear hT3 hR8 hT
            go_wp2
            go_roundg (tot - (q' + 1))
            case measure => go_light; omega
            case rel => go_light; exact ⟨HB.out, q' + 1, by omega, rfl, by go_num⟩
          | false =>
            rw [(hT3.2 rfl).1] at c3
            have hii : (initAt z1 len1 q' != initAt z1 len1 q') = false := by simp
            clear hT3 hR8 hT
            go_wp2
            go_quiet ((go_at_call 4; exact Calls.quiet_of_same (init_any a1 len1 cap1 q' z1 _ h18 l1 (by unfold maxLen; omega))))
            go_wp2
            go_roundg (tot - (q' + 1))
            case measure => go_light; omega
            case rel => go_light; exact ⟨below_drewN HB.out _, q' + 1, by omega, rfl, by go_num⟩
        · clear hJ8 hK8
          have hK7 := HK7.out
          clear HK7
          go_wp2
          go_ret
          exact ⟨rfl, hR8.based.1.1⟩

end Go.Proofs.Ybulkcicw
