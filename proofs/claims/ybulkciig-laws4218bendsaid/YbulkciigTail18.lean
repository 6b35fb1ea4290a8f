import Derived.Test.YbulkciigTail29
import Derived.LaidEqlPtr
namespace Go.Proofs.Ybulkciig
open Go.RowKit Go.MuLone Go.Conc.Locks
set_option linter.unusedVariables false
attribute [local go_sem ↓] look_held put_held len_held

theorem run_neq_same (a : Addr) (w : World) : (binOp .neq 25 (.pointer (some a)) (.pointer (some a))).run Yba.prog w = .ok (.bool false) w := by
  obtain ⟨j, hj⟩ : ∃ j, Yba.prog.info? 61 = some j := Option.isSome_iff_exists.1 (by kernel_rfl)
  have h : ∀ d : Nat, (Op.equalIn (d + 1) 25 (.pointer (some a)) (.pointer (some a))).run Yba.prog w = .ok true w := fun d => by
    simp [Op.equalIn, run_underlying Yba.underlying25, sizeOf, typeInfo, hj, run_sameAddr_same]
  simp only [binOp]
  simp [Op.equal, Op.maxDepth, h 9999]

set_option maxHeartbeats 1600000 in
set_option maxRecDepth 1000000 in
theorem tail18 (c1 c2 c7 c8 c9 c10 c11 c12 c13 c14 c16 c17 c18 c22 c23 c24 c25 c26 c27 c28 c29 c30 c31 c32 c33 c34 c35 c36 c37 c38 c39 c40 c41 c42 c43 c44 c45 c46 c47 c48 c49 c50 c51 c52 c53 c54 c55 c56 c57 c58 c59 c60 c61 c62 c63 c64 c65 c66 c67 c68 c69 c70 c71 c72 c73 c74 c75 c76 c77 c78 c79 c80 c81 c82 c83 c84 c85 c86 c87 c88 c89 c90 c91 c92 c93 c94 c95 c96 c97 c98 c99 c100 c101 c102 c103 c104 c105 c106 c107 c108 c109 c110 c111 c112 c113 c114 c115 c116 c117 c118 c119 c120 c121 c122 c123 c124 c125 c126 c127 c128 c129 c130 c131 c132 c133 c134 c135 c136 c137 c138 c139 c140 c141 c142 c143 c144 c145 c146 c147 c148 c149 c150 c151 c152 c153 c154 c155 c156 c157 c158 c159 c160 c161 c162 c163 c164 c165 c166 c167 c168 c169 c170 c171 c172 c173 c174 c175 c176 c177 c178 c179 c180 c181 c182 c183 c184 c185 c186 c187 : Value) (a3 a4 : Option Addr) (n cc3 m cc4 M : Nat) (c : ByteArray) (f : Nat → ByteArray) (g : Nat → Int) (w wr : World) (sd : Bool) (fl : Int) (l B S : Nat) (qs : Pairs) (hn : n ≤ 1024) (hm : m ≤ 1024) (h3 : Rk w a3 n f) (h4 : Rn w a4 m g) (hM : MB wr M qs) (hMB : M ≠ B) (hBw : w.heap.size ≤ B) (hl : l ≤ 1024)
    (hlen : qs.length = if (!c.toList.isEmpty && !(get f m g c n).isSome) then l + 1 else l) (hq : ∀ k, lk qs k = want c (fun k => get f m g k n) k) (hb : Below w.heap.size w wr)
    (s0 : wr.cell? ⟨S, 0, none⟩ = some (.pointer (some ⟨B, 0, none⟩))) (s6 : wr.cell? ⟨S, 6, none⟩ = some (.string ⟨#[]⟩)) (s7 : wr.cell? ⟨S, 7, none⟩ = some (.bool sd)) (s8 : wr.cell? ⟨S, 8, none⟩ = some (.int .i64 fl))
    (b35 : wr.cell? ⟨B, 35, none⟩ = some (.int .i32 0)) (z35 : wr.frozen? ⟨B, 35, none⟩ = false) :
    Code.wp Yba.prog (tailAt 18 (Yba.f3.body.getD .skip)) (bodyPost Yba.prog Yba.f3 fun e w' => e = .returned (.bool true) ∧ Below w.heap.size w w') ⟨#[.string c, c1, c2, .slice a3 n cc3, .slice a4 m cc4, .bool sd, .int .i64 fl, c7, c8, c9, c10, c11, c12, c13, c14, .map (some M), c16, c17, c18, .int .i64 (l : Nat), .pointer (some ⟨B, 0, none⟩), .pointer (some ⟨S, 0, none⟩), c22, c23, c24, c25, c26, c27, c28, c29, c30, c31, c32, c33, c34, c35, c36, c37, c38, c39, c40, c41, c42, c43, c44, c45, c46, c47, c48, c49, c50, c51, c52, c53, c54, c55, c56, c57, c58, c59, c60, c61, c62, c63, c64, c65, c66, c67, c68, c69, c70, c71, c72, c73, c74, c75, c76, c77, c78, c79, c80, c81, c82, c83, c84, c85, c86, c87, c88, c89, c90, c91, c92, c93, c94, c95, c96, c97, c98, c99, c100, c101, c102, c103, c104, c105, c106, c107, c108, c109, c110, c111, c112, c113, c114, c115, c116, c117, c118, c119, c120, c121, c122, c123, c124, c125, c126, c127, c128, c129, c130, c131, c132, c133, c134, c135, c136, c137, c138, c139, c140, c141, c142, c143, c144, c145, c146, c147, c148, c149, c150, c151, c152, c153, c154, c155, c156, c157, c158, c159, c160, c161, c162, c163, c164, c165, c166, c167, c168, c169, c170, c171, c172, c173, c174, c175, c176, c177, c178, c179, c180, c181, c182, c183, c184, c185, c186, c187], []⟩ wr := by
  conv => arg 2; whnf
  have hptr := run_neq_same ⟨B, 0, none⟩
  have hsd : (sd != sd) = false := by simp
  have hfl : (fl != fl) = false := by simp
  have c1 : (wr.setCell ⟨B, 35, none⟩ (.int .i32 1)).cell? ⟨B, 35, none⟩ = some (.int .i32 1) := World.cell?_setCell_same wr ⟨B, 35, none⟩ (.int .i32 1) b35
  have f1 : (wr.setCell ⟨B, 35, none⟩ (.int .i32 1)).frozen? ⟨B, 35, none⟩ = false := by simp [z35]
  have hb2 : Below w.heap.size w ((wr.setCell ⟨B, 35, none⟩ (.int .i32 1)).setCell ⟨B, 35, none⟩ (.int .i32 0)) := (hb.setCell hBw _).setCell hBw _
  have hM2 : MB ((wr.setCell ⟨B, 35, none⟩ (.int .i32 1)).setCell ⟨B, 35, none⟩ (.int .i32 0)) M qs := (hM.setCell hMB _ _).setCell hMB _ _
  have T1 := hide (try5 ⟨B, 35, none⟩ wr b35 z35)
  have T2 := hide (unlock_held Yba.muLib ⟨B, 35, none⟩ _ c1 f1)
  have HB := hide hb2
  have HM := hide hM2
  have HQ := hide hq
  have HL := hide hlen
  have H3 := hide (h3.below hb2)
  have H4 := hide (h4.below hb2)
  clear c1 f1 hb2 hM2 b35 z35 hb hM hq hlen h3 h4
  go_wp2_with (go_at_call 5; refine T1.out.mono ?_; rintro e w3 ⟨rfl, rfl⟩)
  go_at_call 6
  refine T2.out.mono ?_
  rintro e w4 ⟨rfl, hw4⟩
  rw [← hw4] at HB HM H3 H4
  clear hw4 T1 T2
  have G7 := hide (get7 a3 a4 n cc3 m cc4 c f g w4 hn hm H3.out H4.out)
  obtain ⟨o, ho⟩ : ∃ o, get f m g c n = o := ⟨_, rfl⟩
  have hl2 := HL.out
  rw [ho] at G7 hl2
  have L := run_len HM.out
  simp only [len_held] at L
  cases hce : c.toList.isEmpty with
  | true =>
    have hlq : qs.length = l := by rw [hl2, hce]; rfl
    rw [hlq] at L
    have hll : ((l : Int) != (l : Int)) = false := by simp
    clear ho hl2 HL hlq
    go_upto_if 143 with (go_at_call 7; refine G7.out.mono ?_; rintro e w5 ⟨rfl, rfl⟩)
    rename_i K1 hK1
    have HK1 := hide hK1
    clear hK1 G7
    go_wp2
    exact HK1.out _ _ (tail29 _ _ _ _ _ _ _ _ _ _ _ _ _ _ _ _ _ _ _ _ _ _ _ _ _ _ _ _ _ _ _ _ _ _ _ _ _ _ _ _ _ _ _ _ _ _ _ _ _ _ _ _ _ _ _ _ _ _ _ _ _ _ _ _ _ _ _ _ _ _ _ _ _ _ _ _ _ _ _ _ _ _ _ _ _ _ _ _ _ _ _ _ _ _ _ _ _ _ _ _ _ _ _ _ _ _ _ _ _ _ _ _ _ _ _ _ _ _ _ _ _ _ _ _ _ _ _ _ _ _ _ _ _ _ _ _ _ _ _ _ _ _ _ _ _ _ _ _ _ _ _ _ _ _ _ _ _ _ _ _ _ _ _ _ _ _ _ _ _ _ _ _ _ _ _ _ _ _ _ _ _ _ _ _ a3 a4 n cc3 m cc4 M c f g w _ qs hn hm H3.out H4.out HM.out HQ.out HB.out)
  | false =>
    cases hos : o.isSome with
    | true =>
      have hlq : qs.length = l := by rw [hl2, hce, hos]; rfl
      rw [hlq] at L
      rw [hos] at G7
      have hll : ((l : Int) != (l : Int)) = false := by simp
      clear ho hl2 HL hlq
      go_upto_if 143 with (go_at_call 7; refine G7.out.mono ?_; rintro e w5 ⟨rfl, rfl⟩)
      rename_i K1 hK1
      have HK1 := hide hK1
      clear hK1 G7
      go_wp2
      exact HK1.out _ _ (tail29 _ _ _ _ _ _ _ _ _ _ _ _ _ _ _ _ _ _ _ _ _ _ _ _ _ _ _ _ _ _ _ _ _ _ _ _ _ _ _ _ _ _ _ _ _ _ _ _ _ _ _ _ _ _ _ _ _ _ _ _ _ _ _ _ _ _ _ _ _ _ _ _ _ _ _ _ _ _ _ _ _ _ _ _ _ _ _ _ _ _ _ _ _ _ _ _ _ _ _ _ _ _ _ _ _ _ _ _ _ _ _ _ _ _ _ _ _ _ _ _ _ _ _ _ _ _ _ _ _ _ _ _ _ _ _ _ _ _ _ _ _ _ _ _ _ _ _ _ _ _ _ _ _ _ _ _ _ _ _ _ _ _ _ _ _ _ _ _ _ _ _ _ _ _ _ _ _ _ _ _ _ _ _ _ a3 a4 n cc3 m cc4 M c f g w _ qs hn hm H3.out H4.out HM.out HQ.out HB.out)
    | false =>
      have hlq : qs.length = l + 1 := by rw [hl2, hce, hos]; rfl
      rw [hlq] at L
      rw [hos] at G7
      rw [show ((l + 1 : Nat) : Int) = (l : Int) + 1 by omega] at L
      have hll : ((l : Int) + 1 != (l : Int) + 1) = false := by simp
      clear ho hl2 HL hlq
      go_upto_if 143 with (go_at_call 7; refine G7.out.mono ?_; rintro e w5 ⟨rfl, rfl⟩)
      rename_i K1 hK1
      have HK1 := hide hK1
      clear hK1 G7
      go_wp2
      exact HK1.out _ _ (tail29 _ _ _ _ _ _ _ _ _ _ _ _ _ _ _ _ _ _ _ _ _ _ _ _ _ _ _ _ _ _ _ _ _ _ _ _ _ _ _ _ _ _ _ _ _ _ _ _ _ _ _ _ _ _ _ _ _ _ _ _ _ _ _ _ _ _ _ _ _ _ _ _ _ _ _ _ _ _ _ _ _ _ _ _ _ _ _ _ _ _ _ _ _ _ _ _ _ _ _ _ _ _ _ _ _ _ _ _ _ _ _ _ _ _ _ _ _ _ _ _ _ _ _ _ _ _ _ _ _ _ _ _ _ _ _ _ _ _ _ _ _ _ _ _ _ _ _ _ _ _ _ _ _ _ _ _ _ _ _ _ _ _ _ _ _ _ _ _ _ _ _ _ _ _ _ _ _ _ _ _ _ _ _ _ a3 a4 n cc3 m cc4 M c f g w _ qs hn hm H3.out H4.out HM.out HQ.out HB.out)

end Go.Proofs.Ybulkciig
