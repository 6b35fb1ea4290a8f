import Derived.Test.YbulkciigTail18
import Derived.LaidEqlPtr
namespace Go.Proofs.Ybulkciig
open Go.RowKit Go.MuLone Go.Conc.Locks
set_option linter.unusedVariables false
attribute [local go_sem ↓] look_held put_held len_held

theorem laid2 {w wr w2 : World} {M : Nat} {ps : Pairs} {c : ByteArray} {sd : Bool} {fl : Int} (hM : MB wr M ps) (hb : Below w.heap.size w wr)
    (h : (wr.alloc (.cells #[.pointer none, .map none, .map none, .slice none 0 0, .slice none 0 0, .int .i64 0, .bool false, .bool false, .int .i64 0, .int .i64 0, .int .i64 0, .int .i64 0, .int .i64 0, .int .i64 0, .int .i64 0, .int .i64 0, .string ⟨#[]⟩, .string ⟨#[]⟩, .slice none 0 0, .slice none 0 0, .slice none 0 0, .slice none 0 0, .pointer none, .string ⟨#[]⟩, .pointer none, .pointer none, .string ⟨#[]⟩, .int .u64 0, .int .i32 0, .int .u32 0, .nilIface, .map none, .bool false, .int .u64 0, .int .u32 0, .int .i32 0, .int .u32 0, .map (some M), .pointer none] 61)).alloc (.cells #[.pointer (some ⟨wr.heap.size, 0, none⟩), .int .u64 0, .int .u64 0, .pointer none, .int .u8 0, .slice none 0 0, .string c, .bool sd, .int .i64 fl] 74) = w2) :
    MB w2 M ps ∧ Below w.heap.size w w2 ∧ w2.cell? ⟨wr.heap.size, 35, none⟩ = some (.int .i32 0) ∧ w2.frozen? ⟨wr.heap.size, 35, none⟩ = false ∧ w2.cell? ⟨wr.heap.size, 37, none⟩ = some (.map (some M)) ∧
      w2.cell? ⟨wr.heap.size + 1, 0, none⟩ = some (.pointer (some ⟨wr.heap.size, 0, none⟩)) ∧ w2.cell? ⟨wr.heap.size + 1, 6, none⟩ = some (.string c) ∧ w2.frozen? ⟨wr.heap.size + 1, 6, none⟩ = false ∧
      w2.cell? ⟨wr.heap.size + 1, 7, none⟩ = some (.bool sd) ∧ w2.cell? ⟨wr.heap.size + 1, 8, none⟩ = some (.int .i64 fl) := by
  have k1 := (Blk.new wr 61 [.pointer none, .map none, .map none, .slice none 0 0, .slice none 0 0, .int .i64 0, .bool false, .bool false, .int .i64 0, .int .i64 0, .int .i64 0, .int .i64 0, .int .i64 0, .int .i64 0, .int .i64 0, .int .i64 0, .string ⟨#[]⟩, .string ⟨#[]⟩, .slice none 0 0, .slice none 0 0, .slice none 0 0, .slice none 0 0, .pointer none, .string ⟨#[]⟩, .pointer none, .pointer none, .string ⟨#[]⟩, .int .u64 0, .int .i32 0, .int .u32 0, .nilIface, .map none, .bool false, .int .u64 0, .int .u32 0, .int .i32 0, .int .u32 0, .map (some M), .pointer none]).alloc (.cells #[.pointer (some ⟨wr.heap.size, 0, none⟩), .int .u64 0, .int .u64 0, .pointer none, .int .u8 0, .slice none 0 0, .string c, .bool sd, .int .i64 fl] 74)
  have k2 := Blk.new (wr.alloc (.cells #[.pointer none, .map none, .map none, .slice none 0 0, .slice none 0 0, .int .i64 0, .bool false, .bool false, .int .i64 0, .int .i64 0, .int .i64 0, .int .i64 0, .int .i64 0, .int .i64 0, .int .i64 0, .int .i64 0, .string ⟨#[]⟩, .string ⟨#[]⟩, .slice none 0 0, .slice none 0 0, .slice none 0 0, .slice none 0 0, .pointer none, .string ⟨#[]⟩, .pointer none, .pointer none, .string ⟨#[]⟩, .int .u64 0, .int .i32 0, .int .u32 0, .nilIface, .map none, .bool false, .int .u64 0, .int .u32 0, .int .i32 0, .int .u32 0, .map (some M), .pointer none] 61)) 74 [.pointer (some ⟨wr.heap.size, 0, none⟩), .int .u64 0, .int .u64 0, .pointer none, .int .u8 0, .slice none 0 0, .string c, .bool sd, .int .i64 fl]
  have e : (wr.alloc (.cells #[.pointer none, .map none, .map none, .slice none 0 0, .slice none 0 0, .int .i64 0, .bool false, .bool false, .int .i64 0, .int .i64 0, .int .i64 0, .int .i64 0, .int .i64 0, .int .i64 0, .int .i64 0, .int .i64 0, .string ⟨#[]⟩, .string ⟨#[]⟩, .slice none 0 0, .slice none 0 0, .slice none 0 0, .slice none 0 0, .pointer none, .string ⟨#[]⟩, .pointer none, .pointer none, .string ⟨#[]⟩, .int .u64 0, .int .i32 0, .int .u32 0, .nilIface, .map none, .bool false, .int .u64 0, .int .u32 0, .int .i32 0, .int .u32 0, .map (some M), .pointer none] 61)).heap.size = wr.heap.size + 1 := by simp
  rw [e] at k2
  have hm2 := (hM.alloc (.cells #[.pointer none, .map none, .map none, .slice none 0 0, .slice none 0 0, .int .i64 0, .bool false, .bool false, .int .i64 0, .int .i64 0, .int .i64 0, .int .i64 0, .int .i64 0, .int .i64 0, .int .i64 0, .int .i64 0, .string ⟨#[]⟩, .string ⟨#[]⟩, .slice none 0 0, .slice none 0 0, .slice none 0 0, .slice none 0 0, .pointer none, .string ⟨#[]⟩, .pointer none, .pointer none, .string ⟨#[]⟩, .int .u64 0, .int .i32 0, .int .u32 0, .nilIface, .map none, .bool false, .int .u64 0, .int .u32 0, .int .i32 0, .int .u32 0, .map (some M), .pointer none] 61)).alloc (.cells #[.pointer (some ⟨wr.heap.size, 0, none⟩), .int .u64 0, .int .u64 0, .pointer none, .int .u8 0, .slice none 0 0, .string c, .bool sd, .int .i64 fl] 74)
  have hb2 := (hb.alloc hb.size (.cells #[.pointer none, .map none, .map none, .slice none 0 0, .slice none 0 0, .int .i64 0, .bool false, .bool false, .int .i64 0, .int .i64 0, .int .i64 0, .int .i64 0, .int .i64 0, .int .i64 0, .int .i64 0, .int .i64 0, .string ⟨#[]⟩, .string ⟨#[]⟩, .slice none 0 0, .slice none 0 0, .slice none 0 0, .slice none 0 0, .pointer none, .string ⟨#[]⟩, .pointer none, .pointer none, .string ⟨#[]⟩, .int .u64 0, .int .i32 0, .int .u32 0, .nilIface, .map none, .bool false, .int .u64 0, .int .u32 0, .int .i32 0, .int .u32 0, .map (some M), .pointer none] 61)).alloc (by simp; have := hb.size; omega) (.cells #[.pointer (some ⟨wr.heap.size, 0, none⟩), .int .u64 0, .int .u64 0, .pointer none, .int .u8 0, .slice none 0 0, .string c, .bool sd, .int .i64 fl] 74)
  subst h
  exact ⟨hm2, hb2, k1.cell 35, k1.frozen 35, k1.cell 37, k2.cell 0, k2.cell 6, k2.frozen 6, k2.cell 7, k2.cell 8⟩

set_option maxHeartbeats 1600000 in
set_option maxRecDepth 1000000 in
theorem tail14 (c1 c2 c7 c8 c9 c10 c11 c12 c13 c14 c16 c17 c18 c19 c20 c21 c22 c23 c24 c25 c26 c27 c28 c29 c30 c31 c32 c33 c34 c35 c36 c37 c38 c39 c40 c41 c42 c43 c44 c45 c46 c47 c48 c49 c50 c51 c52 c53 c54 c55 c56 c57 c58 c59 c60 c61 c62 c63 c64 c65 c66 c67 c68 c69 c70 c71 c72 c73 c74 c75 c76 c77 c78 c79 c80 c81 c82 c83 c84 c85 c86 c87 c88 c89 c90 c91 c92 c93 c94 c95 c96 c97 c98 c99 c100 c101 c102 c103 c104 c105 c106 c107 c108 c109 c110 c111 c112 c113 c114 c115 c116 c117 c118 c119 c120 c121 c122 c123 c124 c125 c126 c127 c128 c129 c130 c131 c132 c133 c134 c135 c136 c137 c138 c139 c140 c141 c142 c143 c144 c145 c146 c147 c148 c149 c150 c151 c152 c153 c154 c155 c156 c157 c158 c159 c160 c161 c162 c163 c164 c165 c166 c167 c168 c169 c170 c171 c172 c173 c174 c175 c176 c177 c178 c179 c180 c181 c182 c183 c184 c185 c186 c187 : Value) (a3 a4 : Option Addr) (n cc3 m cc4 M : Nat) (c : ByteArray) (f : Nat → ByteArray) (g : Nat → Int) (w wr : World) (sd : Bool) (fl : Int) (ps : Pairs) (hn : n ≤ 1024) (hm : m ≤ 1024) (h3 : Rk w a3 n f) (h4 : Rn w a4 m g) (hM : MB wr M ps) (hMw : w.heap.size ≤ M) (hl : ps.length ≤ n) (hq : ∀ k, lk ps k = get f m g k n) (hb : Below w.heap.size w wr) :
    Code.wp Yba.prog (tailAt 14 (Yba.f3.body.getD .skip)) (bodyPost Yba.prog Yba.f3 fun e w' => e = .returned (.bool true) ∧ Below w.heap.size w w') ⟨#[.string c, c1, c2, .slice a3 n cc3, .slice a4 m cc4, .bool sd, .int .i64 fl, c7, c8, c9, c10, c11, c12, c13, c14, .map (some M), c16, c17, c18, c19, c20, c21, c22, c23, c24, c25, c26, c27, c28, c29, c30, c31, c32, c33, c34, c35, c36, c37, c38, c39, c40, c41, c42, c43, c44, c45, c46, c47, c48, c49, c50, c51, c52, c53, c54, c55, c56, c57, c58, c59, c60, c61, c62, c63, c64, c65, c66, c67, c68, c69, c70, c71, c72, c73, c74, c75, c76, c77, c78, c79, c80, c81, c82, c83, c84, c85, c86, c87, c88, c89, c90, c91, c92, c93, c94, c95, c96, c97, c98, c99, c100, c101, c102, c103, c104, c105, c106, c107, c108, c109, c110, c111, c112, c113, c114, c115, c116, c117, c118, c119, c120, c121, c122, c123, c124, c125, c126, c127, c128, c129, c130, c131, c132, c133, c134, c135, c136, c137, c138, c139, c140, c141, c142, c143, c144, c145, c146, c147, c148, c149, c150, c151, c152, c153, c154, c155, c156, c157, c158, c159, c160, c161, c162, c163, c164, c165, c166, c167, c168, c169, c170, c171, c172, c173, c174, c175, c176, c177, c178, c179, c180, c181, c182, c183, c184, c185, c186, c187], []⟩ wr := by
  conv => arg 2; whnf
  have L0 := run_len hM
  simp only [len_held] at L0
  have hMlt : M < wr.heap.size := hM.lt
  have HM := hide hM
  have HB := hide hb
  have HQ := hide hq
  clear hM hb hq
  obtain ⟨l, hlen⟩ : ∃ l, ps.length = l := ⟨_, rfl⟩
  rw [hlen] at L0
  go_upto_region 17 with fail
  rename_i K1 hK1
  have HK1 := hide hK1
  clear hK1 L0
  generalize hW2 : (World.alloc (World.alloc wr _) _) = w2
  obtain ⟨g1, g2, g3, g4, g5, g6, g7, g8, g9, g10⟩ := laid2 HM.out HB.out hW2
  clear hW2
  cases hce : c.toList.isEmpty with
  | true =>
    have hc0 : c = ⟨#[]⟩ := by
      cases e : c.toList with
      | nil =>
        apply list_yes.1
        have e0 : (⟨#[]⟩ : ByteArray).toList = [] := by simp
        rw [e, e0]
        rfl
      | cons x r => rw [e] at hce; cases hce
    have g7' := g7
    rw [hc0] at g7'
    have HC := hide (end_none (wr.heap.size + 1) w2 g7')
    have HCE := hide hce
    have HC0 := hide hc0
    clear hc0 g7' hce
    go_wp2_with (go_at_call 4; refine HC.out.mono ?_; rintro e w3 ⟨rfl, rfl⟩)
    refine HK1.out _ _ (tail18 _ _ _ _ _ _ _ _ _ _ _ _ _ _ _ _ _ _ _ _ _ _ _ _ _ _ _ _ _ _ _ _ _ _ _ _ _ _ _ _ _ _ _ _ _ _ _ _ _ _ _ _ _ _ _ _ _ _ _ _ _ _ _ _ _ _ _ _ _ _ _ _ _ _ _ _ _ _ _ _ _ _ _ _ _ _ _ _ _ _ _ _ _ _ _ _ _ _ _ _ _ _ _ _ _ _ _ _ _ _ _ _ _ _ _ _ _ _ _ _ _ _ _ _ _ _ _ _ _ _ _ _ _ _ _ _ _ _ _ _ _ _ _ _ _ _ _ _ _ _ _ _ _ _ _ _ _ _ _ _ _ _ _ _ _ _ _ _ _ _ _ _ _ _ _ _ _ _ _ a3 a4 n cc3 m cc4 M c f g w _ sd fl l wr.heap.size (wr.heap.size + 1) ps hn hm h3 h4 g1 (by omega) HB.out.size (by omega) ?_ ?_ g2 g6 (by rw [← HC0.out]; exact g7) g9 g10 g3 g4)
    · rw [HCE.out, hlen]; rfl
    · intro k
      rw [HQ.out k]
      simp [want, HCE.out]
  | false =>
    have hcne : c ≠ ⟨#[]⟩ := by
      intro e
      rw [e] at hce
      simp at hce
    have HC := hide (end_some (wr.heap.size + 1) wr.heap.size M c ps w2 hcne (by omega) (by omega) (by omega) g1 g3 g4 g5 g6 g7 g8)
    have HCE := hide hce
    clear hce
    go_wp2_with (go_at_call 4; refine HC.out.mono ?_; rintro e w3 ⟨rfl, hM3, hC3, hc3, hf3, h63, ho3⟩)
    refine HK1.out _ _ (tail18 _ _ _ _ _ _ _ _ _ _ _ _ _ _ _ _ _ _ _ _ _ _ _ _ _ _ _ _ _ _ _ _ _ _ _ _ _ _ _ _ _ _ _ _ _ _ _ _ _ _ _ _ _ _ _ _ _ _ _ _ _ _ _ _ _ _ _ _ _ _ _ _ _ _ _ _ _ _ _ _ _ _ _ _ _ _ _ _ _ _ _ _ _ _ _ _ _ _ _ _ _ _ _ _ _ _ _ _ _ _ _ _ _ _ _ _ _ _ _ _ _ _ _ _ _ _ _ _ _ _ _ _ _ _ _ _ _ _ _ _ _ _ _ _ _ _ _ _ _ _ _ _ _ _ _ _ _ _ _ _ _ _ _ _ _ _ _ _ _ _ _ _ _ _ _ _ _ _ _ a3 a4 n cc3 m cc4 M c f g w _ sd fl l wr.heap.size (wr.heap.size + 1) (upd ps c (wrap64 ((lk ps c).getD 0 - 1))) hn hm h3 h4 hM3 (by omega) HB.out.size (by omega) ?_ ?_ ?_ ((ho3 0 (by omega)).trans g6) h63 ((ho3 7 (by omega)).trans g9) ((ho3 8 (by omega)).trans g10) ((hc3 35).trans g3) ((hf3 35).trans g4))
    · rw [length_upd, HQ.out c, HCE.out, hlen]
      cases (get f m g c n).isSome <;> rfl
    · intro k
      rw [lk_upd, HQ.out k, HQ.out c]
      unfold want
      rw [HCE.out, ← beq_toListBytes]
      simp
    · exact g2.trans (hC3.below (by have := HB.out.size; simp; omega) g2.size)

end Go.Proofs.Ybulkciig
