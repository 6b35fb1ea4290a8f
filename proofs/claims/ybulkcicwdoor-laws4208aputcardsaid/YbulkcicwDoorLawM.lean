import Derived.Test.YbulkcicwDoorPlain
import Derived.Lib.SliceRun
namespace Go.Proofs.YbulkcicwDoor
open Go.RowKit
set_option linter.unusedVariables false
attribute [local go_sem ↓] copy_held

def casts (ws : List Nat) : List Int := ws.map fun x : Nat => (x : Int)
theorem casts_at (ws : List Nat) (i : Nat) : (casts ws).getD i 0 = ((ws[i]?.getD 0 : Nat) : Int) := by
  unfold casts
  by_cases h : i < ws.length <;> simp [h]

/-- t holds ws; the columns are laid. -/
def Cols (w wr : World) (T Kb n : Nat) (ws : List Nat) : Prop :=
  Below w.heap.size w wr ∧ w.heap.size ≤ T ∧ T < Kb ∧ KB .u64 28 wr T (casts ws) ∧ ∃ cl, KB .i32 26 wr Kb cl ∧ cl.length = n

theorem Cols.put {w wr : World} {T Kb n : Nat} {ws : List Nat} (h : Cols w wr T Kb n ws) (i : Nat) (x : Int) : Cols w (wr.setCell ⟨Kb, i, none⟩ (.int .i32 x)) T Kb n ws := by
  obtain ⟨h1, h2, h3, h4, cl, h5, h6⟩ := h
  exact ⟨h1.setCell (by show w.heap.size ≤ Kb; omega) _, h2, h3, Blk.other h4 (by omega) _ _, cl.set i x, h5.put _ _, by simpa using h6⟩


/-- t holds ws; the columns are cl. -/
structure Base (w wr : World) (T Kb n : Nat) (ws : List Nat) (cl : List Int) : Prop where
  below : Below w.heap.size w wr
  o1 : w.heap.size ≤ T
  o2 : T < Kb
  hT : KB .u64 28 wr T (casts ws)
  hK : KB .i32 26 wr Kb cl
  hn : cl.length = n

/-- A slice of the call's own that owns the symbols of these columns; nil just where there is none. -/
structure Owned (wr : World) (base : Nat) (v : Value) (cl : List Int) (cs : List Nat) : Prop where
  own : wr.ownsRow base 26 1 v cs.length (cs.map fun c => .int .i32 (cl.getD c 0))
  isnil : v = .slice none 0 0 ↔ cs = []

theorem Base.chg {w wr wx : World} {T Kb n : Nat} {ws : List Nat} {cl : List Int} {S : List Nat} (h : Base w wr T Kb n ws cl) (hc : Chg S wr wx) (hS : ∀ s ∈ S, Kb < s) : Base w wx T Kb n ws cl := by
  have o1 := h.o1
  have o2 := h.o2
  exact ⟨h.below.trans (hc.below (fun s hs => by have := hS s hs; omega) h.below.size), o1, o2, Blk.chg h.hT hc (fun hm => by have := hS _ hm; omega), Blk.chg h.hK hc (fun hm => by have := hS _ hm; omega), h.hn⟩
theorem Owned.chg {wr wx : World} {base : Nat} {v : Value} {cl : List Int} {cs : List Nat} {S : List Nat} (h : Owned wr base v cl cs) (hc : Chg S wr wx) (hS : ∀ k, v.ownBlock = some k → k ∉ S) : Owned wx base v cl cs :=
  ⟨owns_chg h.own hc hS, h.isnil⟩


/-- The columns of the first i words, and of word i those below j. -/
def colsTo (ws : List Nat) (i j : Nat) : List Nat := cols ws i ++ ((List.range j).filter fun b => (ws[i]?.getD 0).testBit b).map (i * 64 + ·)
theorem colsTo_zero (ws : List Nat) (i : Nat) : colsTo ws i 0 = cols ws i := by simp [colsTo]
theorem colsTo_full (ws : List Nat) (i : Nat) : colsTo ws i 64 = cols ws (i + 1) := by rw [cols_succ]; rfl
theorem colsTo_yes (ws : List Nat) (i j : Nat) (h : (ws[i]?.getD 0).testBit j = true) : colsTo ws i (j + 1) = colsTo ws i j ++ [i * 64 + j] := by
  simp [colsTo, List.range_succ, h]
theorem colsTo_no (ws : List Nat) (i j : Nat) (h : (ws[i]?.getD 0).testBit j = false) : colsTo ws i (j + 1) = colsTo ws i j := by
  simp [colsTo, List.range_succ, h]
theorem colsTo_len (ws : List Nat) (i j : Nat) : (colsTo ws i j).length ≤ 64 * i + j := by
  have h1 := cols_len ws i
  have h2 := List.length_filter_le (fun b => (ws[i]?.getD 0).testBit b) (List.range j)
  simp [colsTo] at h2 ⊢
  omega

/-- While want is being gathered. -/
structure St (w wx : World) (T Kb n : Nat) (ws : List Nat) (cl : List Int) (base : Nat) (gv wv : Value) (gs cs : List Nat) : Prop where
  b : Base w wx T Kb n ws cl
  g : Owned wx base gv cl gs
  v : Owned wx base wv cl cs
  apart : ∀ k, gv.ownBlock = some k → wv.ownBlock ≠ some k
  o1 : Kb < base
  o2 : base ≤ wx.heap.size

theorem St.below {w wx wy : World} {T Kb n : Nat} {ws : List Nat} {cl : List Int} {base : Nat} {gv wv : Value} {gs cs : List Nat} (h : St w wx T Kb n ws cl base gv wv gs cs) (hb : Below wx.heap.size wx wy) : St w wy T Kb n ws cl base gv wv gs cs :=
  have c : Chg [] wx wy := Chg.ofBelow hb
  ⟨h.b.chg c (by simp), h.g.chg c (by simp), h.v.chg c (by simp), h.apart, h.o1, Nat.le_trans h.o2 hb.size⟩

theorem St.append {w wx wy : World} {T Kb n : Nat} {ws : List Nat} {cl : List Int} {base : Nat} {gv wv : Value} {gs cs : List Nat} (h : St w wx T Kb n ws cl base gv wv gs cs) {g cap c : Nat} {o : Obj}
    (ho : wy.ownsRow base 26 1 (.slice (some ⟨g, 0, none⟩) (cs.length + 1) cap) (cs.length + 1) ((cs.map fun c => .int .i32 (cl.getD c 0)) ++ [.int .i32 (cl.getD c 0)]))
    (hgr : (wx.alloc o).grownBy wy wv.ownBlock) (hat : wv.ownBlock = some g ∨ g = wx.heap.size + 1) : St w wy T Kb n ws cl base gv (.slice (some ⟨g, 0, none⟩) (cs.length + 1) cap) gs (cs ++ [c]) := by
  have c1 : Chg wv.ownBlock.toList wx wy := (Chg.ofBelow ((Below.refl _ wx).alloc (Nat.le_refl _) o)).trans (chg_grown hgr (fun k hk _ => by simp [hk]))
  have hT : ∀ t ∈ wv.ownBlock.toList, base ≤ t := by
    intro t ht
    simp at ht
    exact (h.v.own.lt t ht).1
  refine ⟨h.b.chg c1 (fun s hs => by have := hT s hs; have := h.o1; omega), h.g.chg c1 (fun k hk hm => ?_), ⟨by simpa using ho, by simp⟩, fun k hk => ?_, h.o1, Nat.le_trans h.o2 c1.size⟩
  · simp at hm
    exact h.apart k hk hm
  · simp only [Value.ownBlock, ne_eq, Option.some.injEq]
    intro e
    subst e
    rcases hat with ha | ha
    · exact h.apart _ hk ha
    · have := (h.g.own.lt _ hk).2
      omega

theorem members_any (tb toff tl tc cb coff M cc : Nat) (ws : List Nat) (col : Nat → Int) (hws : ∀ i : Nat, ws[i]?.getD 0 < 18446744073709551616) (htl : tl ≤ 1024) (hM : 64 * tl ≤ M) (hM2 : M ≤ 100000) (w : World)
    (hb : tb < w.heap.size) (hcb : cb < w.heap.size) (hc : ∀ j, j < tl → w.cell? ⟨tb, toff + j, none⟩ = some (.int .u64 ((ws[j]?.getD 0 : Nat) : Int))) (hcol : ∀ c, c < M → w.cell? ⟨cb, coff + c, none⟩ = some (.int .i32 (col c))) (hT : Tab w) :
    Calls Ybad.prog 5 #[.slice (some ⟨tb, toff, none⟩) tl tc, .slice (some ⟨cb, coff, none⟩) M cc] w fun e W' => ∃ v, e = .returned v ∧ W'.ownsRow w.heap.size 26 1 v (cols ws tl).length ((cols ws tl).map fun c => .int .i32 (col c)) ∧ (v = .slice none 0 0 ↔ cols ws tl = []) ∧ Below w.heap.size w W' :=
  callsIn_wide.1 (members_in 3 (by omega) tb toff tl tc cb coff M cc ws col hws htl hM hM2 w hb hcb hc hcol hT)

theorem Tab.pos {w : World} (h : Tab w) : 0 < w.heap.size := World.block_lt_of_cell? w ⟨0, 0, none⟩ (h 0 (by omega))


theorem bit_test (x j : Nat) (hx : x < 18446744073709551616) : (bits BinOp.and IntKind.u64 ((x : Int) / 2 ^ j) 1 == 1) = x.testBit j := by
  have e1 : ((x : Int) / 2 ^ j) = ((x / 2 ^ j : Nat) : Int) := by rw [Int.natCast_ediv, Int.natCast_pow]; rfl
  have hlt : x / 2 ^ j < 18446744073709551616 := Nat.lt_of_le_of_lt (Nat.div_le_self _ _) hx
  have e2 := bits_and_u64_nat (x / 2 ^ j) 1 hlt (by omega)
  rw [e1, show ((1 : Int)) = ((1 : Nat) : Int) from rfl, e2, Nat.and_one_is_mod, Nat.testBit_eq_decide_div_mod_eq]
  by_cases h : x / 2 ^ j % 2 = 1
  · rw [h]; simp
  · have h0 : x / 2 ^ j % 2 = 0 := by omega
    rw [h0]; simp

set_option maxHeartbeats 1600000 in
set_option maxRecDepth 1000000 in
theorem mtail35 (c1 c2 c3 c4 c6 c7 c8 c9 c10 c11 c12 c13 c14 c15 c16 c17 c18 c19 c20 c21 c22 c23 c24 c25 c26 c27 c28 c29 c30 c31 c32 c33 c34 c35 c36 c37 c38 c39 c40 c41 c42 c43 c44 c45 c46 c47 c48 c49 c50 c51 c52 c53 c54 c55 c56 c57 c58 c59 c60 c61 c62 c63 c64 c65 c66 c67 c68 c69 c70 c71 c72 c73 c74 c75 c76 c77 c78 c79 c80 c81 c82 c83 c84 c85 c86 c87 c88 c89 c90 c91 c92 c93 c94 c95 c96 c97 c98 c99 c100 c101 c102 c103 c104 c105 c106 c107 c108 c109 c110 c111 c112 c113 c114 c115 c116 c117 c118 c119 c120 c121 c122 c123 c124 c125 c126 c127 c128 c129 c130 c131 c132 c133 : Value) (a0 : Option Addr) (len0 cap0 T Kb n : Nat) (ws : List Nat) (w wr : World) (cl : List Int) (h0 : Rd .u64 w a0 len0 (casts ws)) (hlen : ws.length = len0) (hws : ∀ i : Nat, ws[i]?.getD 0 < 18446744073709551616) (hT : Tab w) (l0 : len0 ≤ 1024) (hC : Base w wr T Kb n ws cl) :
    Code.wp Ybad.prog (tailAt 35 (Ybad.f3.body.getD .skip)) (bodyPost Ybad.prog Ybad.f3 fun e w' => e = .returned (.bool true) ∧ Below w.heap.size w w') ⟨#[.slice a0 len0 cap0, c1, c2, c3, c4, .slice (some ⟨T, 0, none⟩) len0 len0, c6, c7, c8, c9, c10, c11, c12, c13, c14, c15, c16, c17, c18, c19, c20, c21, c22, c23, c24, c25, c26, c27, c28, c29, c30, c31, c32, c33, c34, c35, c36, c37, c38, c39, c40, c41, c42, c43, c44, c45, c46, c47, c48, c49, c50, c51, c52, c53, c54, c55, c56, c57, c58, c59, c60, c61, c62, c63, c64, c65, c66, c67, c68, c69, c70, c71, c72, c73, c74, c75, c76, c77, c78, c79, c80, c81, c82, c83, c84, c85, c86, c87, c88, c89, c90, c91, c92, c93, c94, c95, c96, c97, c98, c99, c100, c101, c102, c103, c104, c105, c106, c107, c108, c109, c110, c111, c112, c113, c114, c115, c116, c117, c118, c119, c120, c121, c122, c123, c124, c125, c126, c127, c128, c129, c130, c131, c132, c133], []⟩ wr := by
  conv => arg 2; whnf
  go_wp2_with fail
  rename_i K0 hK0
  have HK0 := hide hK0
  clear hK0
  go_loopg [17] len0 (fun g v17 wx => Below wr.heap.size wr wx ∧ ∃ i : Nat, i ≤ len0 ∧ g = len0 - i ∧ v17 = .int .i64 i)
  case atStart => go_light; exact ⟨Below.refl _ _, 0, by omega, rfl, rfl⟩
  case round =>
    rename World => w2
    rename_i J2 K2 hJ2 hK2
    obtain ⟨hb, i, hi, rfl, rfl⟩ := hrel
    have hC2 := hC.chg (Chg.ofBelow (S := []) hb) (by simp)
    by_cases hlt : i < len0
    · have hlt' : (i : Int) < (len0 : Int) := by omega
      rcases h0 with h0 | ⟨b, off, rfl, hb0, hc⟩
      · omega
      have e1 : w2.cell? ⟨b, off + i, none⟩ = some (.int .u64 ((ws[i]?.getD 0 : Nat) : Int)) := by rw [hC2.below.cell (p := ⟨b, off + i, none⟩) hb0, hc i hlt, casts_at]
      have e2 := hC2.hT.cell i (by simp [casts]; omega)
      rw [casts_at] at e2
      obtain ⟨x, hx⟩ : ∃ x, ws[i]?.getD 0 = x := ⟨_, rfl⟩
      rw [hx] at e1 e2
      have hxx : ((x : Int) != (x : Int)) = false := by simp
      have HB := hide hb
      clear hb hC hx hC2 hc
      go_wp2
      go_quiet (fail)
      go_wp2
      go_roundg (len0 - (i + 1))
      case measure => go_light; omega
      case rel => go_light; exact ⟨below_drewN HB.out _, i + 1, by omega, rfl, by go_num⟩
    · clear hJ2 hK2
      have hK0 := HK0.out
      clear HK0
      go_wp2
      go_ret
      exact ⟨rfl, hC2.below⟩

set_option maxHeartbeats 1600000 in
set_option maxRecDepth 1000000 in
theorem mtail26 (c1 c2 c3 c4 c6 c8 c9 c10 c13 c14 c15 c16 c17 c18 c19 c20 c21 c22 c23 c24 c25 c26 c27 c28 c29 c30 c31 c32 c33 c34 c35 c36 c37 c38 c39 c40 c41 c42 c43 c44 c45 c46 c47 c48 c49 c50 c51 c52 c53 c54 c55 c56 c57 c58 c59 c60 c61 c62 c63 c64 c65 c66 c67 c68 c69 c70 c71 c72 c73 c74 c75 c76 c77 c78 c79 c80 c81 c82 c83 c84 c85 c86 c87 c88 c89 c90 c91 c92 c93 c94 c95 c96 c97 c98 c99 c100 c101 c102 c103 c104 c105 c106 c107 c108 c109 c110 c111 c112 c113 c114 c115 c116 c117 c118 c119 c120 c121 c122 c123 c124 c125 c126 c127 c128 c129 c130 c131 c132 c133 gv wv : Value) (a0 : Option Addr) (len0 cap0 T Kb base : Nat) (ws : List Nat) (w wr : World) (cl : List Int) (h0 : Rd .u64 w a0 len0 (casts ws)) (hlen : ws.length = len0) (hws : ∀ i : Nat, ws[i]?.getD 0 < 18446744073709551616) (hT : Tab w) (l0 : len0 ≤ 1024) (hC : Base w wr T Kb (len0 * 64) ws cl) (hG : Owned wr base gv cl (cols ws len0)) (hW : Owned wr base wv cl (cols ws len0)) :
    Code.wp Ybad.prog (tailAt 26 (Ybad.f3.body.getD .skip)) (bodyPost Ybad.prog Ybad.f3 fun e w' => e = .returned (.bool true) ∧ Below w.heap.size w w') ⟨#[.slice a0 len0 cap0, c1, c2, c3, c4, .slice (some ⟨T, 0, none⟩) len0 len0, c6, .slice (some ⟨Kb, 0, none⟩) (len0 * 64) (len0 * 64), c8, c9, c10, gv, wv, c13, c14, c15, c16, c17, c18, c19, c20, c21, c22, c23, c24, c25, c26, c27, c28, c29, c30, c31, c32, c33, c34, c35, c36, c37, c38, c39, c40, c41, c42, c43, c44, c45, c46, c47, c48, c49, c50, c51, c52, c53, c54, c55, c56, c57, c58, c59, c60, c61, c62, c63, c64, c65, c66, c67, c68, c69, c70, c71, c72, c73, c74, c75, c76, c77, c78, c79, c80, c81, c82, c83, c84, c85, c86, c87, c88, c89, c90, c91, c92, c93, c94, c95, c96, c97, c98, c99, c100, c101, c102, c103, c104, c105, c106, c107, c108, c109, c110, c111, c112, c113, c114, c115, c116, c117, c118, c119, c120, c121, c122, c123, c124, c125, c126, c127, c128, c129, c130, c131, c132, c133], []⟩ wr := by
  conv => arg 2; whnf
  have hl := cols_len ws len0
  have heq : ∀ a n c w', (binOp .eql 25 (.slice a n c) (.slice none 0 0)).run Ybad.prog w' = .ok (.bool a.isNone) w' := fun a n c w' => Lib.run_eql_slice_nil w' 25 26 a n c 0 0 Ybad.underlying25
  have form : ∀ v, Owned wr base v cl (cols ws len0) → (cols ws len0 = [] ∧ v = .slice none 0 0) ∨ (cols ws len0 ≠ [] ∧ ∃ g cap, v = .slice (some ⟨g, 0, none⟩) (cols ws len0).length cap ∧ ∀ i, i < (cols ws len0).length → wr.cell? ⟨g, i, none⟩ = some (.int .i32 (cl.getD ((cols ws len0).getD i 0) 0))) := by
    intro v hv
    by_cases hnil : cols ws len0 = []
    · exact .inl ⟨hnil, hv.isnil.2 hnil⟩
    · refine .inr ⟨hnil, ?_⟩
      rcases hv.own.2 with ⟨h1, h2⟩ | ⟨g, cap, cur, rfl, _⟩
      · exact absurd (hv.isnil.1 h1) hnil
      · refine ⟨g, cap, rfl, fun i hi => ?_⟩
        rw [hv.own.cellAt i (by omega)]
        simp [hi]
  rcases form gv hG with ⟨hn1, rfl⟩ | ⟨hn1, g, gc, rfl, hg⟩
  · rcases form wv hW with ⟨_, rfl⟩ | ⟨hn2, _⟩
    · clear form hG hW
      go_wp2_with fail
      rename_i K0 hK0
      have HK0 := hide hK0
      clear hK0 heq
      go_loopg [16] 0 (fun g v16 wx => Below wr.heap.size wr wx ∧ v16 = .int .i64 0)
      case atStart => go_light; exact ⟨Below.refl _ _, rfl⟩
      case round =>
        rename World => w2
        rename_i J2 K2 hJ2 hK2
        obtain ⟨hb, rfl⟩ := hrel
        clear hJ2 hK2
        go_wp2
        exact HK0.out _ _ (mtail35 _ _ _ _ _ _ _ _ _ _ _ _ _ _ _ _ _ _ _ _ _ _ _ _ _ _ _ _ _ _ _ _ _ _ _ _ _ _ _ _ _ _ _ _ _ _ _ _ _ _ _ _ _ _ _ _ _ _ _ _ _ _ _ _ _ _ _ _ _ _ _ _ _ _ _ _ _ _ _ _ _ _ _ _ _ _ _ _ _ _ _ _ _ _ _ _ _ _ _ _ _ _ _ _ _ _ _ _ _ _ _ _ _ _ _ _ _ _ _ _ _ _ _ _ _ _ _ _ _ _ _ _ a0 len0 cap0 T Kb _ ws w w2 cl h0 hlen hws hT l0 (hC.chg (Chg.ofBelow (S := []) hb) (by simp)))
    · exact absurd hn1 hn2
  · rcases form wv hW with ⟨hn2, _⟩ | ⟨_, g', wc, rfl, hw⟩
    · exact absurd hn2 hn1
    · clear form hG hW
      obtain ⟨m, hm⟩ : ∃ m, (cols ws len0).length = m := ⟨_, rfl⟩
      rw [hm] at hg hw hl ⊢
      clear hm hn1
      have hmm : ((m : Int) != (m : Int)) = false := by simp
      go_wp2_with fail
      rename_i K0 hK0
      have HK0 := hide hK0
      clear hK0 heq
      go_loopg [16] m (fun g v16 wx => Below wr.heap.size wr wx ∧ ∃ i : Nat, i ≤ m ∧ g = m - i ∧ v16 = .int .i64 i)
      case atStart => go_light; exact ⟨Below.refl _ _, 0, by omega, rfl, rfl⟩
      case round =>
        rename World => w2
        rename_i J2 K2 hJ2 hK2
        obtain ⟨hb, i, hi, rfl, rfl⟩ := hrel
        by_cases hlt : i < m
        · have hlt' : (i : Int) < (m : Int) := by omega
          have e1 := hg i hlt
          have e2 := hw i hlt
          obtain ⟨x, hx⟩ : ∃ x, cl.getD ((cols ws len0).getD i 0) 0 = x := ⟨_, rfl⟩
          rw [hx] at e1 e2
          rw [← hb.cell (p := ⟨g, i, none⟩) (World.block_lt_of_cell? _ _ e1)] at e1
          rw [← hb.cell (p := ⟨g', i, none⟩) (World.block_lt_of_cell? _ _ e2)] at e2
          have hxx : (x != x) = false := by simp
          have HB := hide hb
          clear hb hg hw hx hC h0
          go_wp2
          go_quiet (fail)
          go_wp2
          go_roundg (m - (i + 1))
          case measure => go_light; omega
          case rel => go_light; exact ⟨below_drewN HB.out _, i + 1, by omega, rfl, by go_num⟩
        · clear hJ2 hK2
          go_wp2
          exact HK0.out _ _ (mtail35 _ _ _ _ _ _ _ _ _ _ _ _ _ _ _ _ _ _ _ _ _ _ _ _ _ _ _ _ _ _ _ _ _ _ _ _ _ _ _ _ _ _ _ _ _ _ _ _ _ _ _ _ _ _ _ _ _ _ _ _ _ _ _ _ _ _ _ _ _ _ _ _ _ _ _ _ _ _ _ _ _ _ _ _ _ _ _ _ _ _ _ _ _ _ _ _ _ _ _ _ _ _ _ _ _ _ _ _ _ _ _ _ _ _ _ _ _ _ _ _ _ _ _ _ _ _ _ _ _ _ _ _ a0 len0 cap0 T Kb _ ws w w2 cl h0 hlen hws hT l0 (hC.chg (Chg.ofBelow (S := []) hb) (by simp)))

set_option maxHeartbeats 1600000 in
set_option maxRecDepth 1000000 in
theorem mtail15 (c1 c2 c3 c4 c6 c8 c9 c10 c11 c12 c13 c14 c15 c16 c17 c18 c19 c20 c21 c22 c23 c24 c25 c26 c27 c28 c29 c30 c31 c32 c33 c34 c35 c36 c37 c38 c39 c40 c41 c42 c43 c44 c45 c46 c47 c48 c49 c50 c51 c52 c53 c54 c55 c56 c57 c58 c59 c60 c61 c62 c63 c64 c65 c66 c67 c68 c69 c70 c71 c72 c73 c74 c75 c76 c77 c78 c79 c80 c81 c82 c83 c84 c85 c86 c87 c88 c89 c90 c91 c92 c93 c94 c95 c96 c97 c98 c99 c100 c101 c102 c103 c104 c105 c106 c107 c108 c109 c110 c111 c112 c113 c114 c115 c116 c117 c118 c119 c120 c121 c122 c123 c124 c125 c126 c127 c128 c129 c130 c131 c132 c133 : Value) (a0 : Option Addr) (len0 cap0 T Kb : Nat) (ws : List Nat) (w wr : World) (h0 : Rd .u64 w a0 len0 (casts ws)) (hlen : ws.length = len0) (hws : ∀ i : Nat, ws[i]?.getD 0 < 18446744073709551616) (hT : Tab w) (l0 : len0 ≤ 1024) (hC : Cols w wr T Kb (len0 * 64) ws) :
    Code.wp Ybad.prog (tailAt 15 (Ybad.f3.body.getD .skip)) (bodyPost Ybad.prog Ybad.f3 fun e w' => e = .returned (.bool true) ∧ Below w.heap.size w w') ⟨#[.slice a0 len0 cap0, c1, c2, c3, c4, .slice (some ⟨T, 0, none⟩) len0 len0, c6, .slice (some ⟨Kb, 0, none⟩) (len0 * 64) (len0 * 64), c8, c9, c10, c11, c12, c13, c14, c15, c16, c17, c18, c19, c20, c21, c22, c23, c24, c25, c26, c27, c28, c29, c30, c31, c32, c33, c34, c35, c36, c37, c38, c39, c40, c41, c42, c43, c44, c45, c46, c47, c48, c49, c50, c51, c52, c53, c54, c55, c56, c57, c58, c59, c60, c61, c62, c63, c64, c65, c66, c67, c68, c69, c70, c71, c72, c73, c74, c75, c76, c77, c78, c79, c80, c81, c82, c83, c84, c85, c86, c87, c88, c89, c90, c91, c92, c93, c94, c95, c96, c97, c98, c99, c100, c101, c102, c103, c104, c105, c106, c107, c108, c109, c110, c111, c112, c113, c114, c115, c116, c117, c118, c119, c120, c121, c122, c123, c124, c125, c126, c127, c128, c129, c130, c131, c132, c133], []⟩ wr := by
  conv => arg 2; whnf
  obtain ⟨hb, o1, o2, hk1, cl, hk2, hn⟩ := hC
  have B0 : Base w wr T Kb (len0 * 64) ws cl := ⟨hb, o1, o2, hk1, hk2, hn⟩
  have hTw : Tab wr := hT.below hb hT.pos
  have m1 : ∀ j, j < len0 → wr.cell? ⟨T, 0 + j, none⟩ = some (.int .u64 ((ws[j]?.getD 0 : Nat) : Int)) := fun j hj => by
    rw [Nat.zero_add, hk1.cell j (by simp [casts]; omega), casts_at]
  have m2 : ∀ c, c < len0 * 64 → wr.cell? ⟨Kb, 0 + c, none⟩ = some (.int .i32 (cl.getD c 0)) := fun c hc => by
    rw [Nat.zero_add, hk2.cell c (by omega)]
  have HM := hide (members_any T 0 len0 len0 Kb 0 (len0 * 64) (len0 * 64) ws (fun c => cl.getD c 0) hws l0 (by omega) (by omega) wr (Blk.lt hk1) (Blk.lt hk2) m1 m2 hTw)
  have hKlt : Kb < wr.heap.size := Blk.lt hk2
  clear m1 m2 hTw hk1 hk2 hn hb
  go_wp2_with (go_at_call 5; refine HM.out.mono ?_; rintro e w5 ⟨gv, rfl, g1, g2, g3⟩)
  rename_i K0 hK0
  have HK0 := hide hK0
  clear hK0 HM
  obtain ⟨base, hbase⟩ : ∃ base, wr.heap.size = base := ⟨_, rfl⟩
  have S0 : St w w5 T Kb (len0 * 64) ws cl base gv (.slice none 0 0) (cols ws len0) (cols ws 0) := by
    rw [hbase] at g1
    exact ⟨B0.chg (Chg.ofBelow (S := []) g3) (by simp), ⟨g1, g2⟩, ⟨World.ownsRow_nil _ _ _ _, by simp [cols]⟩, by simp [Value.ownBlock], by omega, by have := g3.size; omega⟩
  clear g1 g2 g3 B0
  go_loopg [12, 13] len0 (fun g v12 v13 wx => ∃ i : Nat, i ≤ len0 ∧ g = len0 - i ∧ v13 = .int .i64 i ∧ St w wx T Kb (len0 * 64) ws cl base gv v12 (cols ws len0) (cols ws i))
  case atStart => go_light; exact ⟨0, by omega, rfl, rfl, S0⟩
  case round =>
    rename World => w2
    rename_i J2 K2 hJ2 hK2
    clear S0
    obtain ⟨i, hi, rfl, rfl, hS⟩ := hrel
    by_cases hlt : i < len0
    · have hlt' : (i : Int) < (len0 : Int) := by omega
      rcases h0 with h0 | ⟨b, off, rfl, hb, hc⟩
      · omega
      have e1 : w2.cell? ⟨b, off + i, none⟩ = some (.int .u64 ((ws[i]?.getD 0 : Nat) : Int)) := by rw [hS.b.below.cell (p := ⟨b, off + i, none⟩) hb, hc i hlt, casts_at]
      obtain ⟨x, hx⟩ : ∃ x, ws[i]?.getD 0 = x := ⟨_, rfl⟩
      have hx64 := hws i
      rw [hx] at e1 hx64
      have HX := hide hx
      clear hx hc hws
      go_wp2_with fail
      go_loopg [12, 15] 64 (fun g v12 v15 wx => ∃ j : Nat, j ≤ 64 ∧ g = 64 - j ∧ v15 = .int .i64 j ∧ St w wx T Kb (len0 * 64) ws cl base gv v12 (cols ws len0) (colsTo ws i j))
      case atStart => go_light; exact ⟨0, by omega, rfl, rfl, by rw [colsTo_zero]; exact hS⟩
      case round =>
        rename World => w3
        rename_i J3 K3 hJ3 hK3
        clear hS e1
        obtain ⟨j, hj, rfl, rfl, hS⟩ := hrel
        by_cases hlt2 : j < 64
        · have hlt2' : (j : Int) < 64 := by omega
          have hbt := bit_test x j hx64
          cases hbit : x.testBit j with
          | true =>
            rw [hbit] at hbt
            have hcs := colsTo_yes ws i j (by rw [HX.out]; exact hbit)
            have hcn := colsTo_len ws i j
            have hij : i * 64 + j < len0 * 64 := by omega
            have hij' : (i : Int) * 64 + (j : Int) < ((len0 * 64 : Nat) : Int) := by omega
            have e2 := hS.b.hK.cell (i * 64 + j) (by rw [hS.b.hn]; exact hij)
            obtain ⟨y, hy⟩ : ∃ y, cl.getD (i * 64 + j) 0 = y := ⟨_, rfl⟩
            rw [hy] at e2
            have HY := hide hy
            have HC := hide hcs
            obtain ⟨t0, ht0, hz0, hz1, hz2⟩ := info_parts Ybad.info26
            clear hy hcs hbit
            go_wp2_with (at_builtin; refine wpList_append_lies _ rfl _ _ 25 rfl base 26 t0 (.int .i32 0) 1 4 Ybad.underlying25 ht0 hz0 hz1 hz2 rfl (by decide) u12 (colsTo ws i j).length ((colsTo ws i j).map fun c => .int .i32 (cl.getD c 0)) rfl ?a1 ⟨_, 0, none⟩ 1 1 [.int .i32 y] rfl rfl ?a2 ?a3 (by decide) ?a4 ?a5 ?a6 _ rfl ?a7)
            case a1 => exact hS.v.own.alloc _
            case a2 => exact cell_one_new _ _ _
            case a3 => intro u hu; simp at hu; subst hu; rfl
            case a4 => unfold maxLen; omega
            case a5 => omega
            case a6 => have := hS.o2; simp; omega
            case a7 =>
              intro g cap w7 hown7 hgr7 hat7 hlt7
              rw [← HY.out] at hown7
              have R := hS.append hown7 hgr7 (by simpa using hat7)
              rw [← HC.out] at R
              clear hown7 hgr7 hat7 hlt7 hS
              go_wp2
              go_roundg (64 - (j + 1))
              case measure => go_light; omega
              case rel => go_light; exact ⟨j + 1, by omega, rfl, by go_num, R⟩
          | false =>
            rw [hbit] at hbt
            have hcs := colsTo_no ws i j (by rw [HX.out]; exact hbit)
            have R := hS
            rw [← hcs] at R
            clear hcs hbit hS
            go_wp2
            go_roundg (64 - (j + 1))
            case measure => go_light; omega
            case rel => go_light; exact ⟨j + 1, by omega, rfl, by go_num, R⟩
        · clear hJ3 hK3
          obtain rfl : j = 64 := by omega
          rw [colsTo_full] at hS
          go_wp2
          go_roundg (len0 - (i + 1))
          case measure => go_light; omega
          case rel => go_light; exact ⟨i + 1, by omega, rfl, by go_num, hS⟩
    · clear hJ2 hK2
      obtain rfl : len0 = i := by omega
      go_wp2
      exact HK0.out _ _ (mtail26 _ _ _ _ _ _ _ _ _ _ _ _ _ _ _ _ _ _ _ _ _ _ _ _ _ _ _ _ _ _ _ _ _ _ _ _ _ _ _ _ _ _ _ _ _ _ _ _ _ _ _ _ _ _ _ _ _ _ _ _ _ _ _ _ _ _ _ _ _ _ _ _ _ _ _ _ _ _ _ _ _ _ _ _ _ _ _ _ _ _ _ _ _ _ _ _ _ _ _ _ _ _ _ _ _ _ _ _ _ _ _ _ _ _ _ _ _ _ _ _ _ _ _ _ _ _ _ _ _ _ _ a0 len0 cap0 T Kb base ws w w2 cl h0 hlen hws hT l0 hS.b hS.g hS.v)

set_option maxHeartbeats 1600000 in
set_option maxRecDepth 1000000 in
theorem lawM_any (a0 : Option Addr) (len0 cap0 : Nat) (ws : List Nat) (a1 : Option Addr) (len1 cap1 : Nat) (z1 : List Int) (w : World)
    (h0 : Rd .u64 w a0 len0 (casts ws)) (hlen : ws.length = len0) (hws : ∀ i : Nat, ws[i]?.getD 0 < 18446744073709551616) (h1 : Rd .i32 w a1 len1 z1) (hT : Tab w) (l0 : len0 ≤ 1024) (l1 : len1 ≤ 1024) :
    Calls Ybad.prog 3 #[.slice a0 len0 cap0, .slice a1 len1 cap1] w fun e w' => e = .returned (.bool true) ∧ Below w.heap.size w w' := by
  obtain ⟨W2, hcp, hk2, hb2, hs2⟩ := copy_any a0 len0 cap0 (casts ws) w h0 (by simp [casts, hlen])
  have hmk := run_make_row' (P := Ybad.prog) 24 28 (.int .u64 0) 8 Ybad.underlying24 Ybad.info28 rfl .i64 .i64 len0 (by omega) (by omega)
  have hmk2 := run_make_row' (P := Ybad.prog) 25 26 (.int .i32 0) 4 Ybad.underlying25 Ybad.info26 rfl .i64 .i64 (len0 * 64) (by omega) (by omega)
  rw [show ((len0 * 64 : Nat) : Int) = (len0 : Int) * 64 from by omega] at hmk2
  have hC0 : Cols w (W2.alloc (.cells (madeCells #[.int .i32 0] (len0 * 64)) 26)) w.heap.size W2.heap.size (len0 * 64) ws := by
    refine ⟨hb2.alloc (by omega) _, Nat.le_refl _, by omega, Blk.alloc ?_ _, _, KB.made .i32 26 W2 (len0 * 64), by simp⟩
    have e : (casts ws).take len0 = casts ws := List.take_of_length_le (by simp [casts, hlen])
    rw [e] at hk2
    exact hk2
  clear hk2
  go_enter Ybad.func3, Ybad.ntmps3
  go_wp2_with fail
  rename_i K0 hK0
  have HK0 := hide hK0
  clear hK0 hmk hmk2 hcp
  rw [hs2] at hC0
  obtain ⟨T, hTe⟩ : ∃ T, w.heap.size = T := ⟨_, rfl⟩
  rw [hTe] at hC0 ⊢
  obtain ⟨Kb, hKe⟩ : ∃ Kb, T + 1 = Kb := ⟨_, rfl⟩
  rw [hKe] at hC0 ⊢
  clear hs2 hKe
  go_loopg [9] (len0 * 64) (fun g i wr => ∃ k : Nat, k ≤ len0 * 64 ∧ g = len0 * 64 - k ∧ i = .int .i64 k ∧ Cols w wr T Kb (len0 * 64) ws)
  case atStart => go_light; exact ⟨0, by omega, rfl, rfl, hC0⟩
  case round =>
    rename_i J1 K1 hJ1 hK1
    clear hC0 hb2
    obtain ⟨k, hk, rfl, rfl, hC⟩ := hrel
    by_cases hlt : k < len0 * 64
    · have hlt' : (k : Int) < (len0 : Int) * 64 := by omega
      obtain ⟨cl, hcl, hcn⟩ := hC.2.2.2.2
      have e1 := hcl.cell k (by omega)
      obtain ⟨x, hx⟩ : ∃ x, cl.getD k 0 = x := ⟨_, rfl⟩
      rw [hx] at e1
      have f1 : wr.frozen? ⟨Kb, k, none⟩ = false := Blk.frozen hcl k
      have hlk : ((k : Int) < ((len0 * 64 : Nat) : Int)) := by omega
      by_cases hl1 : 0 < len1
      · have hl1' : (0 : Int) < (len1 : Int) := by omega
        rcases h1 with h1 | ⟨b, off, rfl, hb, hc⟩
        · omega
        have hmod : k % len1 < len1 := Nat.mod_lt _ hl1
        have hmod' : ((k % len1 : Nat) : Int) < (len1 : Int) := by omega
        have e2 : wr.cell? ⟨b, off + k % len1, none⟩ = some (.int .i32 (z1.getD (k % len1) 0)) := by rw [hC.1.cell (p := ⟨b, off + k % len1, none⟩) hb]; exact hc _ hmod
        obtain ⟨y, hy⟩ : ∃ y, z1.getD (k % len1) 0 = y := ⟨_, rfl⟩
        rw [hy] at e2
        have R := fun v => hC.put k v
        clear hC hcl hcn hy hx hc
        go_wp2
        go_roundg (len0 * 64 - (k + 1))
        case measure => go_light; omega
        case rel => go_light; exact ⟨k + 1, by omega, rfl, by go_num, R _⟩
      · have hl1' : (len1 : Int) ≤ 0 := by omega
        have R := fun v => hC.put k v
        clear hC hcl hcn hx
        go_wp2
        go_roundg (len0 * 64 - (k + 1))
        case measure => go_light; omega
        case rel => go_light; exact ⟨k + 1, by omega, rfl, by go_num, R _⟩
    · clear hJ1 hK1
      obtain rfl : len0 * 64 = k := by omega
      go_wp2
      exact HK0.out _ _ (mtail15 _ _ _ _ _ _ _ _ _ _ _ _ _ _ _ _ _ _ _ _ _ _ _ _ _ _ _ _ _ _ _ _ _ _ _ _ _ _ _ _ _ _ _ _ _ _ _ _ _ _ _ _ _ _ _ _ _ _ _ _ _ _ _ _ _ _ _ _ _ _ _ _ _ _ _ _ _ _ _ _ _ _ _ _ _ _ _ _ _ _ _ _ _ _ _ _ _ _ _ _ _ _ _ _ _ _ _ _ _ _ _ _ _ _ _ _ _ _ _ _ _ _ _ _ _ _ _ _ _ _ _ a0 len0 cap0 T Kb ws w wr h0 hlen hws hT l0 hC)

end Go.Proofs.YbulkcicwDoor
