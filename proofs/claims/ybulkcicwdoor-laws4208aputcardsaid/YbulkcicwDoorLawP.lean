import Derived.Test.YbulkcicwDoorPut
import Derived.Lib.SliceRun
namespace Go.Proofs.YbulkcicwDoor
open Go.RowKit
set_option linter.unusedVariables false

def BB (w : World) (g : Nat) (l : List Bool) : Prop := Blk w g 4 (l.map Value.bool)
theorem BB.cell {w : World} {g : Nat} {l : List Bool} (h : BB w g l) (i : Nat) (hi : i < l.length) : w.cell? ⟨g, i, none⟩ = some (.bool (l.getD i false)) := by
  have := Blk.cell h i
  simp [hi] at this
  simpa [hi] using this
theorem BB.put {w : World} {g : Nat} {l : List Bool} (h : BB w g l) (i : Nat) (x : Bool) : BB (w.setCell ⟨g, i, none⟩ (.bool x)) g (l.set i x) := by
  have := Blk.put h i (.bool x)
  unfold BB
  rw [List.map_set]
  exact this
theorem BB.made (w : World) (n : Nat) : BB (w.alloc (.cells (madeCells #[.bool false] n) 4)) w.heap.size (List.replicate n false) := by
  have h := Blk.new w 4 ((List.replicate n false).map Value.bool)
  unfold BB
  have e : (madeCells #[Value.bool false] n) = ((List.replicate n false).map Value.bool).toArray := by
    apply Array.toList_inj.1
    rw [toList_madeCells_one]
    simp
  rw [e]
  exact h
theorem Ybad.info4 : (Ybad.prog.info? 4).map (fun i => (i.zero, i.size, i.bytes)) = some (some (.bool false), 1, 1) := by kernel_rfl

/-- The set and its marks. -/
structure PSt (w wr : World) (R M tl : Nat) (ws : List Nat) (mk : List Bool) : Prop where
  below : Below w.heap.size w wr
  o1 : w.heap.size ≤ R
  o2 : R < M
  hR : KB .u64 28 wr R (casts ws)
  hM : BB wr M mk
  lw : ws.length = tl
  lm : mk.length = 64 * tl
  h64 : ∀ i : Nat, ws[i]?.getD 0 < 18446744073709551616
  tie : ∀ c, c < 64 * tl → mk.getD c false = (ws[c / 64]?.getD 0).testBit (c % 64)

theorem PSt.step {w wr wx : World} {R M tl : Nat} {ws : List Nat} {mk : List Bool} (h : PSt w wr R M tl ws mk) (c : Nat) (hc : c < 64 * tl)
    (k1 : KB .u64 28 wx R (casts (ws.set (c / 64) (ws[c / 64]?.getD 0 ||| 2 ^ (c % 64))))) (k2 : Chg [R] wr wx) :
    PSt w (wx.setCell ⟨M, c, none⟩ (.bool true)) R M tl (ws.set (c / 64) (ws[c / 64]?.getD 0 ||| 2 ^ (c % 64))) (mk.set c true) := by
  have o1 := h.o1
  have o2 := h.o2
  have lw := h.lw
  have lm := h.lm
  have hb : Below w.heap.size w wx := h.below.trans (k2.below (fun s hs => by simp at hs; omega) h.below.size)
  refine ⟨hb.setCell (by show w.heap.size ≤ M; omega) _, o1, o2, Blk.other k1 (by omega) _ _, BB.put (Blk.chg h.hM k2 (by simp; omega)) _ _, by simpa using lw, by simpa using lm, fun i => ?_, fun d hd => ?_⟩
  · by_cases hi : i = c / 64
    · subst hi
      rw [List.getElem?_set_self (by omega)]
      exact Nat.or_lt_two_pow (n := 64) (h.h64 _) (Nat.pow_lt_pow_right (by decide) (by omega))
    · rw [List.getElem?_set_ne (by omega)]
      exact h.h64 i
  · by_cases hdc : d = c
    · subst hdc
      rw [List.getElem?_set_self (by omega)]
      simp [lm, hd]
    · have e1 : (mk.set c true).getD d false = mk.getD d false := by simp [Ne.symm hdc]
      rw [e1, h.tie d hd]
      by_cases hw : d / 64 = c / 64
      · rw [hw, List.getElem?_set_self (by omega)]
        have hne : c % 64 ≠ d % 64 := by omega
        simp [Nat.testBit_or, hne]
      · rw [List.getElem?_set_ne (by omega)]

theorem PSt.drewN {w wr : World} {R M tl : Nat} {ws : List Nat} {mk : List Bool} (h : PSt w wr R M tl ws mk) (o : Obj) : PSt w (wr.alloc o) R M tl ws mk :=
  ⟨h.below.alloc h.below.size _, h.o1, h.o2, Blk.alloc h.hR _, Blk.alloc h.hM _, h.lw, h.lm, h.h64, h.tie⟩
theorem PSt.put {w wr : World} {R M tl : Nat} {ws : List Nat} {mk : List Bool} (h : PSt w wr R M tl ws mk) (Kb : Nat) (hK : M < Kb) (i : Nat) (v : Value) : PSt w (wr.setCell ⟨Kb, i, none⟩ v) R M tl ws mk := by
  have o1 := h.o1
  have o2 := h.o2
  exact ⟨h.below.setCell (by show w.heap.size ≤ Kb; omega) _, h.o1, h.o2, Blk.other h.hR (by omega) _ _, Blk.other h.hM (by omega) _ _, h.lw, h.lm, h.h64, h.tie⟩

theorem pst_start {w wr : World} {R tl : Nat} (hb : Below w.heap.size w wr) (ho : w.heap.size ≤ R) (hR : KB .u64 28 wr R (List.replicate tl 0)) :
    PSt w (wr.alloc (.cells (madeCells #[.bool false] (tl * 64)) 4)) R wr.heap.size tl (List.replicate tl 0) (List.replicate (tl * 64) false) := by
  refine ⟨hb.alloc hb.size _, ho, Blk.lt hR, Blk.alloc ?_ _, BB.made wr _, by simp, by simp; omega, fun i => ?_, fun c hc => ?_⟩
  · have e : casts (List.replicate tl 0) = List.replicate tl (0 : Int) := by simp [casts]
    rw [e]
    exact hR
  · by_cases hi : i < tl <;> simp [hi]
  · have : (List.replicate tl 0)[c / 64]?.getD 0 = 0 := by
      by_cases hi : c / 64 < tl <;> simp [hi]
    rw [this]
    by_cases hi : c < tl * 64 <;> simp [hi]

theorem cols_filter (ws : List Nat) (k : Nat) : cols ws k = (List.range (64 * k)).filter fun c => (ws[c / 64]?.getD 0).testBit (c % 64) := by
  induction k with
  | zero => simp [cols]
  | succ k ih =>
    rw [cols_succ, ih, show 64 * (k + 1) = 64 * k + 64 from by omega, List.range_add, List.filter_append]
    congr 1
    rw [List.filter_map]
    have e1 : bitsOf (ws[k]?.getD 0) = (List.range 64).filter ((fun c => (ws[c / 64]?.getD 0).testBit (c % 64)) ∘ fun x => 64 * k + x) := by
      unfold bitsOf
      apply List.filter_congr
      intro j hj
      simp at hj
      have h1 : (64 * k + j) / 64 = k := by omega
      have h2 : (64 * k + j) % 64 = j := by omega
      simp [h1, h2]
    rw [e1]
    apply List.map_congr_left
    intro j _
    omega

/-- The marked columns below i. -/
def marked (mk : List Bool) (i : Nat) : List Nat := (List.range i).filter fun c => mk.getD c false
theorem marked_yes (mk : List Bool) (i : Nat) (h : mk.getD i false = true) : marked mk (i + 1) = marked mk i ++ [i] := by
  unfold marked
  rw [List.range_succ, List.filter_append]
  simp only [List.filter_cons, List.filter_nil, h, if_true]
theorem marked_no (mk : List Bool) (i : Nat) (h : mk.getD i false = false) : marked mk (i + 1) = marked mk i := by
  unfold marked
  rw [List.range_succ, List.filter_append]
  simp only [List.filter_cons, List.filter_nil, h]
  simp
theorem marked_len (mk : List Bool) (i : Nat) : (marked mk i).length ≤ i := by
  have := List.length_filter_le (fun c => mk.getD c false) (List.range i)
  simpa [marked] using this
theorem PSt.all {w wr : World} {R M tl : Nat} {ws : List Nat} {mk : List Bool} (h : PSt w wr R M tl ws mk) : cols ws tl = marked mk (64 * tl) := by
  rw [cols_filter]
  unfold marked
  apply List.filter_congr
  intro c hc
  simp only [List.mem_range] at hc
  exact (h.tie c hc).symm

set_option maxHeartbeats 1600000 in
set_option maxRecDepth 1000000 in
theorem ptail27 (c0 c1 c2 c3 c4 c5 c6 c7 c8 c9 c10 c11 c12 c13 c14 c17 c18 c19 c20 c21 c22 c23 c24 c25 c26 c27 c28 c29 c30 c31 c32 c33 c34 c35 c36 c37 c38 c39 c40 c41 c42 c43 c44 c45 c46 c47 c48 c49 c50 c51 c52 c53 c54 c55 c56 c57 c58 c59 c60 c61 c62 c63 c64 c65 c66 c67 c68 c69 c70 c71 c72 c73 c74 c75 c76 c77 c78 c79 c80 c81 c82 c83 c84 c85 c86 c87 c88 c89 c90 c91 c92 c93 c94 c95 c96 c97 c98 c99 c100 c101 c102 c103 c104 c105 c106 c107 c108 gv wv : Value) (base : Nat) (w wr : World) (cl : List Int) (L : List Nat) (hb0 : Below w.heap.size w wr) (hL : L.length ≤ 512) (hG : Owned wr base gv cl L) (hW : Owned wr base wv cl L) :
    Code.wp Ybad.prog (tailAt 27 (Ybad.f4.body.getD .skip)) (bodyPost Ybad.prog Ybad.f4 fun e w' => e = .returned (.bool true) ∧ Below w.heap.size w w') ⟨#[c0, c1, c2, c3, c4, c5, c6, c7, c8, c9, c10, c11, c12, c13, c14, gv, wv, c17, c18, c19, c20, c21, c22, c23, c24, c25, c26, c27, c28, c29, c30, c31, c32, c33, c34, c35, c36, c37, c38, c39, c40, c41, c42, c43, c44, c45, c46, c47, c48, c49, c50, c51, c52, c53, c54, c55, c56, c57, c58, c59, c60, c61, c62, c63, c64, c65, c66, c67, c68, c69, c70, c71, c72, c73, c74, c75, c76, c77, c78, c79, c80, c81, c82, c83, c84, c85, c86, c87, c88, c89, c90, c91, c92, c93, c94, c95, c96, c97, c98, c99, c100, c101, c102, c103, c104, c105, c106, c107, c108], []⟩ wr := by
  conv => arg 2; whnf
  have heq : ∀ a n c w', (binOp .eql 25 (.slice a n c) (.slice none 0 0)).run Ybad.prog w' = .ok (.bool a.isNone) w' := fun a n c w' => Lib.run_eql_slice_nil w' 25 26 a n c 0 0 Ybad.underlying25
  have form : ∀ v, Owned wr base v cl L → (L = [] ∧ v = .slice none 0 0) ∨ (L ≠ [] ∧ ∃ g cap, v = .slice (some ⟨g, 0, none⟩) L.length cap ∧ ∀ i, i < L.length → wr.cell? ⟨g, i, none⟩ = some (.int .i32 (cl.getD (L.getD i 0) 0))) := by
    intro v hv
    by_cases hnil : L = []
    · exact .inl ⟨hnil, hv.isnil.2 hnil⟩
    · refine .inr ⟨hnil, ?_⟩
      rcases hv.own.2 with ⟨h1, h2⟩ | ⟨g, cap, cur, rfl, _⟩
      · exact absurd (hv.isnil.1 h1) hnil
      · refine ⟨g, cap, rfl, fun i hi => ?_⟩
        rw [hv.own.cellAt i (by omega)]
        simp [hi]
  rcases form gv hG with ⟨hn1, rfl⟩ | ⟨hn1, g, gc, rfl, hg⟩
  · rcases form wv hW with ⟨_, rfl⟩ | ⟨hn2, _⟩
    · clear form hG hW
      go_wp2_with fail
      rename_i K0 hK0
      have HK0 := hide hK0
      clear hK0 heq
      go_loopg [18] 0 (fun g v18 wx => Below wr.heap.size wr wx ∧ v18 = .int .i64 0)
      case atStart => go_light; exact ⟨Below.refl _ _, rfl⟩
      case round =>
        rename World => w2
        rename_i J2 K2 hJ2 hK2
        obtain ⟨hb, rfl⟩ := hrel
        clear hJ2 hK2
        have hK0 := HK0.out
        clear HK0
        go_wp2
        go_ret
        exact ⟨rfl, hb0.trans (hb.mono hb0.size)⟩
    · exact absurd hn1 hn2
  · rcases form wv hW with ⟨hn2, _⟩ | ⟨_, g', wc, rfl, hw⟩
    · exact absurd hn2 hn1
    · clear form hG hW
      obtain ⟨m, hm⟩ : ∃ m, L.length = m := ⟨_, rfl⟩
      rw [hm] at hg hw hL ⊢
      clear hm hn1
      have hmm : ((m : Int) != (m : Int)) = false := by simp
      go_wp2_with fail
      rename_i K0 hK0
      have HK0 := hide hK0
      clear hK0 heq
      go_loopg [18] m (fun g v18 wx => Below wr.heap.size wr wx ∧ ∃ i : Nat, i ≤ m ∧ g = m - i ∧ v18 = .int .i64 i)
      case atStart => go_light; exact ⟨Below.refl _ _, 0, by omega, rfl, rfl⟩
      case round =>
        rename World => w2
        rename_i J2 K2 hJ2 hK2
        obtain ⟨hb, i, hi, rfl, rfl⟩ := hrel
        by_cases hlt : i < m
        · have hlt' : (i : Int) < (m : Int) := by omega
          have e1 := hg i hlt
          have e2 := hw i hlt
          obtain ⟨x, hx⟩ : ∃ x, cl.getD (L.getD i 0) 0 = x := ⟨_, rfl⟩
          rw [hx] at e1 e2
          rw [← hb.cell (p := ⟨g, i, none⟩) (World.block_lt_of_cell? _ _ e1)] at e1
          rw [← hb.cell (p := ⟨g', i, none⟩) (World.block_lt_of_cell? _ _ e2)] at e2
          have hxx : (x != x) = false := by simp
          have HB := hide hb
          clear hb hg hw hx
          go_wp2
          go_quiet (fail)
          go_wp2
          go_roundg (m - (i + 1))
          case measure => go_light; omega
          case rel => go_light; exact ⟨below_drewN HB.out _, i + 1, by omega, rfl, by go_num⟩
        · clear hJ2 hK2
          have hK0 := HK0.out
          clear HK0
          go_wp2
          go_ret
          exact ⟨rfl, hb0.trans (hb.mono hb0.size)⟩

set_option maxHeartbeats 1600000 in
set_option maxRecDepth 1000000 in
theorem ptail20 (c0 c1 c2 c3 c4 c5 c6 c10 c11 c12 c14 c15 c16 c17 c18 c19 c20 c21 c22 c23 c24 c25 c26 c27 c28 c29 c30 c31 c32 c33 c34 c35 c36 c37 c38 c39 c40 c41 c42 c43 c44 c45 c46 c47 c48 c49 c50 c51 c52 c53 c54 c55 c56 c57 c58 c59 c60 c61 c62 c63 c64 c65 c66 c67 c68 c69 c70 c71 c72 c73 c74 c75 c76 c77 c78 c79 c80 c81 c82 c83 c84 c85 c86 c87 c88 c89 c90 c91 c92 c93 c94 c95 c96 c97 c98 c99 c100 c101 c102 c103 c104 c105 c106 c107 c108 : Value) (R M Kb tl : Nat) (ws : List Nat) (mk : List Bool) (cl : List Int) (w wr : World) (h1 : 1 ≤ tl) (h8 : tl ≤ 8) (hT : Tab w) (hP : PSt w wr R M tl ws mk) (hMK : M < Kb) (hK : KB .i32 26 wr Kb cl) (hn : cl.length = tl * 64) (hcl : ∀ j, j < tl * 64 → cl.getD j 0 = (j : Int) + 100) :
    Code.wp Ybad.prog (tailAt 20 (Ybad.f4.body.getD .skip)) (bodyPost Ybad.prog Ybad.f4 fun e w' => e = .returned (.bool true) ∧ Below w.heap.size w w') ⟨#[c0, c1, c2, c3, c4, c5, c6, .slice (some ⟨R, 0, none⟩) tl tl, .int .i64 ((tl : Nat) * 64), .slice (some ⟨M, 0, none⟩) (tl * 64) (tl * 64), c10, c11, c12, .slice (some ⟨Kb, 0, none⟩) (tl * 64) (tl * 64), c14, c15, c16, c17, c18, c19, c20, c21, c22, c23, c24, c25, c26, c27, c28, c29, c30, c31, c32, c33, c34, c35, c36, c37, c38, c39, c40, c41, c42, c43, c44, c45, c46, c47, c48, c49, c50, c51, c52, c53, c54, c55, c56, c57, c58, c59, c60, c61, c62, c63, c64, c65, c66, c67, c68, c69, c70, c71, c72, c73, c74, c75, c76, c77, c78, c79, c80, c81, c82, c83, c84, c85, c86, c87, c88, c89, c90, c91, c92, c93, c94, c95, c96, c97, c98, c99, c100, c101, c102, c103, c104, c105, c106, c107, c108], []⟩ wr := by
  conv => arg 2; whnf
  have B0 : Base w wr R Kb (tl * 64) ws cl := ⟨hP.below, hP.o1, by have := hP.o2; omega, hP.hR, hK, hn⟩
  have hTw : Tab wr := hT.below hP.below hT.pos
  have m1 : ∀ j, j < tl → wr.cell? ⟨R, 0 + j, none⟩ = some (.int .u64 ((ws[j]?.getD 0 : Nat) : Int)) := fun j hj => by
    rw [Nat.zero_add, hP.hR.cell j (by simp [casts]; have := hP.lw; omega), casts_at]
  have m2 : ∀ c, c < tl * 64 → wr.cell? ⟨Kb, 0 + c, none⟩ = some (.int .i32 (cl.getD c 0)) := fun c hc => by
    rw [Nat.zero_add, hK.cell c (by omega)]
  have HM := hide (members_any R 0 tl tl Kb 0 (tl * 64) (tl * 64) ws (fun c => cl.getD c 0) hP.h64 (by omega) (by omega) (by omega) wr (Blk.lt hP.hR) (Blk.lt hK) m1 m2 hTw)
  have hKlt : Kb < wr.heap.size := Blk.lt hK
  have hall := hP.all
  have hlm := hP.lm
  have hM0 := hide hP.hM
  clear m1 m2 hTw hK hn hP
  go_wp2_with (go_at_call 5; refine HM.out.mono ?_; rintro e w5 ⟨gv, rfl, g1, g2, g3⟩)
  rename_i K0 hK0
  have HK0 := hide hK0
  clear hK0 HM
  obtain ⟨base, hbase⟩ : ∃ base, wr.heap.size = base := ⟨_, rfl⟩
  have S0 : St w w5 R Kb (tl * 64) ws cl base gv (.slice none 0 0) (cols ws tl) (marked mk 0) := by
    rw [hbase] at g1
    exact ⟨B0.chg (Chg.ofBelow (S := []) g3) (by simp), ⟨g1, g2⟩, ⟨World.ownsRow_nil _ _ _ _, by simp [marked]⟩, by simp [Value.ownBlock], by omega, by have := g3.size; omega⟩
  have M0 : BB w5 M mk := Blk.below hM0.out g3 (by omega)
  clear g1 g2 g3 B0 hM0
  go_loopg [16, 17] (tl * 64) (fun g v16 v17 wx => ∃ i : Nat, i ≤ tl * 64 ∧ g = tl * 64 - i ∧ v17 = .int .i64 i ∧ St w wx R Kb (tl * 64) ws cl base gv v16 (cols ws tl) (marked mk i) ∧ BB wx M mk)
  case atStart => go_light; exact ⟨0, by omega, rfl, rfl, S0, M0⟩
  case round =>
    rename World => w2
    rename_i J2 K2 hJ2 hK2
    clear S0 M0
    obtain ⟨i, hi, rfl, rfl, hS, hB⟩ := hrel
    by_cases hlt : i < tl * 64
    · have hlt' : (i : Int) < (tl : Int) * 64 := by omega
      have hlt2 : (i : Int) < ((tl * 64 : Nat) : Int) := by omega
      have e1 := BB.cell hB i (by omega)
      have hci := hcl i hlt
      cases hbit : mk.getD i false with
      | true =>
        rw [hbit] at e1
        have HC := hide (marked_yes mk i hbit)
        have hcn := marked_len mk i
        have HCI := hide hci
        obtain ⟨t0, ht0, hz0, hz1, hz2⟩ := info_parts Ybad.info26
        clear hbit hci hcl hall
        go_wp2_with (at_builtin; refine wpList_append_lies _ rfl _ _ 25 rfl base 26 t0 (.int .i32 0) 1 4 Ybad.underlying25 ht0 hz0 hz1 hz2 rfl (by decide) u16 (marked mk i).length ((marked mk i).map fun c => .int .i32 (cl.getD c 0)) rfl ?a1 ⟨_, 0, none⟩ 1 1 [.int .i32 ((i : Int) + 100)] rfl rfl ?a2 ?a3 (by decide) ?a4 ?a5 ?a6 _ rfl ?a7)
        case a1 => exact hS.v.own.alloc _
        case a2 => exact cell_one_new _ _ _
        case a3 => intro u hu; simp at hu; subst hu; rfl
        case a4 => unfold maxLen; omega
        case a5 => omega
        case a6 => have := hS.o2; simp; omega
        case a7 =>
          intro g cap w7 hown7 hgr7 hat7 hlt7
          rw [← HCI.out] at hown7
          have R2 := hS.append hown7 hgr7 (by simpa using hat7)
          rw [← HC.out] at R2
          have B2 : BB w7 M mk := Blk.grown (Blk.alloc hB _) hgr7 (fun e => by have := (hS.v.own.lt M e.symm).1; have := hS.o1; omega)
          clear hown7 hgr7 hat7 hlt7 hS hB
          go_wp2
          go_roundg (tl * 64 - (i + 1))
          case measure => go_light; omega
          case rel => go_light; exact ⟨i + 1, by omega, rfl, by go_num, R2, B2⟩
      | false =>
        rw [hbit] at e1
        have R2 := hS
        rw [← marked_no mk i hbit] at R2
        clear hbit hS hci hcl hall
        go_wp2
        go_roundg (tl * 64 - (i + 1))
        case measure => go_light; omega
        case rel => go_light; exact ⟨i + 1, by omega, rfl, by go_num, R2, hB⟩
    · clear hJ2 hK2
      obtain rfl : tl * 64 = i := by omega
      have hv := hS.v
      rw [show marked mk (tl * 64) = cols ws tl from by rw [hall, Nat.mul_comm]] at hv
      have hl := cols_len ws tl
      go_wp2
      exact HK0.out _ _ (ptail27 _ _ _ _ _ _ _ _ _ _ _ _ _ _ _ _ _ _ _ _ _ _ _ _ _ _ _ _ _ _ _ _ _ _ _ _ _ _ _ _ _ _ _ _ _ _ _ _ _ _ _ _ _ _ _ _ _ _ _ _ _ _ _ _ _ _ _ _ _ _ _ _ _ _ _ _ _ _ _ _ _ _ _ _ _ _ _ _ _ _ _ _ _ _ _ _ _ _ _ _ _ _ _ _ _ _ _ _ _ base w w2 cl (cols ws tl) hS.b.below (by omega) hS.g hv)

set_option maxHeartbeats 1600000 in
set_option maxRecDepth 1000000 in
theorem ptail15 (c0 c1 c2 c3 c4 c5 c6 c10 c11 c12 c13 c14 c15 c16 c17 c18 c19 c20 c21 c22 c23 c24 c25 c26 c27 c28 c29 c30 c31 c32 c33 c34 c35 c36 c37 c38 c39 c40 c41 c42 c43 c44 c45 c46 c47 c48 c49 c50 c51 c52 c53 c54 c55 c56 c57 c58 c59 c60 c61 c62 c63 c64 c65 c66 c67 c68 c69 c70 c71 c72 c73 c74 c75 c76 c77 c78 c79 c80 c81 c82 c83 c84 c85 c86 c87 c88 c89 c90 c91 c92 c93 c94 c95 c96 c97 c98 c99 c100 c101 c102 c103 c104 c105 c106 c107 c108 : Value) (R M tl : Nat) (ws : List Nat) (mk : List Bool) (w wr : World) (h1 : 1 ≤ tl) (h8 : tl ≤ 8) (hT : Tab w) (hP : PSt w wr R M tl ws mk) :
    Code.wp Ybad.prog (tailAt 15 (Ybad.f4.body.getD .skip)) (bodyPost Ybad.prog Ybad.f4 fun e w' => e = .returned (.bool true) ∧ Below w.heap.size w w') ⟨#[c0, c1, c2, c3, c4, c5, c6, .slice (some ⟨R, 0, none⟩) tl tl, .int .i64 ((tl : Nat) * 64), .slice (some ⟨M, 0, none⟩) (tl * 64) (tl * 64), c10, c11, c12, c13, c14, c15, c16, c17, c18, c19, c20, c21, c22, c23, c24, c25, c26, c27, c28, c29, c30, c31, c32, c33, c34, c35, c36, c37, c38, c39, c40, c41, c42, c43, c44, c45, c46, c47, c48, c49, c50, c51, c52, c53, c54, c55, c56, c57, c58, c59, c60, c61, c62, c63, c64, c65, c66, c67, c68, c69, c70, c71, c72, c73, c74, c75, c76, c77, c78, c79, c80, c81, c82, c83, c84, c85, c86, c87, c88, c89, c90, c91, c92, c93, c94, c95, c96, c97, c98, c99, c100, c101, c102, c103, c104, c105, c106, c107, c108], []⟩ wr := by
  conv => arg 2; whnf
  have hmk := run_make_row' (P := Ybad.prog) 25 26 (.int .i32 0) 4 Ybad.underlying25 Ybad.info26 rfl .i64 .i64 (tl * 64) (by omega) (by omega)
  rw [show ((tl * 64 : Nat) : Int) = (tl : Int) * 64 from by omega] at hmk
  go_wp2_with fail
  rename_i K0 hK0
  have HK0 := hide hK0
  clear hK0 hmk
  have P0 := hP.drewN (.cells (madeCells #[.int .i32 0] (tl * 64)) 26)
  have Q0 := KB.made .i32 26 wr (tl * 64)
  have hMw : M < wr.heap.size := Blk.lt hP.hM
  obtain ⟨Kb, hKe⟩ : ∃ Kb, wr.heap.size = Kb := ⟨_, rfl⟩
  rw [hKe] at Q0 hMw ⊢
  clear hKe hP
  go_loopg [14] (tl * 64) (fun g v wx => ∃ (k : Nat) (cl : List Int), k ≤ tl * 64 ∧ g = tl * 64 - k ∧ v = .int .i64 k ∧ PSt w wx R M tl ws mk ∧ KB .i32 26 wx Kb cl ∧ cl.length = tl * 64 ∧ ∀ j, j < k → cl.getD j 0 = (j : Int) + 100)
  case atStart => go_light; exact ⟨0, _, by omega, rfl, rfl, P0, Q0, by simp, fun j hj => by omega⟩
  case round =>
    rename World => w2
    rename_i J2 K2 hJ2 hK2
    clear P0 Q0
    obtain ⟨k, cl, hk, rfl, rfl, hP, hK, hn, hcl⟩ := hrel
    by_cases hlt : k < tl * 64
    · have hlt' : (k : Int) < (tl : Int) * 64 := by omega
      have hlt2 : (k : Int) < ((tl * 64 : Nat) : Int) := by omega
      have e1 := hK.cell k (by omega)
      have f1 := Blk.frozen hK k
      obtain ⟨x, hx⟩ : ∃ x, cl.getD k 0 = x := ⟨_, rfl⟩
      rw [hx] at e1
      have R1 := hP.put Kb hMw k (.int .i32 ((k : Int) + 100))
      have R2 := hK.put k ((k : Int) + 100)
      have R3 : ∀ j, j < k + 1 → (cl.set k ((k : Int) + 100)).getD j 0 = (j : Int) + 100 := by
        intro j hj
        by_cases e : j = k
        · subst e; simp [show j < cl.length by omega]
        · have := hcl j (by omega)
          simpa [List.getElem?_set, Ne.symm e] using this
      have R4 := hide R3
      have hn2 := hide hn
      clear hP hK hcl hx R3 hn
      go_wp2
      go_roundg (tl * 64 - (k + 1))
      case measure => go_light; omega
      case rel => go_light; exact ⟨k + 1, _, by omega, rfl, by go_num, R1, R2, by simpa using hn2.out, R4.out⟩
    · clear hJ2 hK2
      obtain rfl : tl * 64 = k := by omega
      go_wp2
      exact HK0.out _ _ (ptail20 _ _ _ _ _ _ _ _ _ _ _ _ _ _ _ _ _ _ _ _ _ _ _ _ _ _ _ _ _ _ _ _ _ _ _ _ _ _ _ _ _ _ _ _ _ _ _ _ _ _ _ _ _ _ _ _ _ _ _ _ _ _ _ _ _ _ _ _ _ _ _ _ _ _ _ _ _ _ _ _ _ _ _ _ _ _ _ _ _ _ _ _ _ _ _ _ _ _ _ _ _ _ _ _ _ R M Kb tl ws mk cl w w2 h1 h8 hT hP hMw hK hn hcl)

set_option maxHeartbeats 1600000 in
set_option maxRecDepth 1000000 in
theorem ptail4 (c1 c2 c3 c4 c6 c7 c8 c9 c10 c11 c12 c13 c14 c15 c16 c17 c18 c19 c20 c21 c22 c23 c24 c25 c26 c27 c28 c29 c30 c31 c32 c33 c34 c35 c36 c37 c38 c39 c40 c41 c42 c43 c44 c45 c46 c47 c48 c49 c50 c51 c52 c53 c54 c55 c56 c57 c58 c59 c60 c61 c62 c63 c64 c65 c66 c67 c68 c69 c70 c71 c72 c73 c74 c75 c76 c77 c78 c79 c80 c81 c82 c83 c84 c85 c86 c87 c88 c89 c90 c91 c92 c93 c94 c95 c96 c97 c98 c99 c100 c101 c102 c103 c104 c105 c106 c107 c108 : Value) (a0 : Option Addr) (len0 cap0 tl : Nat) (z0 : List Int) (w : World) (h0 : Rd .u16 w a0 len0 z0) (b0 : ∀ i, 0 ≤ z0.getD i 0 ∧ z0.getD i 0 ≤ 65535) (l0 : len0 ≤ 1024) (h1 : 1 ≤ tl) (h8 : tl ≤ 8) (hT : Tab w) :
    Code.wp Ybad.prog (tailAt 4 (Ybad.f4.body.getD .skip)) (bodyPost Ybad.prog Ybad.f4 fun e w' => e = .returned (.bool true) ∧ Below w.heap.size w w') ⟨#[.slice a0 len0 cap0, c1, c2, c3, c4, .int .i64 (tl : Nat), c6, c7, c8, c9, c10, c11, c12, c13, c14, c15, c16, c17, c18, c19, c20, c21, c22, c23, c24, c25, c26, c27, c28, c29, c30, c31, c32, c33, c34, c35, c36, c37, c38, c39, c40, c41, c42, c43, c44, c45, c46, c47, c48, c49, c50, c51, c52, c53, c54, c55, c56, c57, c58, c59, c60, c61, c62, c63, c64, c65, c66, c67, c68, c69, c70, c71, c72, c73, c74, c75, c76, c77, c78, c79, c80, c81, c82, c83, c84, c85, c86, c87, c88, c89, c90, c91, c92, c93, c94, c95, c96, c97, c98, c99, c100, c101, c102, c103, c104, c105, c106, c107, c108], []⟩ w := by
  conv => arg 2; whnf
  have hmk := run_make_row' (P := Ybad.prog) 34 4 (.bool false) 1 Ybad.underlying34 Ybad.info4 rfl .i64 .i64 (tl * 64) (by omega) (by omega)
  rw [show ((tl * 64 : Nat) : Int) = (tl : Int) * 64 from by omega] at hmk
  go_wp2_with (go_at_call 6; refine (newSets_any tl w h1 h8).mono ?_; rintro e w1 ⟨rfl, k1, k2, k3, k4⟩)
  rename_i K0 hK0
  have HK0 := hide hK0
  clear hK0 hmk k1
  have P0 := pst_start k3 (Nat.le_refl _) k2
  rw [k4] at P0
  obtain ⟨R, hRe⟩ : ∃ R, w.heap.size = R := ⟨_, rfl⟩
  rw [hRe] at P0 ⊢
  obtain ⟨M, hMe⟩ : ∃ M, R + 2 = M := ⟨_, rfl⟩
  rw [hMe] at P0 ⊢
  clear hMe k2 k3 k4
  go_loopg [37] len0 (fun g v wx => ∃ (k : Nat) (ws : List Nat) (mk : List Bool), k ≤ len0 ∧ g = len0 - k ∧ v = .int .i64 k ∧ PSt w wx R M tl ws mk)
  case atStart => go_light; exact ⟨0, _, _, by omega, rfl, rfl, P0⟩
  case round =>
    rename World => w2
    rename_i J2 K2 hJ2 hK2
    clear P0
    obtain ⟨k, ws, mk, hk, rfl, rfl, hP⟩ := hrel
    by_cases hlt : k < len0
    · have hlt' : (k : Int) < (len0 : Int) := by omega
      rcases h0 with h0 | ⟨b, off, rfl, hb, hc⟩
      · omega
      obtain ⟨b1, b2⟩ := b0 k
      have e1 : w2.cell? ⟨b, off + k, none⟩ = some (.int .u16 (z0.getD k 0)) := by rw [hP.below.cell (p := ⟨b, off + k, none⟩) hb]; exact hc k hlt
      obtain ⟨s, hs⟩ : ∃ s, z0.getD k 0 = s := ⟨_, rfl⟩
      rw [hs] at e1 b1 b2
      clear hs hc b0
      have ht64 : (0 : Int) < (tl : Int) * 64 := by omega
      have hm1 := Int.emod_nonneg s (show (tl : Int) * 64 ≠ 0 by omega)
      have hm2 := Int.emod_lt_of_pos s ht64
      go_upto_region 11 with fail
      go_cut [12] from 38 to 52 (fun v wx => wx = w2 ∧ ∃ c : Nat, c < 64 * tl ∧ v = .int .i32 c)
      case first =>
        go_wp2
        go_meet
        case rel => go_light; exact ⟨rfl, (s % ((tl : Int) * 64)).toNat, by omega, by rw [Int.toNat_of_nonneg hm1]⟩
      case rest =>
        obtain ⟨rfl, c, hcl, rfl⟩ := hcut
        clear hm1 hm2 ht64 b1 b2
        have PC := hide (put_any R tl tl c ws wc hcl h8 hP.lw hP.h64 hP.hR)
        have hc' : (c : Int) < ((tl * 64 : Nat) : Int) := by omega
        have hlm := hP.lm
        have o2 := hP.o2
        go_wp2_with (go_at_call 7; refine PC.out.mono ?_; rintro e w3 ⟨bb, rfl, k1, k2⟩; have m1 := BB.cell (Blk.chg hP.hM k2 (by simp; omega)) c (by omega); have m2 := Blk.frozen (Blk.chg hP.hM k2 (by simp; omega)) c)
        have R2 := hP.step c hcl k1 k2
        clear k1 k2 m1 m2 PC hP
        go_roundg (len0 - (k + 1))
        case measure => go_light; omega
        case rel => go_light; exact ⟨k + 1, _, _, by omega, rfl, by go_num, R2⟩
    · clear hJ2 hK2
      go_wp2
      exact HK0.out _ _ (ptail15 _ _ _ _ _ _ _ _ _ _ _ _ _ _ _ _ _ _ _ _ _ _ _ _ _ _ _ _ _ _ _ _ _ _ _ _ _ _ _ _ _ _ _ _ _ _ _ _ _ _ _ _ _ _ _ _ _ _ _ _ _ _ _ _ _ _ _ _ _ _ _ _ _ _ _ _ _ _ _ _ _ _ _ _ _ _ _ _ _ _ _ _ _ _ _ _ _ _ _ _ _ _ _ _ _ _ R M tl ws mk w w2 h1 h8 hT hP)

set_option maxHeartbeats 1600000 in
set_option maxRecDepth 1000000 in
theorem lawP_any (a0 : Option Addr) (len0 cap0 nw : Nat) (z0 : List Int) (w : World)
    (h0 : Rd .u16 w a0 len0 z0) (b0 : ∀ i, 0 ≤ z0.getD i 0 ∧ z0.getD i 0 ≤ 65535) (l0 : len0 ≤ 1024) (hnw : nw ≤ 255) (hT : Tab w) :
    Calls Ybad.prog 4 #[.slice a0 len0 cap0, .int .u8 (nw : Int)] w fun e w' => e = .returned (.bool true) ∧ Below w.heap.size w w' := by
  go_enter Ybad.func4, Ybad.ntmps4
  go_upto_region 3 with fail
  rename_i K0 hK0
  have HK0 := hide hK0
  clear hK0
  go_cut [5] (fun v5 wx => wx = w ∧ ∃ tl : Nat, 1 ≤ tl ∧ tl ≤ 8 ∧ v5 = .int .i64 tl)
  case first =>
    go_wp2
    go_meet
    case rel => go_light; exact ⟨rfl, nw % 8 + 1, by omega, by omega, by simp⟩
  case rest =>
    obtain ⟨rfl, tl, h1, h8, rfl⟩ := hcut
    exact HK0.out _ _ (ptail4 _ _ _ _ _ _ _ _ _ _ _ _ _ _ _ _ _ _ _ _ _ _ _ _ _ _ _ _ _ _ _ _ _ _ _ _ _ _ _ _ _ _ _ _ _ _ _ _ _ _ _ _ _ _ _ _ _ _ _ _ _ _ _ _ _ _ _ _ _ _ _ _ _ _ _ _ _ _ _ _ _ _ _ _ _ _ _ _ _ _ _ _ _ _ _ _ _ _ _ _ _ _ _ _ _ _ _ a0 len0 cap0 tl z0 _ h0 b0 l0 h1 h8 hT)

end Go.Proofs.YbulkcicwDoor
