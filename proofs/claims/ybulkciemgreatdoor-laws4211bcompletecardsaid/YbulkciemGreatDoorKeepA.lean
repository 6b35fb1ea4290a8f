import Derived.Test.YbulkciemGreatDoorMaps
import Derived.Laws.MakeOwn
namespace Go.Proofs.YbulkciemGreatDoor
open Go.RowKit
set_option linter.unusedVariables false
set_option linter.unusedSimpArgs false
attribute [local go_sem ↓] append_held

set_option maxRecDepth 6000 in
set_option maxHeartbeats 3200000 in
theorem alike32 (F g n c : Nat) (w : World) (e35 : w.cell? ⟨F, 35, none⟩ = some (.int .i64 0)) :
    Calls Ybaz.prog 32 #[.pointer (some ⟨F, 0, none⟩), .slice (some ⟨g, 0, none⟩) n c] w fun e w' => e = .returned (.slice (some ⟨g, 0, none⟩) n c) ∧ Below w.heap.size w w' := by
  have hFlt := World.block_lt_of_cell? _ _ e35
  go_enter Ybaz.func32, Ybaz.ntmps32
  go_wp2_with fail
  go_quiet (fail)
  go_wp2
  go_ret
  exact ⟨rfl, below_drewN ((Below.refl _ _).alloc (Nat.le_refl _) _) _⟩
/-- What keep leaves: the configurations are those it was handed. -/
def Kept (w w' : World) (F R n : Nat) (ops free done vis reached : Value) (charged : Int) (cs : List Value) : Prop :=
  ∃ v', Blk w' F 73 (fro F R ops free v' done vis reached charged) ∧ w'.ownsRow 0 37 6 v' n cs ∧ Chg [F] w w'

def rowsN (st : Nat → ByteArray) (v : Nat → Value) : Nat → List Value
  | 0 => []
  | n + 1 => rowsN st v n ++ cells6 (st n) (v n)

/-- The world while keep goes: only new blocks have turned; nothing is beaten. -/
structure Ks (w0 w : World) (b BT g c n : Nat) (st : Nat → ByteArray) (v : Nat → Value) : Prop where
  chg : Chg [] w0 w
  kr : Kr w0 g c n st v
  hb : w.cell? ⟨b, 0, none⟩ = some (.slice (some ⟨g, 0, none⟩) n c)
  tb : Tag w b 27
  tB : Tag w BT 4
  hB : ∀ i, i < n → w.cell? ⟨BT, i, none⟩ = some (.bool false)
  lb : w0.heap.size ≤ b
  lB : w0.heap.size ≤ BT
theorem Ks.step {w0 w w' : World} {b BT g c n : Nat} {st : Nat → ByteArray} {v : Nat → Value} {S : List Nat} (h : Ks w0 w b BT g c n st v) (hc : Chg S w w') (hS : ∀ s ∈ S, w0.heap.size ≤ s) (h1 : b ∉ S) (h2 : BT ∉ S) : Ks w0 w' b BT g c n st v :=
  ⟨h.chg.trans' hc (fun s hs hlt => by have := hS s hs; omega), h.kr, (cell_chg hc h.tb h1).trans h.hb, h.tb.chg hc h1, h.tB.chg hc h2, fun i hi => (cell_chg hc h.tB h2).trans (h.hB i hi), h.lb, h.lB⟩
theorem Ks.kr' {w0 w : World} {b BT g c n : Nat} {st : Nat → ByteArray} {v : Nat → Value} (h : Ks w0 w b BT g c n st v) : Kr w g c n st v := h.kr.chg h.chg (by simp)
theorem owns_zero {w : World} {base n size : Nat} {e : TypeId} {v : Value} {xs : List Value} (h : w.ownsRow base e size v n xs) : w.ownsRow 0 e size v n xs := by
  refine ⟨h.1, ?_⟩
  rcases h.2 with h' | ⟨g, cap, cur, h1, _, h3⟩
  · exact .inl h'
  · exact .inr ⟨g, cap, cur, h1, Nat.zero_le _, h3⟩

set_option maxRecDepth 1000000 in
set_option maxHeartbeats 3200000 in
theorem tail29 (c1 c2 c4 c6 c7 c8 c9 c10 c11 c12 c13 c14 c15 c16 c17 c18 c19 c20 c21 c22 c23 c24 c25 c26 c27 c28 c29 c30 c31 c32 c33 c34 c35 c36 c37 c38 c39 c40 c41 c42 c43 c44 c45 c46 c47 c48 c49 c50 c51 c52 c53 c54 c55 c56 c57 c58 c59 c60 c61 c62 c63 c64 c65 c66 c67 c68 c69 c70 c71 c72 c73 c74 c75 c76 c77 c78 c79 c80 c81 c82 c83 c84 c85 c86 c87 c88 c89 c90 c91 c92 c93 c94 c95 c96 c97 c98 c99 c100 c101 c102 c103 c104 c105 c106 c107 c108 c109 c110 c111 c112 c113 c114 c115 c116 c117 c118 c119 c120 c121 c122 c123 c124 : Value) (F R b BT g c n : Nat) (st : Nat → ByteArray) (v : Nat → Value) (ops free cfgs done vis reached : Value) (charged : Int) (w0 w : World) (hF : Blk w0 F 73 (fro F R ops free cfgs done vis reached charged)) (hk : Ks w0 w b BT g c n st v) (hn : n ≤ 1000) :
    Code.wp Ybaz.prog (tailAt 29 (Ybaz.f15.body.getD .skip)) (bodyPost Ybaz.prog Ybaz.f15 fun e w' => e = .returned (.tuple #[]) ∧ Kept w0 w' F R n ops free done vis reached charged (rowsN st v n)) ⟨#[.pointer (some ⟨F, 0, none⟩), c1, c2, .pointer (some ⟨b, 0, none⟩), c4, .slice (some ⟨BT, 0, none⟩) n n, c6, c7, c8, c9, c10, c11, c12, c13, c14, c15, c16, c17, c18, c19, c20, c21, c22, c23, c24, c25, c26, c27, c28, c29, c30, c31, c32, c33, c34, c35, c36, c37, c38, c39, c40, c41, c42, c43, c44, c45, c46, c47, c48, c49, c50, c51, c52, c53, c54, c55, c56, c57, c58, c59, c60, c61, c62, c63, c64, c65, c66, c67, c68, c69, c70, c71, c72, c73, c74, c75, c76, c77, c78, c79, c80, c81, c82, c83, c84, c85, c86, c87, c88, c89, c90, c91, c92, c93, c94, c95, c96, c97, c98, c99, c100, c101, c102, c103, c104, c105, c106, c107, c108, c109, c110, c111, c112, c113, c114, c115, c116, c117, c118, c119, c120, c121, c122, c123, c124], []⟩ w := by
  conv => arg 2; whnf
  obtain ⟨t0, ht0, hz0, hz1, hz2⟩ := info_parts Ybaz.info37
  obtain ⟨w1, hmk, hmo, hmg⟩ := run_make_own (P := Ybaz.prog) w w0.heap.size 27 37 t0 _ 6 Ybaz.underlying27 ht0 hz0 hz1 .i64 .i64 n (by rw [hz2]; omega) (by unfold maxLen; omega) hk.chg.size
  have hc1 : Chg [] w w1 := chg_grown hmg (by simp)
  have hk1 := hk.step hc1 (by simp) (by simp) (by simp)
  have e0 := hk.hb
  have e1 := hk1.hb
  have HF := hide hF
  have HK1 := hide hk1
  have HO1 := hide hmo
  clear hF hk hk1 hmo hmg hc1
  go_wp2_with fail
  rename_i K0 hK0
  have HK0 := hide hK0
  clear hK0
  go_loopg [13, 103] n (fun g0 v13 v103 wx => ∃ i : Nat, i ≤ n ∧ g0 = n - i ∧ v103 = .int .i64 i ∧ Ks w0 wx b BT g c n st v ∧ (∃ G cc, v13 = .slice (some ⟨G, 0, none⟩) i cc) ∧ wx.ownsRow w0.heap.size 37 6 v13 i (rowsN st v i))
  case atStart => go_light; exact ⟨0, by omega, rfl, rfl, HK1.out, ⟨_, _, rfl⟩, HO1.out⟩
  case round =>
    rename World => w2
    rename_i J2 K2 hJ2 hK2
    obtain ⟨i, hi, rfl, rfl, hk2, ⟨G, cc, rfl⟩, ho2⟩ := hrel
    have hBlt := hk2.tB.lt
    have hglt := hk2.kr'.tag.lt
    by_cases hlt : i < n
    · have hlt' : (i : Int) < (n : Int) := by omega
      have a0 : w2.cell? ⟨g, i * 6, none⟩ = some (.string (st i)) := hk2.kr'.cell i hlt 0 _ rfl
      have a1 : w2.cell? ⟨g, i * 6 + 1, none⟩ = some (.slice none 0 0) := hk2.kr'.cell i hlt 1 _ rfl
      have a2 : w2.cell? ⟨g, i * 6 + 2, none⟩ = some (v i) := hk2.kr'.cell i hlt 2 _ rfl
      have a3 : w2.cell? ⟨g, i * 6 + 3, none⟩ = some (.slice none 0 0) := hk2.kr'.cell i hlt 3 _ rfl
      have a4 : w2.cell? ⟨g, i * 6 + 4, none⟩ = some (.slice none 0 0) := hk2.kr'.cell i hlt 4 _ rfl
      have a5 : w2.cell? ⟨g, i * 6 + 5, none⟩ = some (.slice none 0 0) := hk2.kr'.cell i hlt 5 _ rfl
      have hBi := hk2.hB i hlt
      have hrs : rowsN st v (i + 1) = rowsN st v i ++ cells6 (st i) (v i) := rfl
      obtain ⟨p1, p2, p3, hp⟩ := hk2.kr.sl i hlt
      rw [hp] at a2 hrs
      obtain ⟨v', w3, hrun, hown', hgrow, hnil', hblk⟩ := run_append_own_at (P := Ybaz.prog) ((w2.alloc (.cells (cells6 (st i) (.slice (some ⟨p1, 0, none⟩) p2 p3)).toArray 37)).alloc (.cells (cells6 (st i) (.slice (some ⟨p1, 0, none⟩) p2 p3)).toArray 37)) w0.heap.size 27 27 37 t0 _ 6 136 Ybaz.underlying27 ht0 hz0 hz1 hz2 rfl (by decide) (.slice (some ⟨G, 0, none⟩) i cc) i _ ((ho2.alloc _).alloc _) ⟨w2.heap.size + 1, 0, none⟩ 1 1 (cells6 (st i) (.slice (some ⟨p1, 0, none⟩) p2 p3)) rfl
        (by
          intro j u hj
          rw [Addr.add_lit]
          have hb2 : Blk ((w2.alloc (.cells (cells6 (st i) (.slice (some ⟨p1, 0, none⟩) p2 p3)).toArray 37)).alloc (.cells (cells6 (st i) (.slice (some ⟨p1, 0, none⟩) p2 p3)).toArray 37)) (w2.alloc (.cells (cells6 (st i) (.slice (some ⟨p1, 0, none⟩) p2 p3)).toArray 37)).heap.size 37 (cells6 (st i) (.slice (some ⟨p1, 0, none⟩) p2 p3)) := Blk.new _ 37 _
          rw [World.size_alloc] at hb2
          have := hb2.cell j
          rw [hj] at this
          simpa using this)
        (by intro u hu; simp [cells6] at hu; rcases hu with rfl | rfl | rfl | rfl <;> rfl) (by unfold maxLen; omega) (by omega) (by have := hk2.chg.size; simp; omega)
      obtain ⟨g', c', rfl, hg', htag⟩ := owned_slice hown' (by omega)
      rw [← hrs] at hown'
      have cg : Chg [G] w2 w3 := by
        refine Chg.trans (((Chg.refl _ w2).alloc _).alloc _) (chg_grown hgrow ?_)
        intro k hk _
        simp [Value.ownBlock] at hk
        simp [hk]
      have hGt := owned_block ho2 (g := G) rfl
      have hk3 := hk2.step cg (by simpa using hGt.1) (by simp; exact hk2.tb.ne hGt.2 (by decide)) (by simp; exact hk2.tB.ne hGt.2 (by decide))
      have hrun' : Sem.run Ybaz.prog (appendHeld #[27, 27] 27 #[.slice (some ⟨G, 0, none⟩) i cc, .slice (some ⟨w2.heap.size + 1, 0, none⟩) 1 1]) ((w2.alloc (.cells (cells6 (st i) (.slice (some ⟨p1, 0, none⟩) p2 p3)).toArray 37)).alloc (.cells (cells6 (st i) (.slice (some ⟨p1, 0, none⟩) p2 p3)).toArray 37)) = .ok (.slice (some ⟨g', 0, none⟩) (i + 1) c') w3 := hrun
      simp only [cells6] at hrun'
      have H3 := hide (And.intro hk3 hown')
      clear hk2 ho2 hk3 hown' hgrow hrun hblk cg hGt htag hmk e0 e1 hp hrs
      go_wp2
      go_roundg (n - (i + 1))
      case measure => go_light; omega
      case rel => go_light; exact ⟨i + 1, by omega, rfl, by go_num, H3.out.1, ⟨_, _, rfl⟩, H3.out.2⟩
    · have hin : i = n := by omega
      subst hin
      have hF2 := HF.out.chg hk2.chg (by simp)
      have HA := hide (alike32 F G i cc w2 (hF2.cell 35))
      have H2 := hide (And.intro hF2 (And.intro hk2 ho2))
      clear hF2 hk2 ho2 hJ2 hK2 hmk e0 e1
      have hK0 := HK0.out
      clear HK0
      go_wp2_with (go_at_call 32; refine HA.out.mono ?_; rintro e w4 ⟨rfl, b4⟩; (have hF4 := H2.out.1.below b4 H2.out.1.lt); (have x6 : w4.cell? ⟨F, 6, none⟩ = some cfgs := hF4.cell 6); (have y6 := hF4.frozen 6); have H4 := hide (And.intro hF4 b4); clear hF4 b4)
      refine bodyPost_end (results_none rfl _ _ _) rfl ?_
      obtain ⟨hF4, b4⟩ := H4.out
      obtain ⟨hF2, hk2, ho2⟩ := H2.out
      have c4 : Chg [F] w4 (w4.setCell ⟨F, 6, none⟩ (.slice (some ⟨G, 0, none⟩) i cc)) := chg_setCell (a := ⟨F, 6, none⟩) (by simp) _
      have hGF : G ≠ F := (owned_block ho2 (g := G) rfl).2.ne hF2.tag (by decide)
      refine ⟨rfl, _, hF4.put 6 _, owns_zero (owns_chg (owns_chg ho2 (Chg.ofBelow (S := []) b4) (by simp)) c4 (by intro k hk; simp [Value.ownBlock] at hk; subst hk; simpa using hGF)), ?_⟩
      exact ((hk2.chg.mono (T := [F]) (by simp)).trans (Chg.ofBelow b4)).trans c4
end Go.Proofs.YbulkciemGreatDoor
