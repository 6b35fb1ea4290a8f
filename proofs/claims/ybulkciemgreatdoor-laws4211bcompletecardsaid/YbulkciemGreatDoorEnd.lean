import Derived.Test.YbulkciemGreatDoorStart
namespace Go.Proofs.YbulkciemGreatDoor
open Go.RowKit
set_option linter.unusedVariables false
set_option linter.unusedSimpArgs false
attribute [local go_sem ↓] append_held

theorem clear_nil (w : World) : (Builtin.clear_ #[62] 0 #[.slice none 0 0]).run Ybaz.prog w = .ok (.tuple #[]) w := by kernel_rfl

set_option maxRecDepth 6000 in
set_option maxHeartbeats 3200000 in
theorem release12 (F R : Nat) (ops free cfgs done vis reached : Value) (charged left : Int) (w : World) (hF : Blk w F 73 (fro F R ops free cfgs done vis reached charged)) (hR : Blk w R 44 (roo left)) (h0 : 0 ≤ left) (h1 : left ≤ 1099511627776) (h2 : 0 ≤ charged) (h3 : charged ≤ 1099511627776) :
    Calls Ybaz.prog 12 #[.pointer (some ⟨F, 16, none⟩)] w fun e w' => e = .returned (.tuple #[]) ∧ Blk w' F 73 (fro F R ops free cfgs done vis reached 0) ∧ Blk w' R 44 (roo (left + charged)) ∧ Chg [F, R] w w' := by
  have hne : F ≠ R := hF.tag.ne hR.tag (by decide)
  have hne' := hne.symm
  have e16 : w.cell? ⟨F, 16, none⟩ = some (.pointer (some ⟨F, 0, none⟩)) := hF.cell 16
  have e31 : w.cell? ⟨F, 31, none⟩ = some (.int .i64 charged) := hF.cell 31
  have e26 : w.cell? ⟨F, 26, none⟩ = some (.slice none 0 0) := hF.cell 26
  have e29 : w.cell? ⟨F, 29, none⟩ = some (.slice none 0 0) := hF.cell 29
  have e52 : w.cell? ⟨F, 52, none⟩ = some (.pointer (some ⟨R, 0, none⟩)) := hF.cell 52
  have r2 : w.cell? ⟨R, 2, none⟩ = some (.int .i64 left) := hR.cell 2
  have f31 := hF.frozen 31
  have f26 := hF.frozen 26
  have g2 := hR.frozen 2
  have k1 : wrap64 (left + charged) = left + charged := by simp [wrap64]; omega
  have hR1 : Blk ((w.setCell ⟨R, 2, none⟩ (.int .i64 (left + charged))).drew) R 44 (roo (left + charged)) := (hR.put 2 _).drew
  have hF1 : Blk ((w.setCell ⟨R, 2, none⟩ (.int .i64 (left + charged))).drew) F 73 (fro F R ops free cfgs done vis reached charged) := (hF.other hne 2 _).drew
  have hcn := clear_nil
  have H := hide (And.intro hF1 hR1)
  clear hF hR hF1 hR1
  go_enter Ybaz.func12, Ybaz.ntmps12
  go_wp2
  go_region
  go_wp2_with fail
  obtain ⟨W, hW⟩ : ∃ W, W = (((w.setCell ⟨R, 2, none⟩ (.int .i64 (left + charged))).setCell ⟨F, 31, none⟩ (.int .i64 0)).setCell ⟨F, 26, none⟩ (.slice none 0 0)).drew := ⟨_, rfl⟩
  go_loopg [55] 0 (fun g0 v55 wx => v55 = .int .i64 0 ∧ wx = W)
  case atStart => go_light; exact ⟨rfl, hW.symm⟩
  case round =>
    rename World => w2
    rename_i J2 K2 hJ2 hK2
    obtain ⟨rfl, rfl⟩ := hrel
    clear hJ2 hK2
    have HW := hide hW
    clear hW
    go_wp2
    go_end0
    rw [HW.out]
    refine ⟨rfl, ?_, ?_, ?_⟩
    · exact ((H.out.1.put 31 (.int .i64 0)).put 26 (.slice none 0 0)).drew
    · exact ((H.out.2.other hne' 31 _).other hne' 26 _).drew
    · exact (((chg_setCell (a := ⟨R, 2, none⟩) (by simp) _).trans (chg_setCell (a := ⟨F, 31, none⟩) (by simp) _)).trans (chg_setCell (a := ⟨F, 26, none⟩) (by simp) _)).drew

/-- What close leaves: slot 1 is free. -/
def Closed (w w' : World) (F R O c : Nat) (a cfgs done vis reached : Value) (charged : Int) : Prop :=
  ∃ g cc, Blk w' F 73 (fro F R (.slice (some ⟨O, 0, none⟩) 2 c) (.slice (some ⟨g, 0, none⟩) 1 cc) cfgs done vis reached charged) ∧ Blk w' O 74 [a, .pointer none] ∧
      w'.cell? ⟨g, 0, none⟩ = some (.int .i64 1) ∧ Tag w' g 3 ∧ Chg [F, O] w w'
theorem Ybaz.info3 : (Ybaz.prog.info? 3).map (fun i => (i.zero, i.size, i.bytes)) = some (some (.int .i64 0), 1, 8) := by kernel_rfl

set_option maxRecDepth 6000 in
set_option maxHeartbeats 3200000 in
theorem close14 (F R O c : Nat) (a b cfgs done vis reached : Value) (charged : Int) (w : World) (hF : Blk w F 73 (fro F R (.slice (some ⟨O, 0, none⟩) 2 c) (.slice none 0 0) cfgs done vis reached charged)) (hO : Blk w O 74 [a, b]) :
    Calls Ybaz.prog 14 #[.pointer (some ⟨F, 0, none⟩), .int .i64 1] w fun e w' => e = .returned (.tuple #[]) ∧ Closed w w' F R O c a cfgs done vis reached charged := by
  have hne : F ≠ O := hF.tag.ne hO.tag (by decide)
  have hne' := hne.symm
  have e3 : w.cell? ⟨F, 3, none⟩ = some (.slice (some ⟨O, 0, none⟩) 2 c) := hF.cell 3
  have e4 : w.cell? ⟨F, 4, none⟩ = some (.slice none 0 0) := hF.cell 4
  have f4 := hF.frozen 4
  have o1 : w.cell? ⟨O, 1, none⟩ = some b := hO.cell 1
  have p1 := hO.frozen 1
  obtain ⟨t0, ht0, hz0, hz1, hz2⟩ := info_parts Ybaz.info3
  have hrow : (((w.setCell ⟨O, 1, none⟩ (.pointer none)).alloc (.cells #[.int .i64 1] 3))).ownsRow w.heap.size 3 1 (.slice none 0 0) 0 [] := ⟨rfl, .inl ⟨rfl, rfl⟩⟩
  obtain ⟨v', w1, hrun, hown', hgrow, hnil', hblk⟩ := run_append_own_at (P := Ybaz.prog) ((w.setCell ⟨O, 1, none⟩ (.pointer none)).alloc (.cells #[.int .i64 1] 3)) w.heap.size 34 34 3 t0 _ 1 8 Ybaz.underlying34 ht0 hz0 hz1 hz2 rfl (by decide) (.slice none 0 0) 0 [] hrow ⟨w.heap.size, 0, none⟩ 1 1 [.int .i64 1] rfl
    (by
      intro j u hj
      rw [Addr.add_lit]
      have := (Blk.new (w.setCell ⟨O, 1, none⟩ (.pointer none)) 3 [.int .i64 1]).cell j
      rw [hj] at this
      simpa using this)
    (by intro u hu; simp at hu; subst hu; rfl) (by unfold maxLen; omega) (by omega) (by simp)
  obtain ⟨g', c', rfl, hg', htag⟩ := owned_slice hown' (by omega)
  have hc1 : Chg [] (w.setCell ⟨O, 1, none⟩ (.pointer none)) w1 := by
    refine Chg.trans ((Chg.refl _ _).alloc _) (chg_grown hgrow ?_)
    intro k hk _
    simp [Value.ownBlock] at hk
  have hF1 := (hF.other hne 1 (.pointer none)).chg hc1 (by simp)
  have hO1 : Blk w1 O 74 [a, .pointer none] := (hO.put 1 (.pointer none)).chg hc1 (by simp)
  have cg : w1.cell? ⟨g', 0, none⟩ = some (.int .i64 1) := by
    rcases hown'.2 with ⟨h', _⟩ | ⟨g2, cap, cur, h', _, hgg, _, _, hs, ht⟩
    · cases h'
    · simp only [Value.slice.injEq, Option.some.injEq, Addr.mk.injEq, and_true, true_and] at h'
      obtain ⟨rfl, rfl⟩ := h'
      have := congrArg (fun l => l[0]?) ht
      rw [cell_of_row w1 g' 0 _ 3 (0, 0) hgg]
      simp [List.getElem?_take] at this
      simpa using this
  have hgF : g' ≠ F := htag.ne hF1.tag (by decide)
  have hrun' : Sem.run Ybaz.prog (appendHeld #[34, 34] 34 #[.slice none 0 0, .slice (some ⟨w.heap.size, 0, none⟩) 1 1]) ((w.setCell ⟨O, 1, none⟩ (.pointer none)).alloc (.cells #[.int .i64 1] 3)) = .ok (.slice (some ⟨g', 0, none⟩) 1 c') w1 := hrun
  have x4 : w1.cell? ⟨F, 4, none⟩ = some (.slice none 0 0) := hF1.cell 4
  have y4 := hF1.frozen 4
  have H := hide (And.intro hF1 (And.intro hO1 (And.intro cg (And.intro htag hc1))))
  have hOlt := hO.lt
  clear hF hO hF1 hO1 cg htag hc1 hown' hgrow hrun hrow hblk
  go_enter Ybaz.func14, Ybaz.ntmps14
  go_wp2
  refine bodyPost_end (results_none rfl _ _ _) rfl ?_
  obtain ⟨hF1, hO1, cg, htag, hc1⟩ := H.out
  refine ⟨rfl, g', c', hF1.put 4 _, hO1.other hne' 4 _, ?_, htag.setCell _ _ _, ?_⟩
  · rw [World.cell?_setCell_other _ _ _ _ (by simp [hgF])]
    exact cg
  · exact ((chg_setCell (a := ⟨O, 1, none⟩) (by simp) _).trans (hc1.mono (by simp))).trans (chg_setCell (a := ⟨F, 4, none⟩) (by simp) _)
end Go.Proofs.YbulkciemGreatDoor
