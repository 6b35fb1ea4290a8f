import Derived.Test.YbulkciemGreatDoorDel3
namespace Go.Proofs.YbulkciemGreatDoor
open Go.RowKit
set_option linter.unusedVariables false

/-- The room: its context is the background, its steps are nil. -/
def roo (left : Int) : List Value := [.iface 89 (.agg #[]), .int .i64 1099511627776, .int .i64 left, .pointer none]

theorem errM (n : Nat) (w : World) : (method (n + 1) 89 (.agg #[]) "Err").run Ybaz.prog w = .ok (142, .agg #[]) w := by kernel_rfl
def methodHeld (n : Nat) (t : TypeId) (v : Value) (s : String) : Sem (FuncId × Value) := method n t v s
theorem method_held (n : Nat) (t : TypeId) (v : Value) (s : String) : method n t v s = methodHeld n t v s := rfl
attribute [local go_sem ↓] method_held

theorem err142 (w : World) : Calls Ybaz.prog 142 #[.agg #[]] w fun e w' => e = .returned .nilIface ∧ Below w.heap.size w w' := by
  go_enter Ybaz.func142, Ybaz.ntmps142
  go_wp2
  go_ret
  exact ⟨rfl, (Below.refl _ _).alloc (Nat.le_refl _) _⟩

set_option maxRecDepth 6000 in
set_option maxHeartbeats 800000 in
theorem spent83 (R : Nat) (left : Int) (w : World) (hR : Blk w R 44 (roo left)) (h0 : 0 ≤ left) : Calls Ybaz.prog 83 #[.pointer (some ⟨R, 0, none⟩)] w fun e w' => e = .returned (.bool false) ∧ Below w.heap.size w w' := by
  have e0 : w.cell? ⟨R, 0, none⟩ = some (.iface 89 (.agg #[])) := hR.cell 0
  have e2 : w.cell? ⟨R, 2, none⟩ = some (.int .i64 left) := hR.cell 2
  have e3 : w.cell? ⟨R, 3, none⟩ = some (.pointer none) := hR.cell 3
  have hd : ¬ (left < 0) := by omega
  have hm : (methodHeld 348 89 (.agg #[]) "Err").run Ybaz.prog w = .ok (142, .agg #[]) w := errM 347 w
  have HR := hide hR
  clear hR
  go_enter Ybaz.func83, Ybaz.ntmps83
  go_wp2_with (go_at_call 142; refine (err142 _).mono ?_; rintro e w3 ⟨rfl, b3⟩; have B3 := hide b3; clear b3)
  go_ret
  exact ⟨rfl, B3.out⟩

/-- The frontier's cells once its chain has started. -/
def fro (F R : Nat) (ops free cfgs done vis reached : Value) (charged : Int) : List Value :=
  [.nilIface, .nilIface, .nilIface, ops, free, .slice none 0 0, cfgs, .map none, .int .i64 0, .map none, .map none, .slice none 0 0, .slice none 0 0, .int .i64 0, .slice none 0 0, .map none,
    .pointer (some ⟨F, 0, none⟩), .int .i64 7, .int .i64 1, .int .i64 3, done, .bool false, .bool false, .string ⟨#[]⟩, .string ⟨#[]⟩, .bool false, .slice none 0 0, vis, reached, .slice none 0 0, .int .i64 0, .int .i64 charged, .bool false, .slice none 0 0, .slice none 0 0,
    .int .i64 0, .bool false, .bool false, .bool false, .slice none 0 0, .slice none 0 0, .slice none 0 0, .slice none 0 0, .slice none 0 0, .slice none 0 0, .int .i64 0, .map none, .int .i64 0, .slice none 0 0, .int .i64 0, .int .i64 0, .bool false, .pointer (some ⟨R, 0, none⟩), .int .i64 0, .bool false]

set_option maxRecDepth 6000 in
set_option maxHeartbeats 800000 in
theorem charge42 (F R n : Nat) (ops free cfgs done vis reached : Value) (charged left : Int) (w : World) (hF : Blk w F 73 (fro F R ops free cfgs done vis reached charged)) (hR : Blk w R 44 (roo left)) (hne : F ≠ R)
    (hn : n ≤ 1000000) (h0 : 0 ≤ left - n) (h1 : left ≤ 1099511627776) (h2 : 0 ≤ charged) (h3 : charged ≤ 1099511627776) :
    Calls Ybaz.prog 42 #[.pointer (some ⟨F, 16, none⟩), .int .i64 n] w fun e w' => e = .returned (.bool true) ∧ Blk w' F 73 (fro F R ops free cfgs done vis reached (charged + n)) ∧ Blk w' R 44 (roo (left - n)) ∧ Chg [F, R] w w' := by
  have e16 : w.cell? ⟨F, 16, none⟩ = some (.pointer (some ⟨F, 0, none⟩)) := hF.cell 16
  have e31 : w.cell? ⟨F, 31, none⟩ = some (.int .i64 charged) := hF.cell 31
  have e32 : w.cell? ⟨F, 32, none⟩ = some (.bool false) := hF.cell 32
  have e52 : w.cell? ⟨F, 52, none⟩ = some (.pointer (some ⟨R, 0, none⟩)) := hF.cell 52
  have r2 : w.cell? ⟨R, 2, none⟩ = some (.int .i64 left) := hR.cell 2
  have f31 := hF.frozen 31
  have f32 := hF.frozen 32
  have g2 := hR.frozen 2
  have k1 : wrap64 (charged + n) = charged + n := by simp [wrap64]; omega
  have k2 : wrap64 (left - n) = left - n := by simp [wrap64]; omega
  have hne' := hne.symm
  have hF1 : Blk (w.setCell ⟨F, 31, none⟩ (.int .i64 (charged + n))) F 73 (fro F R ops free cfgs done vis reached (charged + n)) := hF.put 31 _
  have hR1 : Blk (w.setCell ⟨F, 31, none⟩ (.int .i64 (charged + n))) R 44 (roo left) := hR.other hne' 31 _
  have hF2 : Blk ((w.setCell ⟨F, 31, none⟩ (.int .i64 (charged + n))).setCell ⟨R, 2, none⟩ (.int .i64 (left - n))) F 73 (fro F R ops free cfgs done vis reached (charged + n)) := hF1.other hne 2 _
  have hR2 : Blk ((w.setCell ⟨F, 31, none⟩ (.int .i64 (charged + n))).setCell ⟨R, 2, none⟩ (.int .i64 (left - n))) R 44 (roo (left - n)) := hR1.put 2 _
  have HS := hide (spent83 R (left - n) _ hR2 h0)
  have H := hide (And.intro hF2 hR2)
  clear hF hR hF1 hR1 hF2 hR2
  go_enter Ybaz.func42, Ybaz.ntmps42
  go_wp2_with (go_at_call 83; refine HS.out.mono ?_; rintro e w3 ⟨rfl, b3⟩; (have hF3 : Blk w3 F 73 (fro F R ops free cfgs done vis reached (charged + n)) := H.out.1.below b3 H.out.1.lt); (have hR3 : Blk w3 R 44 (roo (left - n)) := H.out.2.below b3 H.out.2.lt); (have x32 : w3.cell? ⟨F, 32, none⟩ = some (.bool false) := hF3.cell 32); (have y32 := hF3.frozen 32); have B3 := hide b3; have H3 := hide (And.intro hF3 hR3); clear b3 hF3 hR3)
  go_ret
  refine ⟨rfl, H3.out.1.put 32 (.bool false), H3.out.2.other hne' 32 _, ?_⟩
  exact (((chg_setCell (a := ⟨F, 31, none⟩) (by simp) _).trans (chg_setCell (a := ⟨R, 2, none⟩) (by simp) _)).trans (Chg.ofBelow B3.out)).trans (chg_setCell (a := ⟨F, 32, none⟩) (by simp) _)
end Go.Proofs.YbulkciemGreatDoor
