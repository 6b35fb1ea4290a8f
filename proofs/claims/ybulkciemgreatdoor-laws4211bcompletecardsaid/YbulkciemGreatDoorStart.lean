import Derived.Test.YbulkciemGreatDoorFrom
import Derived.Carry
import Derived.BigRegion
namespace Go.Proofs.YbulkciemGreatDoor
open Go.RowKit
set_option linter.unusedVariables false
set_option linter.unusedSimpArgs false
attribute [local go_sem ↓] clear_held

theorem clear_map (r clock : Nat) (arr) (w : World) (h : w.heap[r]? = some (.map arr clock)) : ∃ w', (∀ ty, (clearHeld #[63] ty #[.map (some r)]).run Ybaz.prog w = .ok (.tuple #[]) w') ∧ Chg [r] w w' := by
  refine ⟨{ w with heap := w.heap.setIfInBounds r (.map #[] clock) }, ?_, ⟨rfl, rfl, rfl, by simp, ?_⟩⟩
  · intro ty
    simp [clearHeld, Builtin.clear_, run_underlying Ybaz.underlying63, getObj, setObj, Sem.run, h]
  · intro k _ hk
    simp at hk
    simp [Array.getElem?_setIfInBounds, Ne.symm hk]
def storeHeld (t : TypeId) (a : Addr) (v : Value) : Sem Unit := storeVar t a v
theorem store_held66 (a : Addr) (v : Value) : storeVar 66 a v = storeHeld 66 a v := rfl
attribute [local go_sem ↓] store_held66
def sets : List Value → Nat → List Value → List Value
  | cs, _, [] => cs
  | cs, o, v :: r => sets (cs.set o v) (o + 1) r
theorem Blk.puts {g : Nat} {e : TypeId} : ∀ (vs : List Value) (o : Nat) (w : World) (cs : List Value), Blk w g e cs → Blk (w.setCells g o vs) g e (sets cs o vs)
  | [], _, _, _, h => h
  | v :: r, o, w, cs, h => Blk.puts r (o + 1) _ _ (h.put o v)
/-- The frontier's cells as the law lays them. -/
def fr0 (R : Nat) (ops cfgs : Value) : List Value :=
  [.nilIface, .nilIface, .nilIface, ops, .slice none 0 0, .slice none 0 0, cfgs, .map none, .int .i64 0, .map none, .map none, .slice none 0 0, .slice none 0 0, .int .i64 0, .slice none 0 0, .map none,
    .pointer none, .int .i64 0, .int .i64 0, .int .i64 0, .nilFunc, .bool false, .bool false, .string ⟨#[]⟩, .string ⟨#[]⟩, .bool false, .slice none 0 0, .map none, .slice none 0 0, .slice none 0 0, .int .i64 0, .int .i64 0, .bool false, .slice none 0 0, .slice none 0 0,
    .int .i64 0, .bool false, .bool false, .bool false, .slice none 0 0, .slice none 0 0, .slice none 0 0, .slice none 0 0, .slice none 0 0, .slice none 0 0, .int .i64 0, .map none, .int .i64 0, .slice none 0 0, .int .i64 0, .int .i64 0, .bool false, .pointer (some ⟨R, 0, none⟩), .int .i64 0, .bool false]

abbrev evt (LP AC : Nat) : Value := .agg #[.int .i64 0, .int .i64 0, .string ⟨#[]⟩, .string ⟨#[]⟩, .string ⟨#[]⟩, .string ⟨#[]⟩, .int .i64 0, .int .i64 0, .int .i64 7, .int .i64 1, doneF LP AC]

theorem sets_fr0 (F R : Nat) (ops cfgs done vis : Value) : sets (fr0 R ops cfgs) 16 [.pointer (some ⟨F, 0, none⟩), .int .i64 7, .int .i64 1, .int .i64 3, done, .bool false, .bool false, .string ⟨#[]⟩, .string ⟨#[]⟩, .bool false, .slice none 0 0, vis, .slice none 0 0, .slice none 0 0, .int .i64 0, .int .i64 0, .bool false, .slice none 0 0, .slice none 0 0] = fro F R ops (.slice none 0 0) cfgs done vis (.slice none 0 0) 0 := by kernel_rfl
theorem Ybaz.eq63 (w : World) : (binOp .eql 63 (.map none) (.map none)).run Ybaz.prog w = .ok (.bool true) w := by kernel_rfl
theorem Ybaz.eq49 (w : World) : (binOp .neq 49 .nilIface .nilIface).run Ybaz.prog w = .ok (.bool false) w := by kernel_rfl
theorem Ybaz.eq51 (w : World) : (binOp .neq 51 .nilIface .nilIface).run Ybaz.prog w = .ok (.bool false) w := by kernel_rfl

set_option maxRecDepth 6000 in
set_option maxHeartbeats 3200000 in
theorem start10 (F R M LP AC : Nat) (ops cfgs : Value) (w : World) (hF : Blk w F 73 (fr0 R ops cfgs)) (hMF : M ≠ F) (m6 : w.cell? ⟨M, 6, none⟩ = some (.int .i64 3)) (m9 : w.cell? ⟨M, 9, none⟩ = some (.bool false)) :
    Calls Ybaz.prog 10 #[.pointer (some ⟨F, 16, none⟩), .pointer (some ⟨F, 0, none⟩), .int .i64 1, .pointer (some ⟨M, 0, none⟩), evt LP AC] w fun e w' => ∃ vis, e = .returned (.tuple #[]) ∧
      Blk w' F 73 (fro F R ops (.slice none 0 0) cfgs (doneF LP AC) vis (.slice none 0 0) 0) ∧ Chg [F] w w' := by
  have hmm := @run_makeMap Ybaz.prog
  have e27 : w.cell? ⟨F, 27, none⟩ = some (.map none) := hF.cell 27
  obtain ⟨w1, hc1, d1⟩ := clear_map (w.heap.size + 1) 0 #[] ((w.alloc (.cells #[.int .i64 0, .int .i64 0, .string ⟨#[]⟩, .string ⟨#[]⟩, .string ⟨#[]⟩, .string ⟨#[]⟩, .int .i64 0, .int .i64 0, .int .i64 7, .int .i64 1, doneF LP AC] 84)).alloc (.map #[] 0)) (by
    have := heap_alloc_new (w.alloc (.cells #[.int .i64 0, .int .i64 0, .string ⟨#[]⟩, .string ⟨#[]⟩, .string ⟨#[]⟩, .string ⟨#[]⟩, .int .i64 0, .int .i64 0, .int .i64 7, .int .i64 1, doneF LP AC] 84)) (.map #[] 0)
    rwa [World.size_alloc] at this)
  have hFlt := hF.lt
  have d2 : Chg [] w w1 := Chg.trans' (((Chg.refl [] w).alloc _).alloc _) d1 (by intro s hs h; simp at hs; omega)
  have hF1 := hF.chg d2 (by simp)
  have x1 := hF1.cell 1
  have x2 := hF1.cell 2
  have x26 := hF1.cell 26
  have x29 := hF1.cell 29
  have x33 := hF1.cell 33
  have x34 := hF1.cell 34
  simp [fr0] at x1 x2 x26 x29 x33 x34
  have bx : Blk w1 w.heap.size 84 [.int .i64 0, .int .i64 0, .string ⟨#[]⟩, .string ⟨#[]⟩, .string ⟨#[]⟩, .string ⟨#[]⟩, .int .i64 0, .int .i64 0, .int .i64 7, .int .i64 1, doneF LP AC] := ((Blk.new w 84 _).alloc _).chg d1 (by simp)
  have b8 : w1.cell? ⟨w.heap.size, 8, none⟩ = some (.int .i64 7) := bx.cell 8
  have b10 : w1.cell? ⟨w.heap.size, 10, none⟩ = some (doneF LP AC) := bx.cell 10
  have n6 : w1.cell? ⟨M, 6, none⟩ = some (.int .i64 3) := (World.cell?_of_block (a := ⟨M, 6, none⟩) (d2.block M (World.block_lt_of_cell? _ _ m6) (by simp))).trans m6
  have n9 : w1.cell? ⟨M, 9, none⟩ = some (.bool false) := (World.cell?_of_block (a := ⟨M, 9, none⟩) (d2.block M (World.block_lt_of_cell? _ _ m9) (by simp))).trans m9
  have hst := run_storeVar_mid (P := Ybaz.prog) w1.drew F 16 66 #[.pointer (some ⟨F, 0, none⟩), .int .i64 7, .int .i64 1, .int .i64 3, doneF LP AC, .bool false, .bool false, .string ⟨#[]⟩, .string ⟨#[]⟩, .bool false, .slice none 0 0, .map (some (w.heap.size + 1)), .slice none 0 0, .slice none 0 0, .int .i64 0, .int .i64 0, .bool false, .slice none 0 0, .slice none 0 0]
    (fun j hj => ⟨by rw [hF1.drew.cell (16 + j)]; simp [fr0] at hj ⊢; omega, hF1.drew.frozen _⟩) (by kernel_rfl) (by simp [Value.oneCell'])
  obtain ⟨w3, hw3, hst3⟩ : ∃ w3, w3 = w1.drew.setCells F 16 [.pointer (some ⟨F, 0, none⟩), .int .i64 7, .int .i64 1, .int .i64 3, doneF LP AC, .bool false, .bool false, .string ⟨#[]⟩, .string ⟨#[]⟩, .bool false, .slice none 0 0, .map (some (w.heap.size + 1)), .slice none 0 0, .slice none 0 0, .int .i64 0, .int .i64 0, .bool false, .slice none 0 0, .slice none 0 0] ∧ (storeHeld 66 ⟨F, 16, none⟩ (.agg #[.pointer (some ⟨F, 0, none⟩), .int .i64 7, .int .i64 1, .int .i64 3, doneF LP AC, .bool false, .bool false, .string ⟨#[]⟩, .string ⟨#[]⟩, .bool false, .slice none 0 0, .map (some (w.heap.size + 1)), .slice none 0 0, .slice none 0 0, .int .i64 0, .int .i64 0, .bool false, .slice none 0 0, .slice none 0 0])).run Ybaz.prog w1.drew = .ok () w3 := ⟨_, rfl, hst⟩
  have hF3 : Blk w3 F 73 (fro F R ops (.slice none 0 0) cfgs (doneF LP AC) (.map (some (w.heap.size + 1))) (.slice none 0 0) 0) := by rw [hw3, ← sets_fr0]; exact Blk.puts _ _ _ _ hF1.drew
  have d3 : Chg [F] w1 w3 := by rw [hw3]; exact (Chg.refl _ w1).drew.trans (chg_setCells (by simp) (w := w1) (o := 0) _ _ _)
  have z1 : w3.cell? ⟨F, 1, none⟩ = some .nilIface := hF3.cell 1
  have z2 : w3.cell? ⟨F, 2, none⟩ = some .nilIface := hF3.cell 2
  have z26 : w3.cell? ⟨F, 26, none⟩ = some (.slice none 0 0) := hF3.cell 26
  have z33 : w3.cell? ⟨F, 33, none⟩ = some (.slice none 0 0) := hF3.cell 33
  have z34 : w3.cell? ⟨F, 34, none⟩ = some (.slice none 0 0) := hF3.cell 34
  have z8 : w3.cell? ⟨w.heap.size, 8, none⟩ = some (.int .i64 7) := (cell_chg d3 bx.tag (by simp; omega)).trans b8
  have z10 : w3.cell? ⟨w.heap.size, 10, none⟩ = some (doneF LP AC) := (cell_chg d3 bx.tag (by simp; omega)).trans b10
  have zm6 : w3.cell? ⟨M, 6, none⟩ = some (.int .i64 3) := (World.cell?_of_block (a := ⟨M, 6, none⟩) (d3.block M (World.block_lt_of_cell? _ _ n6) (by simpa using hMF))).trans n6
  have zm9 : w3.cell? ⟨M, 9, none⟩ = some (.bool false) := (World.cell?_of_block (a := ⟨M, 9, none⟩) (d3.block M (World.block_lt_of_cell? _ _ n9) (by simpa using hMF))).trans n9
  have D3 := hide (And.intro hF3 d3)
  clear hst hw3 hF3 d3
  have q63 := Ybaz.eq63
  have q49 := Ybaz.eq49
  have q51 := Ybaz.eq51
  have D2 := hide (And.intro d2 (And.intro hF1 d1))
  clear hF hF1 d1 d2 bx m6 m9
  go_enter Ybaz.func10, Ybaz.ntmps10
  go_wp2_with fail
  rename_i K0 hK0
  have HK0 := hide hK0
  clear hK0
  go_loopg [27] 0 (fun g0 v27 wx => v27 = .int .i64 0 ∧ wx = w1)
  case atStart => go_light; exact ⟨rfl, rfl⟩
  case round =>
    rename World => w2
    rename_i J2 K2 hJ2 hK2
    obtain ⟨rfl, rfl⟩ := hrel
    clear hJ2 hK2
    have hK0 := HK0.out
    clear HK0
    go_wp2_with fail
    go_region_held3 (fun w' => w'.cell? ⟨F, 26, none⟩ = some (.slice none 0 0) ∧ w'.cell? ⟨F, 33, none⟩ = some (.slice none 0 0) ∧ w'.cell? ⟨F, 34, none⟩ = some (.slice none 0 0) ∧ w'.cell? ⟨w.heap.size, 8, none⟩ = some (.int .i64 7) ∧ w'.cell? ⟨w.heap.size, 10, none⟩ = some (doneF LP AC) ∧ w'.cell? ⟨M, 6, none⟩ = some (.int .i64 3) ∧ w'.cell? ⟨M, 9, none⟩ = some (.bool false)) (first | exact ⟨by assumption, by assumption, by assumption, by assumption, by assumption, by assumption, by assumption⟩ | go_keep) (fail)
    go_wp2
    go_end0
    exact ⟨_, rfl, D3.out.1, (D2.out.1.mono (T := [F]) (by simp)).trans D3.out.2⟩
end Go.Proofs.YbulkciemGreatDoor
