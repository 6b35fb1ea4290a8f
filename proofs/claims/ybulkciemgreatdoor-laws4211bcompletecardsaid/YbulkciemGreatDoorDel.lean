import Derived.Test.YbulkciemGreatDoorClone
namespace Go.Proofs.YbulkciemGreatDoor
open Go.RowKit
set_option linter.unusedVariables false

theorem is41 (s : Int) (b : ByteArray) (q : Nat) (t : Bool) (w : World) (hq : w.cell? ⟨q, 0, none⟩ = some (.int .i64 1)) (ht : (s == 1) = t) :
    Calls Ybaz.prog 41 #[.agg #[.int .i64 s, .string b], .pointer (some ⟨q, 0, none⟩)] w fun e w' => e = .returned (.bool t) ∧ Below w.heap.size w w' := by
  have hlt := World.block_lt_of_cell? _ _ hq
  go_enter Ybaz.func41, Ybaz.ntmps41
  go_wp2
  go_ret
  exact ⟨rfl, (Below.refl _ _).alloc (Nat.le_refl _) _⟩

abbrev pred (q : Nat) : Value := .func (.func 41) #[] #[.pointer (some ⟨q, 0, none⟩)]

set_option maxHeartbeats 800000 in
theorem find_one (g c q : Nat) (b : ByteArray) (w : World) (hg : g < w.heap.size) (hq : w.cell? ⟨q, 0, none⟩ = some (.int .i64 1)) (h0 : w.cell? ⟨g, 0, none⟩ = some (.int .i64 1)) (h1 : w.cell? ⟨g, 1, none⟩ = some (.string b)) :
    Calls Ybaz.prog 82 #[.slice (some ⟨g, 0, none⟩) 1 c, pred q] w fun e w' => e = .returned (.int .i64 0) ∧ Below w.heap.size w w' := by
  have HQ := hide hq
  clear hq
  go_enter Ybaz.func82, Ybaz.ntmps82
  go_wp2_with fail
  go_loopg [8] 1 (fun g0 v8 wx => g0 = 1 ∧ v8 = .int .i64 0 ∧ wx = w)
  case atStart => go_light; exact ⟨rfl, rfl, rfl⟩
  case round =>
    rename World => w2
    rename_i J2 K2 hJ2 hK2
    obtain ⟨rfl, rfl, rfl⟩ := hrel
    clear hJ2 hK2
    go_wp2_with (go_at_call 41; refine (is41 1 b q true _ HQ.out rfl).mono ?_; rintro e w3 ⟨rfl, b3⟩; have B3 := hide b3; clear b3)
    go_ret
    exact ⟨rfl, B3.out⟩

theorem Ybaz.zero32 (w : World) : (zeroValue 32).run Ybaz.prog w = .ok (.agg #[.int .i64 0, .string ⟨#[]⟩]) w := by kernel_rfl

theorem run_clear_one (w : World) (ty : TypeId) (b o c : Nat) (hc : ∀ j, j < 2 → (w.cell? ⟨b, o + j, none⟩).isSome = true) (hf : ∀ j, j < 2 → w.frozen? ⟨b, o + j, none⟩ = false) :
    (Builtin.clear_ #[30] ty #[.slice (some ⟨b, o, none⟩) 1 c]).run Ybaz.prog w = .ok (.tuple #[]) (w.setCells b o [.int .i64 0, .string ⟨#[]⟩]) := by
  have hzc : (Builtin.zeroCells (Value.agg #[.int .i64 0, .string ⟨#[]⟩]).cells 1).toList = [.int .i64 0, .string ⟨#[]⟩] := by
    simp [Builtin.zeroCells, Value.cells]
    rfl
  have hst := run_storeCells_cells (P := Ybaz.prog) b o [.int .i64 0, .string ⟨#[]⟩] 0 w (by simpa using hc) (by simpa using hf) (by intro v hv'; simp at hv'; rcases hv' with rfl | rfl <;> rfl)
  simp only [Nat.add_zero] at hst
  simp [Builtin.clear_, run_underlying Ybaz.underlying30, hzc, hst]
end Go.Proofs.YbulkciemGreatDoor
