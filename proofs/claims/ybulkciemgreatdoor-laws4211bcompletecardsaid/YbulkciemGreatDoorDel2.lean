import Derived.Test.YbulkciemGreatDoorDel
namespace Go.Proofs.YbulkciemGreatDoor
open Go.RowKit
set_option linter.unusedVariables false

def clearHeld (ts : Array TypeId) (ty : TypeId) (args : Array Value) : Sem Value := Builtin.clear_ ts ty args
theorem clear_held (ts : Array TypeId) (ty : TypeId) (args : Array Value) : Builtin.clear_ ts ty args = clearHeld ts ty args := rfl
attribute [local go_sem ↓] clear_held

theorem chg_setCells {S : List Nat} {w : World} {b o : Nat} (hb : b ∈ S) : ∀ (vs : List Value) (o : Nat) (w : World), Chg S w (w.setCells b o vs)
  | [], o, w => Chg.refl _ _
  | v :: r, o, w => (chg_setCell (a := ⟨b, o, none⟩) hb v).trans (chg_setCells (b := b) (o := o) (w := w) hb r (o + 1) _)

set_option maxHeartbeats 800000 in
theorem del_one (g c q : Nat) (b : ByteArray) (w : World) (hg : g < w.heap.size) (hq : w.cell? ⟨q, 0, none⟩ = some (.int .i64 1)) (h0 : w.cell? ⟨g, 0, none⟩ = some (.int .i64 1)) (h1 : w.cell? ⟨g, 1, none⟩ = some (.string b))
    (z0 : w.frozen? ⟨g, 0, none⟩ = false) (z1 : w.frozen? ⟨g, 1, none⟩ = false) (hc : 1 ≤ c) :
    Calls Ybaz.prog 39 #[.slice (some ⟨g, 0, none⟩) 1 c, pred q] w fun e w' => e = .returned (.slice (some ⟨g, 0, none⟩) 0 c) ∧ Chg [g] w w' := by
  have HF := hide (find_one g c q b w hg hq h0 h1)
  have hc' : (1 : Int) ≤ (c : Int) := by omega
  clear hq
  go_enter Ybaz.func39, Ybaz.ntmps39
  go_wp2_with (go_at_call 82; refine HF.out.mono ?_; rintro e w3 ⟨rfl, b3⟩)
  have e0 : w3.cell? ⟨g, 0, none⟩ = some (.int .i64 1) := cell_later b3 h0
  have e1 : w3.cell? ⟨g, 1, none⟩ = some (.string b) := cell_later b3 h1
  have f0 : w3.frozen? ⟨g, 0, none⟩ = false := (b3.frozen (p := ⟨g, 0, none⟩) hg).trans z0
  have f1 : w3.frozen? ⟨g, 1, none⟩ = false := (b3.frozen (p := ⟨g, 1, none⟩) hg).trans z1
  have C := fun ty => run_clear_one w3 ty g 0 c (by intro j hj; rcases (show j = 0 ∨ j = 1 by omega) with rfl | rfl <;> simp [e0, e1]) (by intro j hj; rcases (show j = 0 ∨ j = 1 by omega) with rfl | rfl <;> simp [f0, f1])
  simp only [clear_held] at C
  have B3 := hide b3
  clear h0 h1 z0 z1 b3 HF e0 e1 f0 f1
  rename_i K0 hK0
  have HK0 := hide hK0
  clear hK0
  go_loopg [5, 6] 0 (fun g0 v5 v6 wx => g0 = 0 ∧ v5 = .int .i64 0 ∧ v6 = .int .i64 1 ∧ wx = w3)
  case atStart => go_light; exact ⟨rfl, rfl, rfl, rfl⟩
  case round =>
    rename World => w4
    rename_i J2 K2 hJ2 hK2
    obtain ⟨rfl, rfl, rfl, rfl⟩ := hrel
    clear hJ2 hK2
    have hK0 := HK0.out
    clear HK0
    go_wp2
    go_ret
    exact ⟨rfl, (Chg.ofBelow B3.out).trans (chg_setCells (by simp) (w := w) (o := 0) _ _ _)⟩
end Go.Proofs.YbulkciemGreatDoor
