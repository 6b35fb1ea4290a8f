import Derived.Test.YbulkciemGreatDoorDel2
namespace Go.Proofs.YbulkciemGreatDoor
open Go.RowKit
set_option linter.unusedVariables false
attribute [local go_sem ↓] clear_held

/-- Block g is a row of cells of this type, none of them frozen. -/
def Tag (w : World) (g : Nat) (e : TypeId) : Prop := ∃ arr : Array Value, w.heap[g]? = some (.cells arr e (0, 0))
section
variable {S : List Nat} {w w' : World} {g g' : Nat} {e e' : TypeId}
theorem Tag.lt (h : Tag w g e) : g < w.heap.size := by obtain ⟨_, h⟩ := h; exact (Array.getElem?_eq_some_iff.1 h).1
theorem Blk.tag {cs : List Value} (h : Blk w g e cs) : Tag w g e := ⟨_, h⟩
theorem Tag.ne (h : Tag w g e) (h' : Tag w g' e') (hne : e ≠ e') : g ≠ g' := by
  rintro rfl
  obtain ⟨a, h⟩ := h
  obtain ⟨b, h'⟩ := h'
  rw [h] at h'
  simp at h'
  exact hne h'.2
theorem Tag.chg (h : Tag w g e) (hc : Chg S w w') (hS : g ∉ S) : Tag w' g e := by
  obtain ⟨a, ha⟩ := h
  exact ⟨a, by rw [hc.block g (Array.getElem?_eq_some_iff.1 ha).1 hS]; exact ha⟩
theorem Tag.below {B : Nat} (h : Tag w g e) (hb : Below B w w') (hg : g < B) : Tag w' g e := by
  obtain ⟨a, ha⟩ := h
  exact ⟨a, by rw [hb.block g hg]; exact ha⟩
theorem Tag.setCell (h : Tag w g e) (b o : Nat) (v : Value) : Tag (w.setCell ⟨b, o, none⟩ v) g e := by
  obtain ⟨arr, ha⟩ := h
  by_cases hb : g = b
  · subst hb
    exact ⟨_, heap_setCell_same w g o _ e v ha⟩
  · exact ⟨arr, by rw [heap_setCell_other w ⟨b, o, none⟩ g v hb]; exact ha⟩
theorem Tag.setCells (b : Nat) : ∀ (vs : List Value) (o : Nat) (w : World), Tag w g e → Tag (w.setCells b o vs) g e
  | [], _, _, h => h
  | v :: r, o, w, h => Tag.setCells b r (o + 1) _ (h.setCell b o v)
end

set_option maxHeartbeats 800000 in
theorem find_two (g c q : Nat) (b b' : ByteArray) (w : World) (hg : g < w.heap.size) (hq : w.cell? ⟨q, 0, none⟩ = some (.int .i64 1)) (h0 : w.cell? ⟨g, 0, none⟩ = some (.int .i64 0)) (h1 : w.cell? ⟨g, 1, none⟩ = some (.string b')) (h2 : w.cell? ⟨g, 2, none⟩ = some (.int .i64 1)) (h3 : w.cell? ⟨g, 3, none⟩ = some (.string b)) :
    Calls Ybaz.prog 82 #[.slice (some ⟨g, 0, none⟩) 2 c, pred q] w fun e w' => e = .returned (.int .i64 1) ∧ Below w.heap.size w w' := by
  have HQ := hide hq
  clear hq
  go_enter Ybaz.func82, Ybaz.ntmps82
  go_wp2_with fail
  rename_i K0 hK0
  have HK0 := hide hK0
  clear hK0
  go_loopg [8] 2 (fun g0 v8 wx => Below w.heap.size w wx ∧ ((g0 = 2 ∧ v8 = .int .i64 0) ∨ (g0 = 1 ∧ v8 = .int .i64 1)))
  case atStart => go_light; exact ⟨Below.refl _ _, .inl ⟨rfl, rfl⟩⟩
  case round =>
    rename World => w2
    rename_i J2 K2 hJ2 hK2
    obtain ⟨hb, hor⟩ := hrel
    have HQ2 := hide (cell_later hb HQ.out)
    have e0 := cell_later hb h0
    have e1 := cell_later hb h1
    have e2 := cell_later hb h2
    have e3 := cell_later hb h3
    have HB := hide hb
    clear h0 h1 h2 h3 hb
    rcases hor with ⟨rfl, rfl⟩ | ⟨rfl, rfl⟩
    · go_wp2_with (go_at_call 41; refine (is41 0 b' q false _ HQ2.out rfl).mono ?_; rintro e w3 ⟨rfl, b3⟩; have B3 := hide b3; clear b3)
      go_roundg 1
      case measure => go_light; omega
      case rel => go_light; exact ⟨HB.out.trans (B3.out.mono HB.out.size), .inr ⟨rfl, rfl⟩⟩
    · clear hJ2 hK2
      go_wp2_with (go_at_call 41; refine (is41 1 b q true _ HQ2.out rfl).mono ?_; rintro e w3 ⟨rfl, b3⟩; have B3 := hide b3; clear b3)
      go_ret
      exact ⟨rfl, HB.out.trans (B3.out.mono HB.out.size)⟩

set_option maxHeartbeats 800000 in
theorem del_two (g c q : Nat) (b b' : ByteArray) (w : World) (hg : g < w.heap.size) (hq : w.cell? ⟨q, 0, none⟩ = some (.int .i64 1)) (h0 : w.cell? ⟨g, 0, none⟩ = some (.int .i64 0)) (h1 : w.cell? ⟨g, 1, none⟩ = some (.string b')) (h2 : w.cell? ⟨g, 2, none⟩ = some (.int .i64 1)) (h3 : w.cell? ⟨g, 3, none⟩ = some (.string b))
    (ht : Tag w g 32) (z2 : w.frozen? ⟨g, 2, none⟩ = false) (z3 : w.frozen? ⟨g, 3, none⟩ = false) (hc : 2 ≤ c) :
    Calls Ybaz.prog 39 #[.slice (some ⟨g, 0, none⟩) 2 c, pred q] w fun e w' => e = .returned (.slice (some ⟨g, 0, none⟩) 1 c) ∧ Chg [g] w w' ∧ w'.cell? ⟨g, 0, none⟩ = some (.int .i64 0) ∧ w'.cell? ⟨g, 1, none⟩ = some (.string b') ∧ Tag w' g 32 := by
  have HF := hide (find_two g c q b b' w hg hq h0 h1 h2 h3)
  have hc' : (2 : Int) ≤ (c : Int) := by omega
  clear hq
  go_enter Ybaz.func39, Ybaz.ntmps39
  go_wp2_with (go_at_call 82; refine HF.out.mono ?_; rintro e w3 ⟨rfl, b3⟩)
  have E0 := hide (cell_later b3 h0)
  have E1 := hide (cell_later b3 h1)
  have e2 : w3.cell? ⟨g, 2, none⟩ = some (.int .i64 1) := cell_later b3 h2
  have e3 : w3.cell? ⟨g, 3, none⟩ = some (.string b) := cell_later b3 h3
  have f0 : w3.frozen? ⟨g, 2, none⟩ = false := (b3.frozen (p := ⟨g, 2, none⟩) hg).trans z2
  have f1 : w3.frozen? ⟨g, 3, none⟩ = false := (b3.frozen (p := ⟨g, 3, none⟩) hg).trans z3
  have C := fun ty => run_clear_one w3 ty g 2 (c - 1) (by intro j hj; rcases (show j = 0 ∨ j = 1 by omega) with rfl | rfl <;> simp [e2, e3]) (by intro j hj; rcases (show j = 0 ∨ j = 1 by omega) with rfl | rfl <;> simp [f0, f1])
  simp only [clear_held] at C
  have B3 := hide b3
  clear h0 h1 h2 h3 z2 z3 b3 HF e2 e3 f0 f1
  rename_i K0 hK0
  have HK0 := hide hK0
  clear hK0
  go_loopg [5, 6] 0 (fun g0 v5 v6 wx => g0 = 0 ∧ v5 = .int .i64 1 ∧ v6 = .int .i64 2 ∧ wx = w3)
  case atStart => go_light; exact ⟨rfl, rfl, rfl, rfl⟩
  case round =>
    rename World => w4
    rename_i J2 K2 hJ2 hK2
    obtain ⟨rfl, rfl, rfl, rfl⟩ := hrel
    clear hJ2 hK2
    have hK0 := HK0.out
    clear HK0
    go_wp2
    go_ret
    refine ⟨rfl, (Chg.ofBelow B3.out).trans (chg_setCells (by simp) (w := w) (o := 0) _ _ _), ?_, ?_, Tag.setCells g _ _ _ (ht.below B3.out hg)⟩
    · have := E0.out; simp [World.setCells, World.cell?_setCell_other, this]
    · have := E1.out; simp [World.setCells, World.cell?_setCell_other, this]
end Go.Proofs.YbulkciemGreatDoor
