import Derived.Test.YbulkciemGreatDoorBeats
namespace Go.Proofs.YbulkciemGreatDoor
open Go.RowKit
set_option linter.unusedVariables false
set_option linter.unusedSimpArgs false

theorem hashText_s (h : Int) (s : ByteArray) (w : World) (hs : s.size ≤ 1000) : Calls Ybaz.prog 69 #[.int .u64 h, .string s] w fun e w' => ∃ x, e = .returned (.int .u64 x) ∧ w' = w := hashText69 h s w (by omega)

set_option maxRecDepth 6000 in
set_option maxHeartbeats 3200000 in
theorem hash_zero (st : ByteArray) (g c : Nat) (w : World) (h2 : st.size ≤ 1000) :
    Calls Ybaz.prog 29 #[cfg st (.slice (some ⟨g, 0, none⟩) 0 c)] w fun e w' => ∃ x, e = .returned (.int .u64 x) ∧ Below w.heap.size w w' := by
  go_enter Ybaz.func29, Ybaz.ntmps29
  go_wp2_with (first | (go_at_call 69; refine (hashText_s _ _ _ h2).mono ?_; rintro e w3 ⟨x1, rfl, hw3⟩; have hw4 := hw3.symm; subst hw4) | (go_at_call 70; refine (hashInt70 _ _ _).mono ?_; rintro e w3 ⟨y1, rfl, hw3⟩; have hw4 := hw3.symm; subst hw4))
  rename_i K0 hK0
  have HK0 := hide hK0
  clear hK0
  obtain ⟨W, hW⟩ : ∃ W, W = w.alloc (.cells #[.string st, .slice none 0 0, .slice (some ⟨g, 0, none⟩) 0 c, .slice none 0 0, .slice none 0 0, .slice none 0 0] 37) := ⟨_, rfl⟩
  have hB : Below w.heap.size w W := by rw [hW]; exact (Below.refl _ _).alloc (Nat.le_refl _) _
  have W2 : W.cell? ⟨w.heap.size, 2, none⟩ = some (.slice (some ⟨g, 0, none⟩) 0 c) := by rw [hW]; simp
  have W3 : W.cell? ⟨w.heap.size, 3, none⟩ = some (.slice none 0 0) := by rw [hW]; simp
  go_loopg [3, 16] 0 (fun g0 v3 v16 wx => (∃ x, v3 = .int .u64 x) ∧ v16 = .int .i64 0 ∧ wx = W)
  case atStart => go_light; exact ⟨⟨_, rfl⟩, rfl, hW.symm⟩
  case round =>
    rename World => w2
    rename_i J2 K2 hJ2 hK2
    obtain ⟨⟨z1, rfl⟩, rfl, hw⟩ := hrel
    have hw' := hw.symm
    subst hw'
    clear hJ2 hK2 hW
    have hK0 := HK0.out
    clear HK0
    go_wp2_with (first | (go_at_call 69; refine (hashText_s _ _ _ h2).mono ?_; rintro e w3 ⟨x1, rfl, hw3⟩; have hw4 := hw3.symm; subst hw4) | (go_at_call 70; refine (hashInt70 _ _ _).mono ?_; rintro e w3 ⟨y1, rfl, hw3⟩; have hw4 := hw3.symm; subst hw4))
    rename_i K3 hK3
    have HK3 := hide hK3
    clear hK3
    go_loopg [3, 29] 0 (fun g0 v3 v29 wx => (∃ x, v3 = .int .u64 x) ∧ v29 = .int .i64 0 ∧ wx = W)
    case atStart => go_light; exact ⟨⟨_, rfl⟩, rfl, rfl⟩
    case round =>
      rename World => w4
      rename_i J4 K4 hJ4 hK4
      obtain ⟨⟨z3, rfl⟩, rfl, hw⟩ := hrel
      have hw' := hw.symm
      subst hw'
      clear hJ4 hK4
      have hK3 := HK3.out
      clear HK3
      go_wp2_with (first | (go_at_call 69; refine (hashText_s _ _ _ h2).mono ?_; rintro e w3 ⟨x1, rfl, hw3⟩; have hw4 := hw3.symm; subst hw4) | (go_at_call 70; refine (hashInt70 _ _ _).mono ?_; rintro e w3 ⟨y1, rfl, hw3⟩; have hw4 := hw3.symm; subst hw4))
      rename_i K5 hK5
      have HK5 := hide hK5
      clear hK5
      go_loopg [3, 46] 0 (fun g0 v3 v46 wx => (∃ x, v3 = .int .u64 x) ∧ v46 = .int .i64 0 ∧ wx = W)
      case atStart => go_light; exact ⟨⟨_, rfl⟩, rfl, rfl⟩
      case round =>
        rename World => w6
        rename_i J6 K6 hJ6 hK6
        obtain ⟨⟨z5, rfl⟩, rfl, hw⟩ := hrel
        have hw' := hw.symm
        subst hw'
        clear hJ6 hK6
        have hK5 := HK5.out
        clear HK5
        go_wp2
        go_ret
        exact ⟨⟨_, rfl⟩, hB⟩
set_option maxRecDepth 6000 in
set_option maxHeartbeats 3200000 in
theorem hash_one (st : ByteArray) (g c : Nat) (w : World) (h2 : st.size ≤ 1000) (e0 : w.cell? ⟨g, 0, none⟩ = some (.int .i64 0)) (e1 : w.cell? ⟨g, 1, none⟩ = some (.string ⟨#[113]⟩)) :
    Calls Ybaz.prog 29 #[cfg st (.slice (some ⟨g, 0, none⟩) 1 c)] w fun e w' => ∃ x, e = .returned (.int .u64 x) ∧ Below w.heap.size w w' := by
  have hglt := World.block_lt_of_cell? _ _ e0
  have E := hide (And.intro e0 e1)
  clear e0 e1
  go_enter Ybaz.func29, Ybaz.ntmps29
  go_wp2_with (first | (go_at_call 69; refine (hashText_s _ _ _ h2).mono ?_; rintro e w3 ⟨x1, rfl, hw3⟩; have hw4 := hw3.symm; subst hw4) | (go_at_call 70; refine (hashInt70 _ _ _).mono ?_; rintro e w3 ⟨y1, rfl, hw3⟩; have hw4 := hw3.symm; subst hw4))
  rename_i K0 hK0
  have HK0 := hide hK0
  clear hK0
  obtain ⟨W, hW⟩ : ∃ W, W = w.alloc (.cells #[.string st, .slice none 0 0, .slice (some ⟨g, 0, none⟩) 1 c, .slice none 0 0, .slice none 0 0, .slice none 0 0] 37) := ⟨_, rfl⟩
  have hB : Below w.heap.size w W := by rw [hW]; exact (Below.refl _ _).alloc (Nat.le_refl _) _
  have hWs : W.heap.size = w.heap.size + 1 := by rw [hW]; simp
  have W2 : W.cell? ⟨w.heap.size, 2, none⟩ = some (.slice (some ⟨g, 0, none⟩) 1 c) := by rw [hW]; simp
  have W3 : W.cell? ⟨w.heap.size, 3, none⟩ = some (.slice none 0 0) := by rw [hW]; simp
  go_loopg [3, 16] 0 (fun g0 v3 v16 wx => (∃ x, v3 = .int .u64 x) ∧ v16 = .int .i64 0 ∧ wx = W)
  case atStart => go_light; exact ⟨⟨_, rfl⟩, rfl, hW.symm⟩
  case round =>
    rename World => w2
    rename_i J2 K2 hJ2 hK2
    obtain ⟨⟨z1, rfl⟩, rfl, hw⟩ := hrel
    have hw' := hw.symm
    subst hw'
    clear hJ2 hK2 hW
    have hK0 := HK0.out
    clear HK0
    go_wp2_with (first | (go_at_call 69; refine (hashText_s _ _ _ h2).mono ?_; rintro e w3 ⟨x1, rfl, hw3⟩; have hw4 := hw3.symm; subst hw4) | (go_at_call 70; refine (hashInt70 _ _ _).mono ?_; rintro e w3 ⟨y1, rfl, hw3⟩; have hw4 := hw3.symm; subst hw4))
    rename_i K3 hK3
    have HK3 := hide hK3
    clear hK3
    go_loopg [3, 29] 1 (fun g0 v3 v29 wx => (∃ x, v3 = .int .u64 x) ∧ Below (w.heap.size + 1) W wx ∧ ((g0 = 1 ∧ v29 = .int .i64 0) ∨ (g0 = 0 ∧ v29 = .int .i64 1)))
    case atStart => go_light; exact ⟨⟨_, rfl⟩, Below.refl _ _, .inl ⟨rfl, rfl⟩⟩
    case round =>
      rename World => w4
      rename_i J4 K4 hJ4 hK4
      obtain ⟨⟨z3, rfl⟩, hb4, hor⟩ := hrel
      have B4 : Below w.heap.size w w4 := hB.trans (hb4.mono (by omega))
      have e0 := cell_later B4 E.out.1
      have e1 := cell_later B4 E.out.2
      have W3' : w4.cell? ⟨w.heap.size, 3, none⟩ = some (.slice none 0 0) := (hb4.cell (p := ⟨w.heap.size, 3, none⟩) (by simp)).trans W3
      have HB4 := hide B4
      have HBB := hide hb4
      clear B4 hb4 W2 W3
      rcases hor with ⟨rfl, rfl⟩ | ⟨rfl, rfl⟩
      · go_wp2
        go_region_held3 (fun w' => w'.cell? ⟨w4.heap.size, 0, none⟩ = some (.int .i64 0) ∧ w'.cell? ⟨w4.heap.size, 1, none⟩ = some (.string ⟨#[113]⟩)) (go_keep)
          ((first | (go_at_call 69; refine (hashText_s _ _ _ ?_).mono ?_; (decide); rintro e w5 ⟨x1, rfl, hw3⟩; have hw4 := hw3.symm; subst hw4) | (go_at_call 70; refine (hashInt70 _ _ _).mono ?_; rintro e w5 ⟨y1, rfl, hw3⟩; have hw4 := hw3.symm; subst hw4)))
        go_wp2
        go_roundg 0
        case measure => go_light; omega
        case rel => go_light; exact ⟨⟨_, rfl⟩, ((HBB.out.alloc (by have := HBB.out.size; rw [hWs] at this; exact this) _).drew), .inr ⟨rfl, rfl⟩⟩
      · clear hJ4 hK4
        have hK3 := HK3.out
        clear HK3
        go_wp2_with (first | (go_at_call 69; refine (hashText_s _ _ _ h2).mono ?_; rintro e w3 ⟨x1, rfl, hw3⟩; have hw4 := hw3.symm; subst hw4) | (go_at_call 70; refine (hashInt70 _ _ _).mono ?_; rintro e w3 ⟨y1, rfl, hw3⟩; have hw4 := hw3.symm; subst hw4))
        rename_i K5 hK5
        have HK5 := hide hK5
        clear hK5
        go_loopg [3, 46] 0 (fun g0 v3 v46 wx => (∃ x, v3 = .int .u64 x) ∧ v46 = .int .i64 0 ∧ wx = w4)
        case atStart => go_light; exact ⟨⟨_, rfl⟩, rfl, rfl⟩
        case round =>
          rename World => w6
          rename_i J6 K6 hJ6 hK6
          obtain ⟨⟨z5, rfl⟩, rfl, hw⟩ := hrel
          have hw' := hw.symm
          subst hw'
          clear hJ6 hK6
          have hK5 := HK5.out
          clear HK5
          go_wp2
          go_ret
          exact ⟨⟨_, rfl⟩, HB4.out⟩

theorem hash29 (st : ByteArray) (v : Value) (x : Bool) (w : World) (h2 : st.size ≤ 1000) (h : TkOut w x v) :
    Calls Ybaz.prog 29 #[cfg st v] w fun e w' => ∃ x, e = .returned (.int .u64 x) ∧ Below w.heap.size w w' := by
  obtain ⟨g, c, ⟨rfl, rfl⟩ | ⟨rfl, rfl, _, e0, e1⟩⟩ := h
  · exact hash_zero st g c w h2
  · exact hash_one st g c w h2 e0 e1
end Go.Proofs.YbulkciemGreatDoor
