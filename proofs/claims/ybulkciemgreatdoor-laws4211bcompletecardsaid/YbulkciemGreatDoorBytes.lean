import Derived.Test.YbulkciemGreatDoorTaken
namespace Go.Proofs.YbulkciemGreatDoor
open Go.RowKit
set_option linter.unusedVariables false

theorem below_drewN {B : Nat} {w w' : World} (h : Below B w w') : ∀ n, Below B w (w'.drewN n)
  | 0 => h
  | n + 1 => (below_drewN h n).drew
theorem alloc0 (w : World) : Calls Ybaz.prog 50 #[.int .i64 0] w fun e w' => e = .returned (.int .i64 0) ∧ w' = w := by
  go_enter Ybaz.func50, Ybaz.ntmps50
  go_wp2
  go_ret
  exact ⟨rfl, rfl⟩
theorem allocS (n : Nat) (h : 0 < n) (hn : n ≤ 1000000) (w : World) : Calls Ybaz.prog 50 #[.int .i64 n] w fun e w' => e = .returned (.int .i64 (n + 16)) ∧ w' = w := by
  have h' : ((n : Int) == 0) = false := by simp; omega
  have h2 : wrap64 ((n : Int) + 16) = (n : Int) + 16 := by simp [wrap64]; omega
  go_enter Ybaz.func50, Ybaz.ntmps50
  go_wp2
  go_ret
  exact ⟨rfl, rfl⟩
theorem alloc24 (w : World) : Calls Ybaz.prog 50 #[.int .i64 24] w fun e w' => e = .returned (.int .i64 40) ∧ w' = w := allocS 24 (by omega) (by omega) w
theorem alloc1 (w : World) : Calls Ybaz.prog 50 #[.int .i64 1] w fun e w' => e = .returned (.int .i64 17) ∧ w' = w := allocS 1 (by omega) (by omega) w

/-- A configuration that owes nothing, watches nothing and has used nothing. -/
abbrev cfg (st : ByteArray) (v : Value) : Value := .agg #[.string st, .slice none 0 0, v, .slice none 0 0, .slice none 0 0, .slice none 0 0]

set_option maxRecDepth 6000 in
set_option maxHeartbeats 1600000 in
theorem bytes_zero (st : ByteArray) (g c : Nat) (w : World) (h1 : 0 < st.size) (h2 : st.size ≤ 1000) :
    Calls Ybaz.prog 43 #[cfg st (.slice (some ⟨g, 0, none⟩) 0 c)] w fun e w' => ∃ n : Nat, n ≤ 100000 ∧ e = .returned (.int .i64 n) ∧ Below w.heap.size w w' := by
  have HS := fun w => hide (allocS st.size h1 (by omega) w)
  go_enter Ybaz.func43, Ybaz.ntmps43
  go_wp2_with fail
  go_quiet (first | (go_at_call 50; refine Calls.quiet_of_same (alloc0 _)) | (go_at_call 50; refine Calls.quiet_of_same (HS _).out))
  go_wp2_with fail
  rename_i K0 hK0
  have HK0 := hide hK0
  clear hK0
  go_loopg [3, 44] 0 (fun g0 v3 v44 wx => Below w.heap.size w wx ∧ v3 = .int .i64 (136 + (st.size + 16)) ∧ v44 = .int .i64 0)
  case atStart => go_light; exact ⟨below_drewN ((Below.refl _ _).alloc (Nat.le_refl _) _) _, rfl, rfl⟩
  case round =>
    rename World => w2
    rename_i J2 K2 hJ2 hK2
    obtain ⟨hb, rfl, rfl⟩ := hrel
    have HB := hide hb
    clear hb hJ2 hK2
    have hK0 := HK0.out
    clear HK0
    go_wp2
    go_ret
    exact ⟨136 + (st.size + 16), by omega, by simp, HB.out⟩

set_option maxRecDepth 6000 in
set_option maxHeartbeats 1600000 in
theorem bytes_one (st : ByteArray) (g c : Nat) (w : World) (h1 : 0 < st.size) (h2 : st.size ≤ 1000) (e0 : w.cell? ⟨g, 0, none⟩ = some (.int .i64 0)) (e1 : w.cell? ⟨g, 1, none⟩ = some (.string ⟨#[113]⟩)) :
    Calls Ybaz.prog 43 #[cfg st (.slice (some ⟨g, 0, none⟩) 1 c)] w fun e w' => ∃ n : Nat, n ≤ 100000 ∧ e = .returned (.int .i64 n) ∧ Below w.heap.size w w' := by
  have HS := fun w => hide (allocS st.size h1 (by omega) w)
  have k1 : wrap64 (136 + ((st.size : Int) + 16) + 40) = 136 + ((st.size : Int) + 16) + 40 := by simp [wrap64]; omega
  have k2 : wrap64 (136 + ((st.size : Int) + 16) + 40 + 17) = 136 + ((st.size : Int) + 16) + 40 + 17 := by simp [wrap64]; omega
  have E := hide (And.intro e0 e1)
  clear e0 e1
  go_enter Ybaz.func43, Ybaz.ntmps43
  go_wp2_with fail
  go_quiet (first | (go_at_call 50; refine Calls.quiet_of_same (alloc0 _)) | (go_at_call 50; refine Calls.quiet_of_same (HS _).out) | (go_at_call 50; refine Calls.quiet_of_same (alloc24 _)))
  go_wp2_with fail
  rename_i K0 hK0
  have HK0 := hide hK0
  clear hK0
  go_loopg [3, 44] 1 (fun g0 v3 v44 wx => Below w.heap.size w wx ∧ ((g0 = 1 ∧ v3 = .int .i64 (136 + (st.size + 16) + 40) ∧ v44 = .int .i64 0) ∨ (g0 = 0 ∧ v3 = .int .i64 (136 + (st.size + 16) + 40 + 17) ∧ v44 = .int .i64 1)))
  case atStart => go_light; exact ⟨below_drewN ((Below.refl _ _).alloc (Nat.le_refl _) _) _, .inl ⟨rfl, rfl, rfl⟩⟩
  case round =>
    rename World => w2
    rename_i J2 K2 hJ2 hK2
    obtain ⟨hb, hor⟩ := hrel
    have e0 := cell_later hb E.out.1
    have e1 := cell_later hb E.out.2
    have HB := hide hb
    clear hb
    rcases hor with ⟨rfl, rfl, rfl⟩ | ⟨rfl, rfl, rfl⟩
    · go_wp2_with (go_at_call 50; refine (alloc1 _).mono ?_; rintro e w3 ⟨rfl, rfl⟩)
      go_roundg 0
      case measure => go_light; omega
      case rel => go_light; exact ⟨HB.out.alloc HB.out.size _, .inr ⟨rfl, rfl, rfl⟩⟩
    · clear hJ2 hK2
      have hK0 := HK0.out
      clear HK0
      go_wp2
      go_ret
      exact ⟨136 + (st.size + 16) + 40 + 17, by omega, by simp, HB.out⟩

theorem bytes43 (st : ByteArray) (v : Value) (x : Bool) (w : World) (h1 : 0 < st.size) (h2 : st.size ≤ 1000) (h : TkOut w x v) :
    Calls Ybaz.prog 43 #[cfg st v] w fun e w' => ∃ n : Nat, n ≤ 100000 ∧ e = .returned (.int .i64 n) ∧ Below w.heap.size w w' := by
  obtain ⟨g, c, ⟨rfl, rfl⟩ | ⟨rfl, rfl, _, e0, e1⟩⟩ := h
  · exact bytes_zero st g c w h1 h2
  · exact bytes_one st g c w h1 h2 e0 e1
end Go.Proofs.YbulkciemGreatDoor
