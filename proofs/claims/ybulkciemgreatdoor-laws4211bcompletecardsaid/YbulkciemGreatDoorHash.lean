import Derived.Test.YbulkciemGreatDoorSearch
namespace Go.Proofs.YbulkciemGreatDoor
open Go.RowKit
set_option linter.unusedVariables false

theorem index_two (st b b' : ByteArray) (g o c : Nat) (w : World) (v1 v3 v4 v5 : Value) (h1 : v1.oneCell' = true) (h3 : v3.oneCell' = true) (h4 : v4.oneCell' = true) (h5 : v5.oneCell' = true)
    (hg : g < w.heap.size) (e0 : w.cell? ⟨g, o, none⟩ = some (.int .i64 0)) (e1 : w.cell? ⟨g, o + 1, none⟩ = some (.string b')) (e2 : w.cell? ⟨g, o + 2, none⟩ = some (.int .i64 1)) (e3 : w.cell? ⟨g, o + 2 + 1, none⟩ = some (.string b)) :
    Calls Ybaz.prog 17 #[.agg #[.string st, v1, .slice (some ⟨g, o, none⟩) 2 c, v3, v4, v5], .int .i64 1] w fun e w' => e = .returned (.int .i64 1) ∧ Below w.heap.size w w' := by
  have hb := (Below.refl w.heap.size w).alloc (Nat.le_refl _) (.cells #[.string st, v1, .slice (some ⟨g, o, none⟩) 2 c, v3, v4, v5] 37)
  have HC := hide (search_two g o c b b' _ (Nat.lt_of_lt_of_le hg hb.size) (cell_later hb e0) (cell_later hb e1) (cell_later hb e2) (cell_later hb e3))
  have HB := hide hb
  clear hb e0 e1 e2 e3
  go_enter Ybaz.func17, Ybaz.ntmps17
  go_wp2_with (go_at_call 37; refine HC.out.mono ?_; rintro e w3 ⟨rfl, b3⟩; have B3 := hide b3; clear b3)
  go_ret
  exact ⟨rfl, HB.out.trans (B3.out.mono HB.out.size)⟩

set_option maxHeartbeats 800000 in
theorem hashOn102 (h : Int) (s : ByteArray) (w : World) (hs : s.size ≤ 1000000) : Calls Ybaz.prog 102 #[.int .u64 h, .string s] w fun e w' => ∃ x, e = .returned (.int .u64 x) ∧ w' = w := by
  go_enter Ybaz.func102, Ybaz.ntmps102
  go_wp2_with fail
  rename_i K0 hK0
  have HK0 := hide hK0
  clear hK0
  go_loopg [0, 5] s.size (fun g0 v0 v5 wx => ∃ (i : Nat) (x : Int), i ≤ s.size ∧ g0 = s.size - i ∧ v5 = .int .i64 i ∧ v0 = .int .u64 x ∧ wx = w)
  case atStart => go_light; exact ⟨0, h, by omega, rfl, rfl, rfl, rfl⟩
  case round =>
    rename World => w2
    rename_i J2 K2 hJ2 hK2
    obtain ⟨i, x, hi, rfl, rfl, rfl, rfl⟩ := hrel
    by_cases hlt : i < s.size
    · have hlt' : (i : Int) < (s.size : Int) := by omega
      go_wp2
      go_roundg (s.size - (i + 1))
      case measure => go_light; omega
      case rel => go_light; exact ⟨i + 1, _, by omega, rfl, by go_num, rfl, rfl⟩
    · clear hJ2 hK2
      have hK0 := HK0.out
      clear HK0
      go_wp2
      go_ret
      exact ⟨_, rfl, rfl⟩

theorem hashText69 (h : Int) (s : ByteArray) (w : World) (hs : s.size ≤ 1000000) : Calls Ybaz.prog 69 #[.int .u64 h, .string s] w fun e w' => ∃ x, e = .returned (.int .u64 x) ∧ w' = w := by
  go_enter Ybaz.func69, Ybaz.ntmps69
  go_wp2_with (first | (go_at_call 102; refine (hashOn102 _ _ _ hs).mono ?_; rintro e w3 ⟨x, rfl, rfl⟩) | (go_at_call 70; refine (hashInt70 _ _ _).mono ?_; rintro e w3 ⟨y, rfl, rfl⟩))
  go_ret
  exact ⟨_, rfl, rfl⟩
end Go.Proofs.YbulkciemGreatDoor
