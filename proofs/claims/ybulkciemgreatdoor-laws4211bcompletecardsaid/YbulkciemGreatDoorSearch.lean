import Derived.Test.YbulkciemGreatDoorSmall
namespace Go.Proofs.YbulkciemGreatDoor
open Go.RowKit
set_option linter.unusedVariables false

theorem cmp38 (s k : Int) (b : ByteArray) (w : World) : Calls Ybaz.prog 38 #[.agg #[.int .i64 s, .string b], .int .i64 k] w fun e w' => e = .returned (.int .i64 (wrap64 (s - k))) ∧ Below w.heap.size w w' := by
  go_enter Ybaz.func38, Ybaz.ntmps38
  go_wp2
  go_ret
  exact ⟨rfl, (Below.refl _ _).alloc (Nat.le_refl _) _⟩

theorem cmp_same (b : ByteArray) (w : World) : Calls Ybaz.prog 38 #[.agg #[.int .i64 1, .string b], .int .i64 1] w fun e w' => e = .returned (.int .i64 0) ∧ Below w.heap.size w w' := by
  have h := cmp38 1 1 b w
  have e : wrap64 (1 - 1) = 0 := by simp [wrap64]
  simpa only [e] using h
theorem cmp_less (b : ByteArray) (w : World) : Calls Ybaz.prog 38 #[.agg #[.int .i64 0, .string b], .int .i64 1] w fun e w' => e = .returned (.int .i64 (-1)) ∧ Below w.heap.size w w' := by
  have h := cmp38 0 1 b w
  have e : wrap64 (0 - 1) = -1 := by simp [wrap64]
  simpa only [e] using h

set_option maxHeartbeats 800000 in
theorem search_one (g o c : Nat) (b : ByteArray) (w : World) (hg : g < w.heap.size) (h0 : w.cell? ⟨g, o, none⟩ = some (.int .i64 1)) (h1 : w.cell? ⟨g, o + 1, none⟩ = some (.string b)) :
    Calls Ybaz.prog 37 #[.slice (some ⟨g, o, none⟩) 1 c, .int .i64 1, .func (.func 38) #[] #[]] w fun e w' => e = .returned (.tuple #[.int .i64 0, .bool true]) ∧ Below w.heap.size w w' := by
  go_enter Ybaz.func37, Ybaz.ntmps37
  go_wp2_with fail
  rename_i K0 hK0
  have HK0 := hide hK0
  clear hK0
  go_loopg [9, 10] 1 (fun g0 v9 v10 wx => Below w.heap.size w wx ∧ v9 = .int .i64 0 ∧ ((g0 = 1 ∧ v10 = .int .i64 1) ∨ (g0 = 0 ∧ v10 = .int .i64 0)))
  case atStart => go_light; exact ⟨Below.refl _ _, rfl, .inl ⟨rfl, rfl⟩⟩
  case round =>
    rename World => w2
    rename_i J2 K2 hJ2 hK2
    obtain ⟨hb, rfl, hor⟩ := hrel
    have e0 : w2.cell? ⟨g, o, none⟩ = some (.int .i64 1) := (hb.cell (p := ⟨g, o, none⟩) hg).trans h0
    have e1 : w2.cell? ⟨g, o + 1, none⟩ = some (.string b) := (hb.cell (p := ⟨g, o + 1, none⟩) hg).trans h1
    have HB := hide hb
    clear h0 h1 hb
    rcases hor with ⟨rfl, rfl⟩ | ⟨rfl, rfl⟩
    · go_wp2_with (go_at_call 38; refine (cmp_same b _).mono ?_; rintro e w3 ⟨rfl, b3⟩; have B3 := hide b3; clear b3)
      go_roundg 0
      case measure => go_light; omega
      case rel => go_light; exact ⟨HB.out.trans (B3.out.mono HB.out.size), rfl, .inr ⟨rfl, rfl⟩⟩
    · clear hJ2 hK2
      have hK0 := HK0.out
      clear HK0
      go_wp2_with (go_at_call 38; refine (cmp_same b _).mono ?_; rintro e w3 ⟨rfl, b3⟩; have B3 := hide b3; clear b3)
      go_ret2
      exact ⟨rfl, HB.out.trans (B3.out.mono HB.out.size)⟩

set_option maxHeartbeats 800000 in
theorem search_two (g o c : Nat) (b b' : ByteArray) (w : World) (hg : g < w.heap.size) (h0 : w.cell? ⟨g, o, none⟩ = some (.int .i64 0)) (h1 : w.cell? ⟨g, o + 1, none⟩ = some (.string b')) (h2 : w.cell? ⟨g, o + 2, none⟩ = some (.int .i64 1)) (h3 : w.cell? ⟨g, o + 2 + 1, none⟩ = some (.string b)) :
    Calls Ybaz.prog 37 #[.slice (some ⟨g, o, none⟩) 2 c, .int .i64 1, .func (.func 38) #[] #[]] w fun e w' => e = .returned (.tuple #[.int .i64 1, .bool true]) ∧ Below w.heap.size w w' := by
  go_enter Ybaz.func37, Ybaz.ntmps37
  go_wp2_with fail
  rename_i K0 hK0
  have HK0 := hide hK0
  clear hK0
  go_loopg [9, 10] 2 (fun g0 v9 v10 wx => Below w.heap.size w wx ∧ ((g0 = 2 ∧ v9 = .int .i64 0 ∧ v10 = .int .i64 2) ∨ (g0 = 1 ∧ v9 = .int .i64 0 ∧ v10 = .int .i64 1) ∨ (g0 = 0 ∧ v9 = .int .i64 1 ∧ v10 = .int .i64 1)))
  case atStart => go_light; exact ⟨Below.refl _ _, .inl ⟨rfl, rfl, rfl⟩⟩
  case round =>
    rename World => w2
    rename_i J2 K2 hJ2 hK2
    obtain ⟨hb, hor⟩ := hrel
    have e0 : w2.cell? ⟨g, o, none⟩ = some (.int .i64 0) := (hb.cell (p := ⟨g, o, none⟩) hg).trans h0
    have e1 : w2.cell? ⟨g, o + 1, none⟩ = some (.string b') := (hb.cell (p := ⟨g, o + 1, none⟩) hg).trans h1
    have e2 : w2.cell? ⟨g, o + 2, none⟩ = some (.int .i64 1) := (hb.cell (p := ⟨g, o + 2, none⟩) hg).trans h2
    have e3 : w2.cell? ⟨g, o + 2 + 1, none⟩ = some (.string b) := (hb.cell (p := ⟨g, o + 2 + 1, none⟩) hg).trans h3
    have HB := hide hb
    clear h0 h1 h2 h3 hb
    rcases hor with ⟨rfl, rfl, rfl⟩ | ⟨rfl, rfl, rfl⟩ | ⟨rfl, rfl, rfl⟩
    · go_wp2_with (go_at_call 38; refine (cmp_same b _).mono ?_; rintro e w3 ⟨rfl, b3⟩; have B3 := hide b3; clear b3)
      go_roundg 1
      case measure => go_light; omega
      case rel => go_light; exact ⟨HB.out.trans (B3.out.mono HB.out.size), .inr (.inl ⟨rfl, rfl, rfl⟩)⟩
    · go_wp2_with (go_at_call 38; refine (cmp_less b' _).mono ?_; rintro e w3 ⟨rfl, b3⟩; have B3 := hide b3; clear b3)
      go_roundg 0
      case measure => go_light; omega
      case rel => go_light; exact ⟨HB.out.trans (B3.out.mono HB.out.size), .inr (.inr ⟨rfl, rfl, rfl⟩)⟩
    · clear hJ2 hK2
      have hK0 := HK0.out
      clear HK0
      go_wp2_with (go_at_call 38; refine (cmp_same b _).mono ?_; rintro e w3 ⟨rfl, b3⟩; have B3 := hide b3; clear b3)
      go_ret2
      exact ⟨rfl, HB.out.trans (B3.out.mono HB.out.size)⟩

theorem index_one (st b : ByteArray) (g o c : Nat) (w : World) (v1 v3 v4 v5 : Value) (h1 : v1.oneCell' = true) (h3 : v3.oneCell' = true) (h4 : v4.oneCell' = true) (h5 : v5.oneCell' = true)
    (hg : g < w.heap.size) (e0 : w.cell? ⟨g, o, none⟩ = some (.int .i64 1)) (e1 : w.cell? ⟨g, o + 1, none⟩ = some (.string b)) :
    Calls Ybaz.prog 17 #[.agg #[.string st, v1, .slice (some ⟨g, o, none⟩) 1 c, v3, v4, v5], .int .i64 1] w fun e w' => e = .returned (.int .i64 0) ∧ Below w.heap.size w w' := by
  have hb := (Below.refl w.heap.size w).alloc (Nat.le_refl _) (.cells #[.string st, v1, .slice (some ⟨g, o, none⟩) 1 c, v3, v4, v5] 37)
  have HC := hide (search_one g o c b _ (Nat.lt_of_lt_of_le hg hb.size) (cell_later hb e0) (cell_later hb e1))
  have HB := hide hb
  clear hb e0 e1
  go_enter Ybaz.func17, Ybaz.ntmps17
  go_wp2_with (go_at_call 37; refine HC.out.mono ?_; rintro e w3 ⟨rfl, b3⟩; have B3 := hide b3; clear b3)
  go_ret
  exact ⟨rfl, HB.out.trans (B3.out.mono HB.out.size)⟩
end Go.Proofs.YbulkciemGreatDoor
