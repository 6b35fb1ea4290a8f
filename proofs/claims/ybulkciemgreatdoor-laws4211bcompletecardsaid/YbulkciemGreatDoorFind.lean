import Derived.Test.YbulkciemGreatDoorHash2
namespace Go.Proofs.YbulkciemGreatDoor
open Go.RowKit
set_option linter.unusedVariables false
set_option linter.unusedSimpArgs false

abbrev beatsF (b : Nat) : Value := .func (.func 26) #[] #[.pointer (some ⟨b, 0, none⟩)]
abbrev anyF (q p : Nat) : Value := .func (.func 31) #[] #[.pointer (some ⟨q, 0, none⟩), .pointer (some ⟨p, 0, none⟩)]

/-- What the closures of keep read. -/
structure Kb (w : World) (b q p g c n i : Nat) (st : Nat → ByteArray) (v : Nat → Value) : Prop where
  kr : Kr w g c n st v
  hb : w.cell? ⟨b, 0, none⟩ = some (.slice (some ⟨g, 0, none⟩) n c)
  hq : w.cell? ⟨q, 0, none⟩ = some (beatsF b)
  hp : w.cell? ⟨p, 0, none⟩ = some (.int .i64 i)
theorem Kb.below {w w' : World} {b q p g c n i : Nat} {st : Nat → ByteArray} {v : Nat → Value} (h : Kb w b q p g c n i st v) (hb : Below w.heap.size w w') : Kb w' b q p g c n i st v :=
  ⟨h.kr.chg (Chg.ofBelow (S := []) hb) (by simp), cell_later hb h.hb, cell_later hb h.hq, cell_later hb h.hp⟩

set_option maxHeartbeats 1600000 in
theorem any31 (b q p g c n i j : Nat) (st : Nat → ByteArray) (v : Nat → Value) (w : World) (h : Kb w b q p g c n i st v) (hi : i < n) (hj : j < n) (hn : n ≤ 1000) :
    Calls Ybaz.prog 31 #[.int .i64 j, .pointer (some ⟨q, 0, none⟩), .pointer (some ⟨p, 0, none⟩)] w fun e w' => e = .returned (.bool false) ∧ Below w.heap.size w w' := by
  have hq := h.hq
  have hp := h.hp
  have HB := hide (beats26 b g c n i j st v w h.kr h.hb hi hj hn)
  clear h
  go_enter Ybaz.func31, Ybaz.ntmps31
  go_wp2_with (go_at_call 26; refine HB.out.mono ?_; rintro e w3 ⟨rfl, b3⟩; have B3 := hide b3; clear b3)
  go_ret
  exact ⟨rfl, B3.out⟩

/-- A slice of ints, each of them below n. -/
def Ints (w : World) (n : Nat) (x : Value) : Prop :=
  x = .slice none 0 0 ∨ ∃ L m c, x = .slice (some ⟨L, 0, none⟩) m c ∧ L < w.heap.size ∧ m ≤ 1000 ∧ ∀ k, k < m → ∃ j : Nat, j < n ∧ w.cell? ⟨L, k, none⟩ = some (.int .i64 j)

set_option maxHeartbeats 1600000 in
theorem index71 (b q p g c n i L m cc : Nat) (st : Nat → ByteArray) (v : Nat → Value) (w : World) (h : Kb w b q p g c n i st v) (hi : i < n) (hn : n ≤ 1000) (hL : L < w.heap.size) (hm : m ≤ 1000) (hx : ∀ k, k < m → ∃ j : Nat, j < n ∧ w.cell? ⟨L, k, none⟩ = some (.int .i64 j)) :
    Calls Ybaz.prog 71 #[.slice (some ⟨L, 0, none⟩) m cc, anyF q p] w fun e w' => e = .returned (.int .i64 (-1)) ∧ Below w.heap.size w w' := by
  have H := hide (And.intro h hx)
  clear h hx
  go_enter Ybaz.func71, Ybaz.ntmps71
  go_wp2_with fail
  rename_i K0 hK0
  have HK0 := hide hK0
  clear hK0
  go_loopg [8] m (fun g0 v8 wx => ∃ k : Nat, k ≤ m ∧ g0 = m - k ∧ v8 = .int .i64 k ∧ Below w.heap.size w wx)
  case atStart => go_light; exact ⟨0, by omega, rfl, rfl, Below.refl _ _⟩
  case round =>
    rename World => w2
    rename_i J2 K2 hJ2 hK2
    obtain ⟨k, hkm, rfl, rfl, hb⟩ := hrel
    by_cases hlt : k < m
    · have hlt' : (k : Int) < (m : Int) := by omega
      obtain ⟨j, hj, hc⟩ := H.out.2 k hlt
      have hc2 := (hb.cell (p := ⟨L, k, none⟩) hL).trans hc
      have hkb : Kb w2 b q p g c n i st v := ⟨H.out.1.kr.chg (Chg.ofBelow (S := []) hb) (by simp), cell_later hb H.out.1.hb, cell_later hb H.out.1.hq, cell_later hb H.out.1.hp⟩
      have HA := hide (any31 b q p g c n i j st v w2 hkb hi hj hn)
      have HB := hide hb
      clear hb hkb hc
      go_wp2_with (go_at_call 31; refine HA.out.mono ?_; rintro e w3 ⟨rfl, b3⟩; have B3 := hide b3; clear b3)
      go_roundg (m - (k + 1))
      case measure => go_light; omega
      case rel => go_light; exact ⟨k + 1, by omega, rfl, by go_num, HB.out.trans (B3.out.mono HB.out.size)⟩
    · have hk : k = m := by omega
      subst hk
      have HB := hide hb
      clear hJ2 hK2 hb
      have hK0 := HK0.out
      clear HK0
      go_wp2
      go_ret
      exact ⟨rfl, HB.out⟩

set_option maxHeartbeats 1600000 in
theorem index71_nil (q p : Nat) (w : World) : Calls Ybaz.prog 71 #[.slice none 0 0, anyF q p] w fun e w' => e = .returned (.int .i64 (-1)) ∧ Below w.heap.size w w' := by
  go_enter Ybaz.func71, Ybaz.ntmps71
  go_wp2_with fail
  rename_i K0 hK0
  have HK0 := hide hK0
  clear hK0
  go_loopg [8] 0 (fun g0 v8 wx => v8 = .int .i64 0 ∧ wx = w)
  case atStart => go_light; exact ⟨rfl, rfl⟩
  case round =>
    rename World => w2
    rename_i J2 K2 hJ2 hK2
    obtain ⟨rfl, rfl⟩ := hrel
    clear hJ2 hK2
    have hK0 := HK0.out
    clear HK0
    go_wp2
    go_ret
    exact ⟨rfl, Below.refl _ _⟩

theorem contains30 (b q p g c n i : Nat) (x : Value) (st : Nat → ByteArray) (v : Nat → Value) (w : World) (h : Kb w b q p g c n i st v) (hi : i < n) (hn : n ≤ 1000) (hx : Ints w n x) :
    Calls Ybaz.prog 30 #[x, anyF q p] w fun e w' => e = .returned (.bool false) ∧ Below w.heap.size w w' := by
  have HC : Hid (Calls Ybaz.prog 71 #[x, anyF q p] w fun e w' => e = .returned (.int .i64 (-1)) ∧ Below w.heap.size w w') := by
    rcases hx with rfl | ⟨L, m, cc, rfl, hL, hm, hx⟩
    · exact index71_nil q p w
    · exact index71 b q p g c n i L m cc st v w h hi hn hL hm hx
  clear h hx
  go_enter Ybaz.func30, Ybaz.ntmps30
  go_wp2_with (go_at_call 71; refine HC.out.mono ?_; rintro e w3 ⟨rfl, b3⟩; have B3 := hide b3; clear b3)
  go_ret
  exact ⟨rfl, B3.out⟩
end Go.Proofs.YbulkciemGreatDoor
