import Derived.Test.YbulkciemGreatDoorEnd
import Derived.MapKept
namespace Go.Proofs.YbulkciemGreatDoor
open Go.RowKit
set_option linter.unusedVariables false
set_option linter.unusedSimpArgs false

theorem beq_no {a b : ByteArray} (h : a ≠ b) : (a == b) = false := by
  cases he : a == b
  · rfl
  · exact absurd ((MapKept.bytes_beq a b).1 he) h
theorem list_no {a b : ByteArray} (h : a ≠ b) : (a.toList == b.toList) = false := by rw [← beq_toListBytes]; exact beq_no h

set_option maxRecDepth 6000 in
set_option maxHeartbeats 3200000 in
theorem same27 (a b : ByteArray) (u v : Value) (hu : u.oneCell' = true) (hv : v.oneCell' = true) (w : World) (h : a ≠ b) :
    Calls Ybaz.prog 27 #[cfg a u, cfg b v] w fun e w' => e = .returned (.bool false) ∧ Below w.heap.size w w' := by
  have hno := list_no h
  go_enter Ybaz.func27, Ybaz.ntmps27
  go_wp2
  go_ret
  exact ⟨rfl, ((Below.refl _ _).alloc (Nat.le_refl _) _).alloc (by simp) _⟩

/-- The row of configurations that keep is handed. -/
structure Kr (w : World) (g c n : Nat) (st : Nat → ByteArray) (v : Nat → Value) : Prop where
  tag : Tag w g 37
  cell : ∀ i, i < n → ∀ j u, (cells6 (st i) (v i))[j]? = some u → w.cell? ⟨g, i * 6 + j, none⟩ = some u
  sl : ∀ i, i < n → ∃ a l k, v i = .slice (some ⟨a, 0, none⟩) l k
  ne : ∀ i j, i < n → j < n → i ≠ j → st i ≠ st j
theorem Kr.chg {w w' : World} {S : List Nat} {g c n : Nat} {st : Nat → ByteArray} {v : Nat → Value} (h : Kr w g c n st v) (hc : Chg S w w') (hg : g ∉ S) : Kr w' g c n st v :=
  ⟨h.tag.chg hc hg, fun i hi j u hu => (cell_chg hc h.tag hg).trans (h.cell i hi j u hu), h.sl, h.ne⟩

set_option maxRecDepth 6000 in
set_option maxHeartbeats 3200000 in
theorem beats26 (b g c n i j : Nat) (st : Nat → ByteArray) (v : Nat → Value) (w : World) (hk : Kr w g c n st v) (hb : w.cell? ⟨b, 0, none⟩ = some (.slice (some ⟨g, 0, none⟩) n c)) (hi : i < n) (hj : j < n) (hn : n ≤ 1000) :
    Calls Ybaz.prog 26 #[.int .i64 j, .int .i64 i, .pointer (some ⟨b, 0, none⟩)] w fun e w' => e = .returned (.bool false) ∧ Below w.heap.size w w' := by
  have a0 : w.cell? ⟨g, i * 6, none⟩ = some (.string (st i)) := hk.cell i hi 0 _ rfl
  have a1 : w.cell? ⟨g, i * 6 + 1, none⟩ = some (.slice none 0 0) := hk.cell i hi 1 _ rfl
  have a2 : w.cell? ⟨g, i * 6 + 2, none⟩ = some (v i) := hk.cell i hi 2 _ rfl
  have a3 : w.cell? ⟨g, i * 6 + 3, none⟩ = some (.slice none 0 0) := hk.cell i hi 3 _ rfl
  have a4 : w.cell? ⟨g, i * 6 + 4, none⟩ = some (.slice none 0 0) := hk.cell i hi 4 _ rfl
  have a5 : w.cell? ⟨g, i * 6 + 5, none⟩ = some (.slice none 0 0) := hk.cell i hi 5 _ rfl
  have b0 : w.cell? ⟨g, j * 6, none⟩ = some (.string (st j)) := hk.cell j hj 0 _ rfl
  have b1 : w.cell? ⟨g, j * 6 + 1, none⟩ = some (.slice none 0 0) := hk.cell j hj 1 _ rfl
  have b2 : w.cell? ⟨g, j * 6 + 2, none⟩ = some (v j) := hk.cell j hj 2 _ rfl
  have b3 : w.cell? ⟨g, j * 6 + 3, none⟩ = some (.slice none 0 0) := hk.cell j hj 3 _ rfl
  have b4 : w.cell? ⟨g, j * 6 + 4, none⟩ = some (.slice none 0 0) := hk.cell j hj 4 _ rfl
  have b5 : w.cell? ⟨g, j * 6 + 5, none⟩ = some (.slice none 0 0) := hk.cell j hj 5 _ rfl
  have hglt := hk.tag.lt
  have hblt := World.block_lt_of_cell? _ _ hb
  have hi' : (i : Int) < (n : Int) := by omega
  have hj' : (j : Int) < (n : Int) := by omega
  obtain ⟨p1, p2, p3, hp⟩ := hk.sl i hi
  obtain ⟨q1, q2, q3, hq⟩ := hk.sl j hj
  rw [hp] at a2
  rw [hq] at b2
  have HN := hide (hk.ne j i hj hi)
  have HK := hide hk
  clear hk hp hq
  go_enter Ybaz.func26, Ybaz.ntmps26
  go_wp2
  go_region
  all_goals
    by_cases hij : j = i
    · subst hij
      clear HN
      go_wp2
      go_ret
      exact ⟨rfl, (((Below.refl _ _).alloc (Nat.le_refl _) _).alloc (by simp) _).drew⟩
    · have hx : ¬ ((j : Int) = (i : Int)) := by omega
      have HS := fun w => hide (same27 (st j) (st i) (.slice (some ⟨q1, 0, none⟩) q2 q3) (.slice (some ⟨p1, 0, none⟩) p2 p3) rfl rfl w (HN.out hij))
      clear HN hij
      go_wp2_with (go_at_call 27; refine (HS _).out.mono ?_; rintro e w3 ⟨rfl, bb⟩; have BB := hide bb; clear bb)
      go_ret
      refine ⟨rfl, (((Below.refl w.heap.size w).alloc (Nat.le_refl _) _).alloc (by simp) _).drew.trans (BB.out.mono (by simp; omega))⟩
end Go.Proofs.YbulkciemGreatDoor
