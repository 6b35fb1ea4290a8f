import Derived.Test.YbulkciemGreatDoorRows
import Derived.Test.YbulkciemGreatDoorMem
import Derived.WalkSpells
import Derived.Sort.AtCall
namespace Go.Proofs.YbulkciemGreatDoor
open Go.RowKit
set_option linter.unusedVariables false

/-- allocationBytes, at a length that is no great number. -/
theorem alloc50 (n : Nat) (w : World) (hn : n ≤ 1000000) : Calls Ybaz.prog 50 #[.int .i64 (n : Int)] w fun e w' => ∃ k : Nat, k ≤ n + 16 ∧ e = .returned (.int .i64 (k : Int)) ∧ w' = w := by
  by_cases h : n = 0
  · subst h
    go_enter Ybaz.func50, Ybaz.ntmps50
    go_wp2
    go_ret
    exact ⟨0, by omega, rfl, rfl⟩
  · have h' : ((n : Int) == 0) = false := by simp; omega
    have h2 : wrap64 ((n : Int) + 16) = (n : Int) + 16 := by simp [wrap64]; omega
    go_enter Ybaz.func50, Ybaz.ntmps50
    go_wp2
    go_ret
    exact ⟨n + 16, by omega, by simp, rfl⟩

def tbl (i : Int) : ByteArray := if i == 0 then ⟨#[]⟩ else if i == 1 then ⟨#[97]⟩ else if i == 2 then ⟨#[98]⟩ else ⟨#[97, 98]⟩
theorem tbl5 (i : Int) (w : World) (h0 : 0 ≤ i) (h1 : i ≤ 255) : Calls Ybaz.prog 5 #[.int .u8 i] w fun e w' => e = .returned (.string (tbl (i % 4))) ∧ w' = w := by
  obtain ⟨j, hj⟩ : ∃ j, i % 4 = j := ⟨_, rfl⟩
  rw [hj]
  have hj4 : j = 0 ∨ j = 1 ∨ j = 2 ∨ j = 3 := by omega
  rcases hj4 with rfl | rfl | rfl | rfl
  all_goals
    go_enter Ybaz.func5, Ybaz.ntmps5
    go_wp2
    go_ret
    exact ⟨rfl, rfl⟩

theorem hashInt70 (h n : Int) (w : World) : Calls Ybaz.prog 70 #[.int .u64 h, .int .i64 n] w fun e w' => ∃ x, e = .returned (.int .u64 x) ∧ w' = w := by
  go_enter Ybaz.func70, Ybaz.ntmps70
  go_wp2
  go_ret
  exact ⟨_, rfl, rfl⟩
end Go.Proofs.YbulkciemGreatDoor
