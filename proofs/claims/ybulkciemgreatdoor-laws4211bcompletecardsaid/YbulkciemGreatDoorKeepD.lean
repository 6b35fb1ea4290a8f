import Derived.Test.YbulkciemGreatDoorKeepC
namespace Go.Proofs.YbulkciemGreatDoor
open Go.RowKit
set_option linter.unusedVariables false
set_option linter.unusedSimpArgs false

set_option maxRecDepth 6000 in
set_option maxHeartbeats 1600000 in
theorem keep_small (F R n c base : Nat) (a : Option Addr) (ops free cfgs done vis reached : Value) (charged : Int) (cs : List Value) (w : World) (hF : Blk w F 73 (fro F R ops free cfgs done vis reached charged)) (ho : w.ownsRow base 37 6 (.slice a n c) n cs) (h1 : n ≤ 1) :
    Calls Ybaz.prog 15 #[.pointer (some ⟨F, 0, none⟩), .slice a n c] w fun e w' => e = .returned (.tuple #[]) ∧ Kept w w' F R n ops free done vis reached charged cs := by
  have n1 : (n : Int) ≤ 1 := by omega
  have hFlt := hF.lt
  have x6 : w.cell? ⟨F, 6, none⟩ = some cfgs := hF.cell 6
  have y6 := hF.frozen 6
  have hF1 := hF.alloc (.cells #[.slice a n c] 27)
  have ho1 := ho.alloc (.cells #[.slice a n c] 27)
  have hb : ∀ k, (Value.slice a n c).ownBlock = some k → k ≠ F := fun k hk => (owned_block ho hk).2.ne hF.tag (by decide)
  have H := hide (And.intro hF1 (And.intro ho1 hb))
  clear hF ho hF1 ho1 hb
  go_enter Ybaz.func15, Ybaz.ntmps15
  go_wp2
  refine bodyPost_ret (results_none rfl _ _ _) rfl ?_
  obtain ⟨hF1, ho1, hb⟩ := H.out
  have hsw : ∀ v : Value, (w.setCell ⟨F, 6, none⟩ v).alloc (.cells #[.slice a n c] 27) = (w.alloc (.cells #[.slice a n c] 27)).setCell ⟨F, 6, none⟩ v := fun v => (World.setCell_alloc_past _ _ _ _ hFlt).symm
  first
  | rw [hsw]
    have c4 : Chg [F] (w.alloc (.cells #[.slice a n c] 27)) ((w.alloc (.cells #[.slice a n c] 27)).setCell ⟨F, 6, none⟩ (.slice a n c)) := chg_setCell (a := ⟨F, 6, none⟩) (by simp) _
    exact ⟨rfl, _, hF1.put 6 _, owns_zero (owns_chg ho1 c4 (by intro k hk; simpa using hb k hk)), ((Chg.refl [F] w).alloc _).trans c4⟩
  | skip
theorem length_rowsN (st : Nat → ByteArray) (v : Nat → Value) : ∀ n, (rowsN st v n).length = n * 6
  | 0 => rfl
  | n + 1 => by simp [rowsN, length_rowsN st v n, cells6]; omega
theorem rowsN_get (st : Nat → ByteArray) (v : Nat → Value) (i j : Nat) (hj : j < 6) : ∀ n, i < n → (rowsN st v n)[i * 6 + j]? = (cells6 (st i) (v i))[j]?
  | 0, h => by omega
  | n + 1, h => by
    have hl := length_rowsN st v n
    simp only [rowsN]
    by_cases hi : i < n
    · rw [List.getElem?_append_left (by omega)]
      exact rowsN_get st v i j hj n hi
    · have : i = n := by omega
      subst this
      rw [List.getElem?_append_right (by omega), hl]
      congr 1
      omega

/-- keep hands on all that it is handed: no two of these configurations have one state. -/
theorem keep15 (F R n base : Nat) (rv : Value) (st : Nat → ByteArray) (v : Nat → Value) (x : Nat → Bool) (ops free cfgs done vis reached : Value) (charged : Int) (w : World) (hF : Blk w F 73 (fro F R ops free cfgs done vis reached charged))
    (ho : w.ownsRow base 37 6 rv n (rowsN st v n)) (hT : ∀ i, i < n → TkOut w (x i) (v i)) (hS : ∀ i, i < n → (st i).size ≤ 1000) (hne : ∀ i j, i < n → j < n → i ≠ j → st i ≠ st j) (hn : n ≤ 1000) :
    Calls Ybaz.prog 15 #[.pointer (some ⟨F, 0, none⟩), rv] w fun e w' => e = .returned (.tuple #[]) ∧ Kept w w' F R n ops free done vis reached charged (rowsN st v n) := by
  by_cases h1 : n ≤ 1
  · rcases ho.2 with ⟨rfl, rfl⟩ | ⟨g, cap, cur, rfl, _⟩
    · exact keep_small F R 0 0 base none ops free cfgs done vis reached charged _ w hF ho (by omega)
    · exact keep_small F R n cap base _ ops free cfgs done vis reached charged _ w hF ho h1
  · have ho' := ho
    rcases ho.2 with ⟨rfl, rfl⟩ | ⟨g, cap, cur, rfl, _, hg, _, _, hs, ht⟩
    · omega
    · have hk : Kr w g cap n st v := by
        refine ⟨⟨cur, hg⟩, fun i hi j u hu => ?_, fun i hi => (hT i hi).slice, hne⟩
        have hj : j < 6 := by
          rcases Nat.lt_or_ge j 6 with h | h
          · exact h
          · rw [List.getElem?_eq_none (by simpa [cells6] using h)] at hu
            cases hu
        rw [cell_of_row w g _ _ 37 (0, 0) hg, ← hu, ← rowsN_get st v i j hj n hi, ← ht, List.getElem?_take, if_pos (by omega)]
        simp
      by_cases h2 : n ≤ 32
      · exact keep_few F R g cap n st v ops free cfgs done vis reached charged w hF hk (by omega) h2
      · exact keep_many F R g cap n st v x ops free cfgs done vis reached charged w hF hk hT hS (by omega) hn
end Go.Proofs.YbulkciemGreatDoor
