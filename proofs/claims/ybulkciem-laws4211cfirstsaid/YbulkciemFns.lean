import Derived.Test.YbulkciemRows
import Derived.Test.YbulkciemMem
import Derived.Lib.SliceRun
import Derived.Deep.Upon
import Derived.OwnWalk
import Derived.Sort.AtCall
import Derived.WalkSpells
namespace Go.Proofs.Ybulkciem
open Go.RowKit
set_option linter.unusedVariables false

theorem Yba.info3 : (Yba.prog.info? 3).map (fun i => (i.zero, i.size, i.bytes)) = some (some (.int .i64 0), 1, 8) := by kernel_rfl

theorem clone_nil (w : World) : Calls Yba.prog 4 #[.slice none 0 0] w fun e w' => e = .returned (.slice none 0 0) ∧ w' = w := by
  have heq : ∀ a n c w', (binOp .eql 22 (.slice a n c) (.slice none 0 0)).run Yba.prog w' = .ok (.bool a.isNone) w' := fun a n c w' => Lib.run_eql_slice_nil w' 22 3 a n c 0 0 Yba.underlying22
  go_enter Yba.func4, Yba.ntmps4
  go_wp2
  go_ret
  exact ⟨rfl, rfl⟩

theorem clone_zero (x : Addr) (cap : Nat) (w : World) : Calls Yba.prog 4 #[.slice (some x) 0 cap] w fun e w' => ∃ y c, e = .returned (.slice (some y) 0 c) ∧ Below w.heap.size w w' := by
  have heq : ∀ a n c w', (binOp .eql 22 (.slice a n c) (.slice none 0 0)).run Yba.prog w' = .ok (.bool a.isNone) w' := fun a n c w' => Lib.run_eql_slice_nil w' 22 3 a n c 0 0 Yba.underlying22
  go_enter Yba.func4, Yba.ntmps4
  go_wp2
  go_ret
  exact ⟨_, _, rfl, (Below.refl _ _).alloc (Nat.le_refl _) _⟩

theorem clone_some (b off len cap : Nat) (zs : List Int) (w : World) (h0 : 0 < len) (h1 : len ≤ 1024) (hb : b < w.heap.size) (hc : ∀ i, i < len → w.cell? ⟨b, off + i, none⟩ = some (.int .i64 (zs.getD i 0))) :
    Calls Yba.prog 4 #[.slice (some ⟨b, off, none⟩) len cap] w fun e w' => ∃ g c, e = .returned (.slice (some ⟨g, 0, none⟩) len c) ∧ g < w'.heap.size ∧ (∀ i, i < len → w'.cell? ⟨g, 0 + i, none⟩ = some (.int .i64 (zs.getD i 0))) ∧ Below w.heap.size w w' := by
  have heq : ∀ a n c w', (binOp .eql 22 (.slice a n c) (.slice none 0 0)).run Yba.prog w' = .ok (.bool a.isNone) w' := fun a n c w' => Lib.run_eql_slice_nil w' 22 3 a n c 0 0 Yba.underlying22
  obtain ⟨t0, ht0, hz0, hz1, hz2⟩ := info_parts Yba.info3
  go_enter Yba.func4, Yba.ntmps4
  go_wp2_with (at_builtin; refine wpList_append_lies _ rfl _ _ 22 rfl w.heap.size 3 t0 (.int .i64 0) 1 8 Yba.underlying22 ht0 hz0 hz1 hz2 rfl (by decide) (.slice (some ⟨w.heap.size, 0, none⟩) 0 0) 0 [] rfl ?a1 ⟨b, off, none⟩ len cap ((List.range len).map fun i => .int .i64 (zs.getD i 0)) rfl ?a0 ?a2 ?a3 h0 ?a4 ?a5 ?a6 _ rfl ?a7)
  case a0 => simp
  case a1 => exact Blk.owns (Blk.new w 3 []) (Nat.le_refl _) (by simp [maxLen]) rfl
  case a2 =>
    intro j u hj
    have hj' : j < len := by
      have := (List.getElem?_eq_some_iff.1 hj).1
      simpa using this
    rw [Addr.add_lit]
    rw [((Below.refl w.heap.size w).alloc (Nat.le_refl _) (.cells #[] 3)).cell (p := ⟨b, off + j, none⟩) hb, hc j hj']
    simpa [hj'] using hj
  case a3 => intro u hu; simp at hu; obtain ⟨_, _, rfl⟩ := hu; rfl
  case a4 => unfold maxLen; omega
  case a5 => omega
  case a6 => simp
  case a7 =>
    intro g c w7 hown hgr hat hlt
    have hbel : Below w.heap.size w w7 := by
      have c1 : Chg [w.heap.size] w w7 := (Chg.ofBelow ((Below.refl _ w).alloc (Nat.le_refl _) (.cells #[] 3))).trans (chg_grown hgr (fun k hk _ => by simpa [Value.ownBlock] using hk.symm))
      exact c1.below (by simp) (Nat.le_refl _)
    have hcell : ∀ i, i < len → w7.cell? ⟨g, 0 + i, none⟩ = some (.int .i64 (zs.getD i 0)) := by
      intro i hi
      rw [Nat.zero_add, hown.cellAt i (by omega)]
      simp [hi]
    clear hown hgr hat
    go_wp2
    go_ret
    exact ⟨g, c, rfl, hlt, hcell, hbel⟩

/-- slices.Clone: nil for nil, else a new row with the same numbers. -/
theorem clone_any (a : Option Addr) (len cap : Nat) (zs : List Int) (w : World) (h1 : len ≤ 1024) (hz : a = none → len = 0 ∧ cap = 0) (h : Rd .i64 w a len zs) :
    Calls Yba.prog 4 #[.slice a len cap] w fun e w' => ∃ a' c, e = .returned (.slice a' len c) ∧ a'.isNone = a.isNone ∧ Rd .i64 w' a' len zs ∧ Below w.heap.size w w' := by
  rcases a with _ | x
  · obtain ⟨rfl, rfl⟩ := hz rfl
    refine (clone_nil w).mono ?_
    rintro e w' ⟨rfl, rfl⟩
    exact ⟨none, 0, rfl, rfl, .inl rfl, Below.refl _ _⟩
  · by_cases h0 : len = 0
    · subst h0
      refine (clone_zero x cap w).mono ?_
      rintro e w' ⟨y, c, rfl, hb⟩
      exact ⟨some y, c, rfl, rfl, .inl rfl, hb⟩
    · rcases h with h | ⟨b, off, hx, hb, hc⟩
      · exact absurd h h0
      · cases hx
        refine (clone_some b off len cap zs w (by omega) h1 hb hc).mono ?_
        rintro e w' ⟨g, c, rfl, hg, hc', hb'⟩
        exact ⟨some ⟨g, 0, none⟩, c, rfl, rfl, .inr ⟨g, 0, rfl, hg, hc'⟩, hb'⟩

set_option maxHeartbeats 800000 in
/-- slices.Equal over two readable rows with the same numbers. -/
theorem equal_any (a a' : Option Addr) (len cap cap' : Nat) (zs : List Int) (w : World) (h1 : len ≤ 1024) (h : Rd .i64 w a len zs) (h' : Rd .i64 w a' len zs) :
    Calls Yba.prog 6 #[.slice a len cap, .slice a' len cap'] w fun e w' => e = .returned (.bool true) ∧ Below w.heap.size w w' := by
  have hll : ((len : Int) != (len : Int)) = false := by simp
  go_enter Yba.func6, Yba.ntmps6
  go_wp2_with fail
  rename_i K0 hK0
  have HK0 := hide hK0
  clear hK0 hll
  go_loopg [13] len (fun g v wx => ∃ i : Nat, i ≤ len ∧ g = len - i ∧ v = .int .i64 i ∧ Below w.heap.size w wx)
  case atStart => go_light; exact ⟨0, by omega, rfl, rfl, Below.refl _ _⟩
  case round =>
    rename World => w2
    rename_i J2 K2 hJ2 hK2
    obtain ⟨i, hi, rfl, rfl, hb⟩ := hrel
    by_cases hlt : i < len
    · have hlt' : (i : Int) < (len : Int) := by omega
      rcases h with h | ⟨b, off, rfl, hb1, hc⟩
      · omega
      · rcases h' with h' | ⟨b', off', rfl, hb2, hc'⟩
        · omega
        · have e1 := hc i hlt
          have e2 := hc' i hlt
          rw [← hb.cell (p := ⟨b, off + i, none⟩) hb1] at e1
          rw [← hb.cell (p := ⟨b', off' + i, none⟩) hb2] at e2
          obtain ⟨x, hx⟩ : ∃ x, zs.getD i 0 = x := ⟨_, rfl⟩
          rw [hx] at e1 e2
          have hxx : (x != x) = false := by simp
          have HB := hide hb
          clear hb hc hc' hx
          go_wp2
          go_quiet (fail)
          go_wp2
          go_roundg (len - (i + 1))
          case measure => go_light; omega
          case rel => go_light; exact ⟨i + 1, by omega, rfl, by go_num, below_drewN HB.out _⟩
    · clear hJ2 hK2
      have hK0 := HK0.out
      clear HK0
      go_wp2
      go_ret
      exact ⟨rfl, hb⟩

end Go.Proofs.Ybulkciem
