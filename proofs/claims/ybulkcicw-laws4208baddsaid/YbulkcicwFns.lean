import Derived.Test.YbulkcicwRows
import Derived.Test.YbulkcicwMem
import Derived.Deep.AppendLies
import Derived.WalkKit
import Derived.WalkLawsBesides
import Derived.Deep.QuietTactic
import Derived.BigQuiet
import Derived.Below
import Derived.Deep.RegionHeld3
namespace Go.Proofs.Ybulkcicw
open Go.RowKit
set_option linter.unusedVariables false

/-- A slice of integers that can be read: empty, or a row of cells. -/
def Rd (k : IntKind) (w : World) (a : Option Addr) (len : Nat) (zs : List Int) : Prop :=
  len = 0 ∨ ∃ b off, a = some ⟨b, off, none⟩ ∧ b < w.heap.size ∧ ∀ i, i < len → w.cell? ⟨b, off + i, none⟩ = some (.int k (zs.getD i 0))

def initAt (zs : List Int) (len i : Nat) : Int := if i < len then zs.getD i 0 else 0

theorem init_any (a : Option Addr) (len cap i : Nat) (zs : List Int) (w : World) (h : Rd .i64 w a len zs) (hl : len ≤ maxLen) (hi : i ≤ maxLen) :
    Calls Yba.prog 4 #[.slice a len cap, .int .i64 i] w fun e w' => e = .returned (.int .i64 (initAt zs len i)) ∧ w' = w := by
  unfold maxLen at hl hi
  by_cases hlt : i < len
  · rcases h with h | ⟨b, off, rfl, hb, hc⟩
    · omega
    · have hcell := hc i hlt
      clear hc
      go_enter Yba.func4, Yba.ntmps4
      go_wp2
      go_ret
      exact ⟨by simp [initAt, hlt], rfl⟩
  · go_enter Yba.func4, Yba.ntmps4
    go_wp2
    go_ret
    exact ⟨by simp [initAt, hlt], rfl⟩


theorem index_any (G bb nb cb p d i : Nat) (x : Int) (w : World) (hg : w.cell? ⟨G, 4, none⟩ = some (.slice (some ⟨bb, 0, none⟩) nb cb)) (hp : p < nb) (hnb : nb ≤ 100000)
    (hx : w.cell? ⟨bb, p, none⟩ = some (.int .i64 x)) (hx0 : 0 ≤ x) (hi : x + d = (i : Int)) (hx1 : i ≤ 9223372036854775807) :
    Calls Yba.prog 6 #[.pointer (some ⟨G, 0, none⟩), .agg #[.int .i64 p, .int .i64 d]] w fun e w' => e = .returned (.int .i64 i) ∧ Below w.heap.size w w' := by
  have hx2 : x + d ≤ 9223372036854775807 := by omega
  have HI : Hid (x + d = (i : Int)) := hi
  clear hi

  have hp' : (p : Int) < (nb : Int) := by omega
  have n1 : G < w.heap.size := World.block_lt_of_cell? w ⟨G, 4, none⟩ hg
  have n2 : bb < w.heap.size := World.block_lt_of_cell? w ⟨bb, p, none⟩ hx
  go_enter Yba.func6, Yba.ntmps6
  go_wp2
  go_quiet (fail)
  go_wp2
  go_ret
  exact ⟨by rw [HI.out]; rfl, below_drewN ((Below.refl _ _).alloc (Nat.le_refl _) _) _⟩

theorem bcell {W w1 : World} (hb : Below W.heap.size W w1) : (∀ b o, b < W.heap.size → w1.cell? ⟨b, o, none⟩ = W.cell? ⟨b, o, none⟩) ∧ (∀ b o, b < W.heap.size → w1.frozen? ⟨b, o, none⟩ = W.frozen? ⟨b, o, none⟩) :=
  ⟨fun b o h => hb.cell (p := ⟨b, o, none⟩) h, fun b o h => hb.frozen (p := ⟨b, o, none⟩) h⟩

set_option maxHeartbeats 400000 in
theorem add_skip (C G bb nb cb L tot p d i : Nat) (x round : Int) (lv : Value) (w : World)
    (c0 : w.cell? ⟨C, 0, none⟩ = some (.pointer (some ⟨G, 0, none⟩))) (c1 : w.cell? ⟨C, 1, none⟩ = some (.int .i64 round)) (c2 : w.cell? ⟨C, 2, none⟩ = some (.slice (some ⟨L, 0, none⟩) tot tot))
    (hg : w.cell? ⟨G, 4, none⟩ = some (.slice (some ⟨bb, 0, none⟩) nb cb)) (hp : p < nb) (hnb : nb ≤ 100000) (ht : tot ≤ 100000) (hd : d ≤ 100000)
    (hx : w.cell? ⟨bb, p, none⟩ = some (.int .i64 x)) (hi : x + d = (i : Int)) (hx0 : 0 ≤ x) (hit : i < tot)
    (hl : w.cell? ⟨L, i, none⟩ = some (.int .i64 round)) :
    Calls Yba.prog 5 #[.pointer (some ⟨C, 0, none⟩), lv, .agg #[.int .i64 p, .int .i64 d]] w fun e w' => e = .returned lv ∧ Below w.heap.size w w' := by
  have n1 : C < w.heap.size := World.block_lt_of_cell? w _ c0
  have n2 : G < w.heap.size := World.block_lt_of_cell? w _ hg
  have n3 : bb < w.heap.size := World.block_lt_of_cell? w _ hx
  have n4 : L < w.heap.size := World.block_lt_of_cell? w _ hl
  have m1 : C < w.heap.size + 1 := by omega
  have m4 : L < w.heap.size + 1 := by omega
  have hit' : (i : Int) < (tot : Int) := by omega
  have hxd : i ≤ 9223372036854775807 := by omega
  go_enter Yba.func5, Yba.ntmps5
  go_wp2
  go_region_held3 (fun w' => w'.cell? ⟨C, 0, none⟩ = some (.pointer (some ⟨G, 0, none⟩)) ∧ w'.cell? ⟨w.heap.size, 0, none⟩ = some (.int .i64 p) ∧ w'.cell? ⟨w.heap.size, 1, none⟩ = some (.int .i64 d)) (go_keep)
    ((go_at_call 6; refine (index_any G bb nb cb p d i x _ ?_ hp hnb ?_ hx0 hi hxd).mono ?_; (exact (World.cell?_alloc_past _ _ _ n2).trans hg); (exact (World.cell?_alloc_past _ _ _ n3).trans hx); rintro e w1 ⟨rfl, hb⟩; obtain ⟨hc, hf⟩ := bcell hb; simp only [World.size_drew, World.size_alloc] at hc hf))
  go_wp2
  go_quiet (fail)
  go_wp2
  go_ret
  refine ⟨rfl, below_drewN ?_ _⟩
  exact (((Below.refl _ _).alloc (Nat.le_refl _) _).drew).trans (hb.mono (by simp))

theorem Yba.info43 : (Yba.prog.info? 43).map (fun i => (i.zero, i.size, i.bytes)) = some (some (.agg #[.int .i64 0, .int .i64 0]), 2, 16) := by kernel_rfl

/-- What an added item leaves behind it. -/
theorem new_world {w wa w1 w' : World} {L i base n g nq : Nat} {round : Int} {lv : Value} {xs : List Value} {ls : List Int} {o : Obj}
    (hL : Blk w L 3 (ls.map (.int .i64))) (hb : Below (w.heap.size + 1) ((w.alloc o).drew) w1) (hown : w.ownsRow base 43 2 lv n xs) (hLb : L < base)
    (hw : wa = ((w1.drewN nq).setCell ⟨L, i, none⟩ (.int .i64 round))) (hg : (wa.alloc o).grownBy w' lv.ownBlock) (hat : lv.ownBlock = some g ∨ g = w1.heap.size + 1) :
    Chg (L :: lv.ownBlock.toList) w w' ∧ Blk w' L 3 ((ls.set i round).map (.int .i64)) ∧ (lv.ownBlock = some g ∨ w.heap.size ≤ g) := by
  have hb' : Below w.heap.size w w1 := ((((Below.refl _ _).alloc (Nat.le_refl _) o).drew).trans (hb.mono (by simp)))
  have h1 : Chg (L :: lv.ownBlock.toList) w w1 := Chg.ofBelow hb'
  have h2 : Chg (L :: lv.ownBlock.toList) w1 (wa.alloc o) := by
    subst hw
    have a1 : Chg (L :: lv.ownBlock.toList) w1 (w1.drewN nq) := ⟨rfl, rfl, rfl, Nat.le_refl _, fun _ _ _ => rfl⟩
    have a2 : Chg (L :: lv.ownBlock.toList) (w1.drewN nq) ((w1.drewN nq).setCell ⟨L, i, none⟩ (.int .i64 round)) := chg_setCell (by simp) _
    have a3 := Chg.ofBelow (S := L :: lv.ownBlock.toList) ((Below.refl _ ((w1.drewN nq).setCell ⟨L, i, none⟩ (.int .i64 round))).alloc (Nat.le_refl _) o)
    exact (a1.trans a2).trans a3
  have h3 : Chg (L :: lv.ownBlock.toList) (wa.alloc o) w' := chg_grown hg (fun k hk _ => by simp [hk])
  refine ⟨(h1.trans h2).trans h3, ?_, ?_⟩
  · have b1 : Blk w1 L 3 (ls.map (.int .i64)) := hL.below hb' hL.lt
    have b2 : Blk (wa.alloc o) L 3 ((ls.map (.int .i64)).set i (.int .i64 round)) := by
      subst hw
      exact ((b1.drewN nq).put i _).alloc o
    have b3 := b2.grown hg (fun e => by have := (hown.lt L e.symm).1; omega)
    rw [List.map_set]
    exact b3
  · rcases hat with h | h
    · exact .inl h
    · exact .inr (by have := hb'.size; omega)

set_option maxHeartbeats 800000 in
theorem add_new (C G bb nb cb L tot p d i base n : Nat) (x y round : Int) (lv : Value) (xs : List Value) (ls : List Int) (w : World)
    (c0 : w.cell? ⟨C, 0, none⟩ = some (.pointer (some ⟨G, 0, none⟩))) (c1 : w.cell? ⟨C, 1, none⟩ = some (.int .i64 round)) (c2 : w.cell? ⟨C, 2, none⟩ = some (.slice (some ⟨L, 0, none⟩) tot tot))
    (hg : w.cell? ⟨G, 4, none⟩ = some (.slice (some ⟨bb, 0, none⟩) nb cb)) (hp : p < nb) (hnb : nb ≤ 100000) (ht : tot ≤ 100000) (hd : d ≤ 100000)
    (hx : w.cell? ⟨bb, p, none⟩ = some (.int .i64 x)) (hi : x + d = (i : Int)) (hx0 : 0 ≤ x) (hit : i < tot)
    (hl : w.cell? ⟨L, i, none⟩ = some (.int .i64 y)) (hy : (y == round) = false) (hL0 : Blk w L 3 (ls.map (.int .i64))) (hn : n ≤ 100000)
    (hown : w.ownsRow base 43 2 lv n xs) (hbase : base ≤ w.heap.size) (hLb : L < base) :
    Calls Yba.prog 5 #[.pointer (some ⟨C, 0, none⟩), lv, .agg #[.int .i64 p, .int .i64 d]] w fun e w' => ∃ g cap, e = .returned (.slice (some ⟨g, 0, none⟩) (n + 1) cap) ∧
      w'.ownsRow base 43 2 (.slice (some ⟨g, 0, none⟩) (n + 1) cap) (n + 1) (xs ++ [.int .i64 p, .int .i64 d]) ∧ Chg (L :: lv.ownBlock.toList) w w' ∧ Blk w' L 3 ((ls.set i round).map (.int .i64)) ∧
      (lv.ownBlock = some g ∨ w.heap.size ≤ g) ∧ g < w'.heap.size := by
  have n1 : C < w.heap.size := World.block_lt_of_cell? w _ c0
  have n2 : G < w.heap.size := World.block_lt_of_cell? w _ hg
  have n3 : bb < w.heap.size := World.block_lt_of_cell? w _ hx
  have n4 : L < w.heap.size := World.block_lt_of_cell? w _ hl
  have m1 : C < w.heap.size + 1 := by omega
  have m4 : L < w.heap.size + 1 := by omega
  have hfz : w.frozen? ⟨L, i, none⟩ = false := hL0.frozen i
  have hit' : (i : Int) < (tot : Int) := by omega
  have hxd : i ≤ 9223372036854775807 := by omega
  obtain ⟨i0, hi0, hz0, hz1, hz2⟩ := info_parts Yba.info43
  have HL : Hid (Blk w L 3 (ls.map (.int .i64))) := hL0
  clear hL0
  go_enter Yba.func5, Yba.ntmps5
  go_wp2
  go_region_held3 (fun w' => w'.cell? ⟨C, 0, none⟩ = some (.pointer (some ⟨G, 0, none⟩)) ∧ w'.cell? ⟨w.heap.size, 0, none⟩ = some (.int .i64 p) ∧ w'.cell? ⟨w.heap.size, 1, none⟩ = some (.int .i64 d)) (go_keep)
    ((go_at_call 6; refine (index_any G bb nb cb p d i x _ ?_ hp hnb ?_ hx0 hi hxd).mono ?_; (exact (World.cell?_alloc_past _ _ _ n2).trans hg); (exact (World.cell?_alloc_past _ _ _ n3).trans hx); rintro e w1 ⟨rfl, hb⟩; obtain ⟨hc, hf⟩ := bcell hb; simp only [World.size_drew, World.size_alloc] at hc hf))
  go_wp2
  go_quiet (fail)
  go_wp2
  go_region
  go_wp2_with (at_builtin; refine wpList_append_lies _ rfl _ _ 37 rfl base 43 i0 (.agg #[.int .i64 0, .int .i64 0]) 2 16 Yba.underlying37 hi0 hz0 hz1 hz2 rfl (by decide) lv n xs rfl ?a1 ⟨_, 0, none⟩ 1 1 [.int .i64 p, .int .i64 d] rfl rfl ?a2 ?a3 (by decide) ?a4 ?a5 ?a6 _ rfl ?a7)
  case a1 =>
    have hb' : Below w.heap.size w w1 := ((((Below.refl _ _).alloc (Nat.le_refl _) _).drew).trans (hb.mono (by simp)))
    have h1 : w1.ownsRow base 43 2 lv n xs := owns_chg hown (Chg.ofBelow (S := []) hb') (by simp)
    have h2 : (w1.drewN (nq + 1)).ownsRow base 43 2 lv n xs := h1
    exact (ownsRow_setCell_below h2 hLb _).alloc _
  case a2 => exact fun j u hj => by simpa using cell_two_new ((w1.drewN (nq + 1)).setCell ⟨L, i, none⟩ (.int .i64 round)) _ _ 43 j u hj
  case a3 => intro u hu; simp at hu; rcases hu with rfl | rfl <;> rfl
  case a4 => unfold maxLen; omega
  case a5 => omega
  case a6 => have := hb.size; simp at this ⊢; omega
  case a7 =>
    intro g cap w' hown' hgrow hat hlt
    have R := new_world HL.out (hb.mono (by simp)) hown hLb rfl hgrow hat
    clear hgrow hb hc hf
    go_wp2
    go_ret
    exact ⟨g, cap, rfl, hown', R.1, R.2.1, R.2.2, hlt⟩

end Go.Proofs.Ybulkcicw
