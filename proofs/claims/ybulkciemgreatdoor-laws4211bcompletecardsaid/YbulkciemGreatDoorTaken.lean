import Derived.Test.YbulkciemGreatDoorRoom
namespace Go.Proofs.YbulkciemGreatDoor
open Go.RowKit
set_option linter.unusedVariables false
set_option linter.unusedSimpArgs false

/-- The taken operations of a configuration as the law lays them. -/
def TkIn (w : World) (x : Bool) (b : ByteArray) (v : Value) : Prop :=
  ∃ g c, Tag w g 32 ∧ ((x = false ∧ v = .slice (some ⟨g, 0, none⟩) 1 c ∧ w.cell? ⟨g, 0, none⟩ = some (.int .i64 1) ∧ w.cell? ⟨g, 1, none⟩ = some (.string b)) ∨
    (x = true ∧ v = .slice (some ⟨g, 0, none⟩) 2 c ∧ w.cell? ⟨g, 0, none⟩ = some (.int .i64 0) ∧ w.cell? ⟨g, 1, none⟩ = some (.string ⟨#[113]⟩) ∧ w.cell? ⟨g, 2, none⟩ = some (.int .i64 1) ∧ w.cell? ⟨g, 3, none⟩ = some (.string b)))
/-- The taken operations once slot 1 is gone. -/
def TkOut (w : World) (x : Bool) (v : Value) : Prop :=
  ∃ g c, (x = false ∧ v = .slice (some ⟨g, 0, none⟩) 0 c) ∨ (x = true ∧ v = .slice (some ⟨g, 0, none⟩) 1 c ∧ Tag w g 32 ∧ w.cell? ⟨g, 0, none⟩ = some (.int .i64 0) ∧ w.cell? ⟨g, 1, none⟩ = some (.string ⟨#[113]⟩))

theorem cell_chg {S : List Nat} {w w' : World} (hc : Chg S w w') {g i : Nat} {e : TypeId} (ht : Tag w g e) (hS : g ∉ S) : w'.cell? ⟨g, i, none⟩ = w.cell? ⟨g, i, none⟩ :=
  World.cell?_of_block (a := ⟨g, i, none⟩) (hc.block g ht.lt hS)
/-- No block of S is a row of taken operations. -/
def NoTk (w : World) (S : List Nat) : Prop := ∀ s ∈ S, ∀ arr : Array Value, w.heap[s]? ≠ some (.cells arr 32 (0, 0))
theorem NoTk.not {w : World} {S : List Nat} (h : NoTk w S) {g : Nat} (ht : Tag w g 32) : g ∉ S := fun hm => by
  obtain ⟨a, ha⟩ := ht
  exact h g hm a ha
theorem NoTk.nil (w : World) : NoTk w [] := by intro s hs; cases hs
theorem NoTk.cons {w : World} {S : List Nat} {g : Nat} {e : TypeId} (h : Tag w g e) (he : e ≠ 32) (hS : NoTk w S) : NoTk w (g :: S) := by
  intro s hs arr ha
  rcases List.mem_cons.1 hs with rfl | hs
  · exact h.ne ⟨arr, ha⟩ he rfl
  · exact hS s hs arr ha
theorem TkOut.chg {S : List Nat} {w w' : World} {x : Bool} {v : Value} (h : TkOut w x v) (hc : Chg S w w') (hS : NoTk w S) : TkOut w' x v := by
  obtain ⟨g, c, ⟨rfl, rfl⟩ | ⟨rfl, rfl, ht, h0, h1⟩⟩ := h
  · exact ⟨g, c, .inl ⟨rfl, rfl⟩⟩
  · have hg := hS.not ht
    exact ⟨g, c, .inr ⟨rfl, rfl, ht.chg hc hg, (cell_chg hc ht hg).trans h0, (cell_chg hc ht hg).trans h1⟩⟩
theorem TkIn.chg {S : List Nat} {w w' : World} {x : Bool} {b : ByteArray} {v : Value} (h : TkIn w x b v) (hc : Chg S w w') (hS : NoTk w S) : TkIn w' x b v := by
  obtain ⟨g, c, ht, h⟩ := h
  have hg := hS.not ht
  refine ⟨g, c, ht.chg hc hg, ?_⟩
  rcases h with ⟨rfl, rfl, h0, h1⟩ | ⟨rfl, rfl, h0, h1, h2, h3⟩
  · exact .inl ⟨rfl, rfl, (cell_chg hc ht hg).trans h0, (cell_chg hc ht hg).trans h1⟩
  · exact .inr ⟨rfl, rfl, (cell_chg hc ht hg).trans h0, (cell_chg hc ht hg).trans h1, (cell_chg hc ht hg).trans h2, (cell_chg hc ht hg).trans h3⟩
theorem owned_tag {w : World} {base g c n m size : Nat} {e : TypeId} {vs : List Value} (h : w.ownsRow base e size (.slice (some ⟨g, 0, none⟩) m c) n vs) : Tag w g e := by
  rcases h.2 with ⟨h', _⟩ | ⟨g', cap, cur, h', _, hg, _⟩
  · cases h'
  · simp only [Value.slice.injEq, Option.some.injEq, Addr.mk.injEq, and_true, true_and] at h'
    obtain ⟨rfl, _⟩ := h'
    exact ⟨cur, hg⟩

theorem cells_of_owned {w : World} {base g c n : Nat} {vs : List Value} (h : w.ownsRow base 32 2 (.slice (some ⟨g, 0, none⟩) n c) n vs) (i : Nat) (hi : i < vs.length) : w.cell? ⟨g, i, none⟩ = vs[i]? ∧ w.frozen? ⟨g, i, none⟩ = false ∧ n ≤ c := by
  rcases h.2 with ⟨h', _⟩ | ⟨g', cap, cur, h', _, hg, hle, _, hs, ht⟩
  · cases h'
  · simp only [Value.slice.injEq, Option.some.injEq, Addr.mk.injEq, and_true, true_and] at h'
    obtain ⟨rfl, rfl⟩ := h'
    refine ⟨?_, frozen_of_row w g i _ 32 hg, hle⟩
    rw [cell_of_row w g i _ 32 (0, 0) hg, ← ht, List.getElem?_take]
    have : i < n * 2 := by rw [← h.1]; exact hi
    simp [this]

set_option maxHeartbeats 800000 in
theorem without_one (b : ByteArray) (g c : Nat) (w : World) (hg : g < w.heap.size) (h0 : w.cell? ⟨g, 0, none⟩ = some (.int .i64 1)) (h1 : w.cell? ⟨g, 1, none⟩ = some (.string b)) :
    Calls Ybaz.prog 18 #[.slice (some ⟨g, 0, none⟩) 1 c, .int .i64 1] w fun e w' => ∃ v, e = .returned v ∧ TkOut w' false v ∧ Below w.heap.size w w' := by
  have hb := (Below.refl w.heap.size w).alloc (Nat.le_refl _) (.cells #[.int .i64 1] 3)
  have hq : (w.alloc (.cells #[.int .i64 1] 3)).cell? ⟨w.heap.size, 0, none⟩ = some (.int .i64 1) := by simp
  have HC := hide (clone40 g 0 1 c [.int .i64 1, .string b] (w.alloc (.cells #[.int .i64 1] 3)) (by omega) (by omega) rfl (by simp [Value.oneCell']) (Nat.lt_of_lt_of_le hg hb.size) (by
    intro j u hj
    match j, hj with
    | 0, hj => simp at hj; subst hj; exact cell_later hb h0
    | 1, hj => simp at hj; subst hj; exact cell_later hb h1
    | j + 2, hj => simp at hj))
  have HB := hide hb
  have HQ := hide hq
  clear hb hq h0 h1
  go_enter Ybaz.func18, Ybaz.ntmps18
  go_wp2_with (go_at_call 40; refine HC.out.mono ?_; rintro e w3 ⟨g3, c3, rfl, a3, l3, o3, b3⟩; have O3 := hide o3; have B3 := hide b3; have A3 := hide a3; clear o3 b3 a3)
  have q3 := cell_later B3.out HQ.out
  have hcall := del_one g3 c3 w.heap.size b w3 l3 q3 (cells_of_owned O3.out 0 (by simp)).1 (cells_of_owned O3.out 1 (by simp)).1 (cells_of_owned O3.out 0 (by simp)).2.1 (cells_of_owned O3.out 1 (by simp)).2.1 (cells_of_owned O3.out 1 (by simp)).2.2
  have HD := hide hcall
  clear hcall q3
  go_wp2_with (go_at_call 39; refine HD.out.mono ?_; rintro e w4 ⟨rfl, b4⟩; have B4 := hide b4; clear b4)
  go_ret
  have s3 : w.heap.size ≤ g3 := Nat.le_trans HB.out.size A3.out
  refine ⟨_, rfl, ⟨g3, c3, .inl ⟨rfl, rfl⟩⟩, ?_⟩
  exact (HB.out.trans (B3.out.mono HB.out.size)).trans (B4.out.below (by simpa using s3) (Nat.le_trans HB.out.size B3.out.size))

set_option maxHeartbeats 800000 in
theorem without_two (b : ByteArray) (g c : Nat) (w : World) (hg : g < w.heap.size) (h0 : w.cell? ⟨g, 0, none⟩ = some (.int .i64 0)) (h1 : w.cell? ⟨g, 1, none⟩ = some (.string ⟨#[113]⟩)) (h2 : w.cell? ⟨g, 2, none⟩ = some (.int .i64 1)) (h3 : w.cell? ⟨g, 3, none⟩ = some (.string b)) :
    Calls Ybaz.prog 18 #[.slice (some ⟨g, 0, none⟩) 2 c, .int .i64 1] w fun e w' => ∃ v, e = .returned v ∧ TkOut w' true v ∧ Below w.heap.size w w' := by
  have hb := (Below.refl w.heap.size w).alloc (Nat.le_refl _) (.cells #[.int .i64 1] 3)
  have hq : (w.alloc (.cells #[.int .i64 1] 3)).cell? ⟨w.heap.size, 0, none⟩ = some (.int .i64 1) := by simp
  have HC := hide (clone40 g 0 2 c [.int .i64 0, .string ⟨#[113]⟩, .int .i64 1, .string b] (w.alloc (.cells #[.int .i64 1] 3)) (by omega) (by omega) rfl (by simp [Value.oneCell']) (Nat.lt_of_lt_of_le hg hb.size) (by
    intro j u hj
    match j, hj with
    | 0, hj => simp at hj; subst hj; exact cell_later hb h0
    | 1, hj => simp at hj; subst hj; exact cell_later hb h1
    | 2, hj => simp at hj; subst hj; exact cell_later hb h2
    | 3, hj => simp at hj; subst hj; exact cell_later hb h3
    | j + 4, hj => simp at hj))
  have HB := hide hb
  have HQ := hide hq
  clear hb hq h0 h1 h2 h3
  go_enter Ybaz.func18, Ybaz.ntmps18
  go_wp2_with (go_at_call 40; refine HC.out.mono ?_; rintro e w3 ⟨g3, c3, rfl, a3, l3, o3, b3⟩; have O3 := hide o3; have B3 := hide b3; have A3 := hide a3; clear o3 b3 a3)
  have q3 := cell_later B3.out HQ.out
  have hcall := del_two g3 c3 w.heap.size b ⟨#[113]⟩ w3 l3 q3 (cells_of_owned O3.out 0 (by simp)).1 (cells_of_owned O3.out 1 (by simp)).1 (cells_of_owned O3.out 2 (by simp)).1 (cells_of_owned O3.out 3 (by simp)).1 (owned_tag O3.out) (cells_of_owned O3.out 2 (by simp)).2.1 (cells_of_owned O3.out 3 (by simp)).2.1 (cells_of_owned O3.out 1 (by simp)).2.2
  have HD := hide hcall
  clear hcall q3
  go_wp2_with (go_at_call 39; refine HD.out.mono ?_; rintro e w4 ⟨rfl, b4, x0, x1, x2⟩; have B4 := hide b4; have X := hide (And.intro x0 x1); have T := hide x2; clear b4 x0 x1 x2)
  go_ret
  have s3 : w.heap.size ≤ g3 := Nat.le_trans HB.out.size A3.out
  refine ⟨_, rfl, ⟨g3, c3, .inr ⟨rfl, rfl, T.out, X.out.1, X.out.2⟩⟩, ?_⟩
  exact (HB.out.trans (B3.out.mono HB.out.size)).trans (B4.out.below (by simpa using s3) (Nat.le_trans HB.out.size B3.out.size))

theorem without18 (x : Bool) (b : ByteArray) (v : Value) (w : World) (h : TkIn w x b v) : Calls Ybaz.prog 18 #[v, .int .i64 1] w fun e w' => ∃ v', e = .returned v' ∧ TkOut w' x v' ∧ Below w.heap.size w w' := by
  obtain ⟨g, c, ht, ⟨rfl, rfl, h0, h1⟩ | ⟨rfl, rfl, h0, h1, h2, h3⟩⟩ := h
  · exact without_one b g c w (World.block_lt_of_cell? _ _ h0) h0 h1
  · exact without_two b g c w (World.block_lt_of_cell? _ _ h0) h0 h1 h2 h3
end Go.Proofs.YbulkciemGreatDoor
