import Derived.Test.YbulkciemGreatDoorHead
import Derived.Test.YbulkciemGreatDoorTail19
namespace Go.Proofs.YbulkciemGreatDoor
open Go.RowKit
set_option linter.unusedVariables false
set_option linter.unusedSimpArgs false

abbrev mon : List Value := [.int .i64 0, .string ⟨#[]⟩, .string ⟨#[]⟩, .string ⟨#[]⟩, .string ⟨#[]⟩, .int .i64 0, .int .i64 3, .int .i64 0, .nilFunc, .bool false, .bool false, .bool false, .bool false, .string ⟨#[]⟩, .bool false]

/-- The world that the law hands to complete. -/
def handed (w2 : World) (G n c : Nat) : World :=
  (((w2.alloc (.cells (roo 1099511627776).toArray 44)).alloc (.cells (fr0 w2.heap.size (.slice (some ⟨w2.heap.size + 1 + 1 + 1, 0, none⟩) 2 2) (.slice (some ⟨G, 0, none⟩) n c)).toArray 73)).alloc (.cells mon.toArray 80)).alloc (.cells #[.pointer none, .pointer (some ⟨w2.heap.size + 1 + 1, 0, none⟩)] 74)

theorem chg_handed (w2 : World) (G n c : Nat) : Chg [] w2 (handed w2 G n c) := ((((Chg.refl [] w2).alloc _).alloc _).alloc _).alloc _

theorem ent_of {w w2 : World} {n AC LP G c : Nat} {a : Int} {tk : Nat → Value} {bf : Nat → Int} {ex : Nat → Bool} (h : Hd w w2 n AC LP a (.slice (some ⟨G, 0, none⟩) n c) tk (kOf bf) ex) (hn : n ≤ 300) (ha0 : 0 ≤ a) (ha1 : a ≤ 255) :
    Ent (handed w2 G n c) (w2.heap.size + 1) w2.heap.size LP AC (w2.heap.size + 1 + 1 + 1) (w2.heap.size + 1 + 1) n 2 G c stN ex (kOf bf) tk a := by
  have hc := chg_handed w2 G n c
  have bR : Blk (handed w2 G n c) w2.heap.size 44 (roo 1099511627776) := (((Blk.new w2 44 _).alloc _).alloc _).alloc _
  have bF : Blk (handed w2 G n c) (w2.heap.size + 1) 73 (fr0 w2.heap.size (.slice (some ⟨w2.heap.size + 1 + 1 + 1, 0, none⟩) 2 2) (.slice (some ⟨G, 0, none⟩) n c)) := by
    have := Blk.new (w2.alloc (.cells (roo 1099511627776).toArray 44)) 73 (fr0 w2.heap.size (.slice (some ⟨w2.heap.size + 1 + 1 + 1, 0, none⟩) 2 2) (.slice (some ⟨G, 0, none⟩) n c))
    rw [World.size_alloc] at this
    exact (this.alloc _).alloc _
  have bM : Blk (handed w2 G n c) (w2.heap.size + 1 + 1) 80 mon := by
    have := Blk.new ((w2.alloc (.cells (roo 1099511627776).toArray 44)).alloc (.cells (fr0 w2.heap.size (.slice (some ⟨w2.heap.size + 1 + 1 + 1, 0, none⟩) 2 2) (.slice (some ⟨G, 0, none⟩) n c)).toArray 73)) 80 mon
    rw [World.size_alloc, World.size_alloc] at this
    exact this.alloc _
  have bO : Blk (handed w2 G n c) (w2.heap.size + 1 + 1 + 1) 74 [.pointer none, .pointer (some ⟨w2.heap.size + 1 + 1, 0, none⟩)] := by
    have := Blk.new (((w2.alloc (.cells (roo 1099511627776).toArray 44)).alloc (.cells (fr0 w2.heap.size (.slice (some ⟨w2.heap.size + 1 + 1 + 1, 0, none⟩) 2 2) (.slice (some ⟨G, 0, none⟩) n c)).toArray 73)).alloc (.cells mon.toArray 80)) 74 [.pointer none, .pointer (some ⟨w2.heap.size + 1 + 1, 0, none⟩)]
    rw [World.size_alloc, World.size_alloc, World.size_alloc] at this
    exact this
  have A8 := h.bA.chg hc (by simp)
  have L8 := h.bL.chg hc (by simp)
  have hG := (owned_block h.own (g := G) rfl).2
  refine ⟨bF, bO, bM.tag, bM.cell 6, bM.cell 9, bR, L8, A8.cell 0, A8.tag, ha0, ha1, hG.chg hc (by simp), ?_, ?_, ?_, hn, ?_, ?_⟩
  · intro i hi j u hu
    refine (cell_chg hc hG (by simp)).trans ?_
    have hj : j < 6 := by
      rcases Nat.lt_or_ge j 6 with h | h
      · exact h
      · rw [List.getElem?_eq_none (by simpa [cells6] using h)] at hu
        cases hu
    rcases h.own.2 with ⟨h', _⟩ | ⟨g, cap, cur, h', _, hg, _, _, hs, ht⟩
    · cases h'
    · simp only [Value.slice.injEq, Option.some.injEq, Addr.mk.injEq, and_true, true_and] at h'
      obtain ⟨rfl, rfl⟩ := h'
      rw [cell_of_row w2 G _ _ 37 (0, 0) hg, ← hu, ← rowsN_get stN tk i j hj n hi, ← ht, List.getElem?_take, if_pos (by omega)]
      simp
  · intro i _
    unfold kOf
    omega
  · intro i hi
    exact (h.tks i hi).chg hc (NoTk.nil _)
  · intro i hi
    exact stN_size i (by omega)
  · intro i j _ _ hij
    exact stN_ne hij

theorem aft_of {w w8 w9 : World} {F R LP AC O n c : Nat} {ia : Option Addr} {bf : Nat → Int} {ex : Nat → Bool} {a : Int} {done : Value} (h : Cpl w8 w9 F R LP O n c stN ex (kOf bf) a done) (hb8 : Below w.heap.size w w8) (hS : ∀ s ∈ [F, R, LP, O], w.heap.size ≤ s) (hI : Inp w ia n bf ex) (hT : Tab10 w) (hA : w8.cell? ⟨AC, 0, none⟩ = some (.int .u8 a)) (tA : Tag w8 AC 5) (hAS : AC ∉ [F, R, LP, O]) :
    ∃ gf cf cn vc lc va la v, Aft w9 F R LP AC O c gf cf n cn vc lc ia va la bf ex v a ∧ Below w.heap.size w w9 := by
  obtain ⟨gf, cf, base, v', vis, reached, logv, v, F9, f9, _, o9, t9, R9, L9, l9, O9, c9⟩ := h
  have hb9 : Below w.heap.size w w9 := hb8.trans (c9.below hS hb8.size)
  obtain ⟨cn, hcn⟩ : ∃ cn, cn = (accOf a bf n).length := ⟨_, rfl⟩
  have o9' : w9.ownsRow 0 37 6 v' cn (rowsN (fun m => stN ((accOf a bf n).getD m 0)) v cn) := by rw [hcn]; exact o9
  have t9' : ∀ m, m < cn → TkOut w9 (ex ((accOf a bf n).getD m 0)) (v m) := by rw [hcn]; exact t9
  obtain ⟨va, vc, hv', hkept⟩ : ∃ va vc, v' = .slice va cn vc ∧ (cn = 0 ∨ ∃ vg, va = some ⟨vg, 0, none⟩ ∧ ∀ m, m < cn → (∀ j u, (cells6 (stN ((accOf a bf n).getD m 0)) (v m))[j]? = some u → w9.cell? ⟨vg, m * 6 + j, none⟩ = some u) ∧ TkOut w9 (ex ((accOf a bf n).getD m 0)) (v m)) := by
    rcases o9'.2 with ⟨h1, h2⟩ | ⟨g, cap, cur, h', _, hg, _, _, hs, ht⟩
    · exact ⟨none, 0, by rw [h1, h2], .inl h2⟩
    · refine ⟨_, cap, h', .inr ⟨g, rfl, fun m hm => ⟨fun j u hu => ?_, t9' m hm⟩⟩⟩
      have hj : j < 6 := by
        rcases Nat.lt_or_ge j 6 with h | h
        · exact h
        · rw [List.getElem?_eq_none (by simpa [cells6] using h)] at hu
          cases hu
      rw [cell_of_row w9 g _ _ 37 (0, 0) hg, ← hu, ← rowsN_get (fun m => stN ((accOf a bf n).getD m 0)) v m j hj cn hm, ← ht, List.getElem?_take, if_pos (by omega)]
      simp
  obtain ⟨la, lc, hlv, hlog⟩ : ∃ la lc, logv = .slice la n lc ∧ (n = 0 ∨ ∃ lg, la = some ⟨lg, 0, none⟩ ∧ ∀ i, i < n → w9.cell? ⟨lg, i, none⟩ = some (.string (tbl (kOf bf i)))) := by
    rcases l9.2 with ⟨h1, h2⟩ | ⟨g, cap, cur, h', _, hg, _, _, hs, ht⟩
    · exact ⟨none, 0, by rw [h1, h2], .inl h2⟩
    · refine ⟨_, cap, h', .inr ⟨g, rfl, fun i hi => ?_⟩⟩
      have := congrArg (fun l => l[i]?) ht
      simp only [List.getElem?_take] at this
      rw [if_pos (by omega)] at this
      rw [cell_of_row w9 g _ _ 9 (0, 0) hg]
      simpa [hi] using this
  subst hv' hlv
  exact ⟨gf, cf, cn, vc, lc, va, la, v, ⟨F9.cell 3, O9.cell 1, F9.cell 4, f9, F9.cell 6, F9.cell 54, R9.cell 2, L9.cell 0, (cell_chg c9 tA hAS).trans hA, hcn, hlog, hkept, hI.below hb9, tab_below hT hb9⟩, hb9⟩
end Go.Proofs.YbulkciemGreatDoor
