import Derived.Test.YbulkciemGreatDoorItoa
namespace Go.Proofs.YbulkciemGreatDoor
open Go.RowKit
set_option linter.unusedVariables false
set_option linter.unusedSimpArgs false

theorem bg7 (w : World) : Calls Ybaz.prog 7 #[] w fun e w' => e = .returned (.iface 89 (.agg #[])) ∧ w' = w := by
  go_enter Ybaz.func7, Ybaz.ntmps7
  go_wp2
  go_ret
  exact ⟨rfl, rfl⟩

/-- One taken operation is appended. -/
theorem appT (W : World) (base n : Nat) (v : Value) (xs : List Value) (s : Int) (bb : ByteArray) (ho : W.ownsRow base 32 2 v n xs) (hn : n ≤ 2) (hb : base ≤ W.heap.size) :
    ∃ g c w', (appendHeld #[30, 30] 30 #[v, .slice (some ⟨W.heap.size, 0, none⟩) 1 1]).run Ybaz.prog (W.alloc (.cells #[.int .i64 s, .string bb] 32)) = .ok (.slice (some ⟨g, 0, none⟩) (n + 1) c) w' ∧
      w'.ownsRow base 32 2 (.slice (some ⟨g, 0, none⟩) (n + 1) c) (n + 1) (xs ++ [.int .i64 s, .string bb]) ∧ Chg v.ownBlock.toList W w' := by
  obtain ⟨t0, ht0, hz0, hz1, hz2⟩ := info_parts Ybaz.info32
  obtain ⟨v', w1, hrun, hown', hgrow, hnil', hblk⟩ := run_append_own_at (P := Ybaz.prog) (W.alloc (.cells #[.int .i64 s, .string bb] 32)) base 30 30 32 t0 _ 2 24 Ybaz.underlying30 ht0 hz0 hz1 hz2 rfl (by decide) v n xs (ho.alloc _) ⟨W.heap.size, 0, none⟩ 1 1 [.int .i64 s, .string bb] rfl
    (by
      intro j u hj
      rw [Addr.add_lit]
      have := (Blk.new W 32 [.int .i64 s, .string bb]).cell j
      rw [hj] at this
      simpa using this)
    (by intro u hu; simp at hu; rcases hu with rfl | rfl <;> rfl) (by unfold maxLen; omega) (by omega) (by simp; omega)
  obtain ⟨g', c', rfl, _, _⟩ := owned_slice hown' (by omega)
  refine ⟨g', c', w1, hrun, hown', ?_⟩
  refine Chg.trans ((Chg.refl _ W).alloc _) (chg_grown hgrow ?_)
  intro k hk _
  simp [hk]

/-- One configuration is appended. -/
theorem appC (W : World) (base n : Nat) (v : Value) (xs : List Value) (st : ByteArray) (p1 p2 p3 : Nat) (ho : W.ownsRow base 37 6 v n xs) (hn : n ≤ 1000) (hb : base ≤ W.heap.size) :
    ∃ g c w', (appendHeld #[27, 27] 27 #[v, .slice (some ⟨W.heap.size, 0, none⟩) 1 1]).run Ybaz.prog (W.alloc (.cells #[.string st, .slice none 0 0, .slice (some ⟨p1, 0, none⟩) p2 p3, .slice none 0 0, .slice none 0 0, .slice none 0 0] 37)) = .ok (.slice (some ⟨g, 0, none⟩) (n + 1) c) w' ∧
      w'.ownsRow base 37 6 (.slice (some ⟨g, 0, none⟩) (n + 1) c) (n + 1) (xs ++ cells6 st (.slice (some ⟨p1, 0, none⟩) p2 p3)) ∧ Chg v.ownBlock.toList W w' := by
  obtain ⟨t0, ht0, hz0, hz1, hz2⟩ := info_parts Ybaz.info37
  obtain ⟨v', w1, hrun, hown', hgrow, hnil', hblk⟩ := run_append_own_at (P := Ybaz.prog) (W.alloc (.cells #[.string st, .slice none 0 0, .slice (some ⟨p1, 0, none⟩) p2 p3, .slice none 0 0, .slice none 0 0, .slice none 0 0] 37)) base 27 27 37 t0 _ 6 136 Ybaz.underlying27 ht0 hz0 hz1 hz2 rfl (by decide) v n xs (ho.alloc _) ⟨W.heap.size, 0, none⟩ 1 1 (cells6 st (.slice (some ⟨p1, 0, none⟩) p2 p3)) rfl
    (by
      intro j u hj
      rw [Addr.add_lit]
      have := (Blk.new W 37 (cells6 st (.slice (some ⟨p1, 0, none⟩) p2 p3))).cell j
      rw [hj] at this
      simpa [cells6] using this)
    (by intro u hu; simp [cells6] at hu; rcases hu with rfl | rfl | rfl | rfl <;> rfl) (by unfold maxLen; omega) (by omega) (by simp; omega)
  obtain ⟨g', c', rfl, _, _⟩ := owned_slice hown' (by omega)
  refine ⟨g', c', w1, hrun, hown', ?_⟩
  refine Chg.trans ((Chg.refl _ W).alloc _) (chg_grown hgrow ?_)
  intro k hk _
  simp [hk]

/-- The law's first loop, behind i configurations. -/
structure Hd (w wx : World) (i AC LP : Nat) (a : Int) (v7 : Value) (tk : Nat → Value) (kf : Nat → Nat) (ex : Nat → Bool) : Prop where
  below : Below w.heap.size w wx
  bA : Blk wx AC 5 [.int .u8 a]
  bL : Blk wx LP 23 [.slice none 0 0]
  own : wx.ownsRow w.heap.size 37 6 v7 i (rowsN stN tk i)
  tks : ∀ j, j < i → TkIn wx (ex j) (tbl (kf j)) (tk j)

theorem Hd.step {w w2 w4 w5 w6 : World} {i AC LP G c : Nat} {a : Int} {v8 v2 : Value} {tk : Nat → Value} {kf : Nat → Nat} {ex : Nat → Bool} (h : Hd w w2 i AC LP a (.slice (some ⟨G, 0, none⟩) i c) tk kf ex) (c24 : Chg [] w2 w4) (htk : TkIn w4 (ex i) (tbl (kf i)) v2) (b45 : Below w4.heap.size w4 w5)
    (own6 : w6.ownsRow w.heap.size 37 6 v8 (i + 1) (rowsN stN tk i ++ cells6 (stN i) v2)) (c56 : Chg [G] w5 w6) : Hd w w6 (i + 1) AC LP a v8 (fun m => if m = i then v2 else tk m) kf ex := by
  have c25 : Chg [] w2 w5 := c24.trans (Chg.ofBelow b45)
  have hG := owned_block h.own (g := G) rfl
  have hG5 := hG.2.chg c25 (by simp)
  have A5 := h.bA.chg c25 (by simp)
  have L5 := h.bL.chg c25 (by simp)
  refine ⟨?_, A5.chg c56 (by simp; exact A5.tag.ne hG5 (by decide)), L5.chg c56 (by simp; exact L5.tag.ne hG5 (by decide)), ?_, ?_⟩
  · have c26 : Chg [G] w2 w6 := (c25.mono (T := [G]) (by simp)).trans c56
    exact h.below.trans (c26.below (by simpa using hG.1) h.below.size)
  · have : rowsN stN (fun m => if m = i then v2 else tk m) (i + 1) = rowsN stN tk i ++ cells6 (stN i) v2 := by
      simp only [rowsN]
      rw [rowsN_congr _ _ tk i (fun m hm => by simp [Nat.ne_of_lt hm])]
      simp
    rw [this]
    exact own6
  · intro j hj
    have nt : NoTk w5 [G] := NoTk.cons hG5 (by decide) (NoTk.nil _)
    by_cases hji : j = i
    · subst hji
      simp only [if_true]
      exact (htk.chg (Chg.ofBelow (S := []) b45) (NoTk.nil _)).chg c56 nt
    · simp only [if_neg hji]
      exact ((h.tks j (by omega)).chg c25 (NoTk.nil _)).chg c56 nt

/-- The taken operations as they have been appended. -/
theorem tk_one {w : World} {base g c : Nat} {b : ByteArray} (h : w.ownsRow base 32 2 (.slice (some ⟨g, 0, none⟩) 1 c) 1 [.int .i64 1, .string b]) : TkIn w false b (.slice (some ⟨g, 0, none⟩) 1 c) :=
  ⟨g, c, owned_tag h, .inl ⟨rfl, rfl, (cells_of_owned h 0 (by simp)).1, (cells_of_owned h 1 (by simp)).1⟩⟩
theorem tk_two {w : World} {base g c : Nat} {b : ByteArray} (h : w.ownsRow base 32 2 (.slice (some ⟨g, 0, none⟩) 2 c) 2 [.int .i64 0, .string ⟨#[113]⟩, .int .i64 1, .string b]) : TkIn w true b (.slice (some ⟨g, 0, none⟩) 2 c) :=
  ⟨g, c, owned_tag h, .inr ⟨rfl, rfl, (cells_of_owned h 0 (by simp)).1, (cells_of_owned h 1 (by simp)).1, (cells_of_owned h 2 (by simp)).1, (cells_of_owned h 3 (by simp)).1⟩⟩
end Go.Proofs.YbulkciemGreatDoor
