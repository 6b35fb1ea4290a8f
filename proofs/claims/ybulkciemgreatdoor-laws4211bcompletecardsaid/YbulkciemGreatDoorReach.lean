import Derived.Test.YbulkciemGreatDoorBytes
namespace Go.Proofs.YbulkciemGreatDoor
open Go.RowKit
set_option linter.unusedVariables false
set_option linter.unusedSimpArgs false

def appendHeld (ts : Array TypeId) (ty : TypeId) (args : Array Value) : Sem Value := Builtin.append_ ts ty args
theorem append_held (ts : Array TypeId) (ty : TypeId) (args : Array Value) : Builtin.append_ ts ty args = appendHeld ts ty args := rfl
attribute [local go_sem ↓] append_held

theorem Ybaz.info37 : (Ybaz.prog.info? 37).map (fun i => (i.zero, i.size, i.bytes)) = some (some (.agg #[.string ⟨#[]⟩, .slice none 0 0, .slice none 0 0, .slice none 0 0, .slice none 0 0, .slice none 0 0]), 6, 136) := by kernel_rfl

/-- The cells of a configuration. -/
def cells6 (st : ByteArray) (v : Value) : List Value := [.string st, .slice none 0 0, v, .slice none 0 0, .slice none 0 0, .slice none 0 0]

section
variable {w w' w'' : World} {S T : List Nat}
theorem Chg.mono (h : Chg S w w') (hS : ∀ s ∈ S, s < w.heap.size → s ∈ T) : Chg T w w' := ⟨h.os, h.tape, h.output, h.size, fun k hk hn => h.block k hk (fun hm => hn (hS k hm hk))⟩
theorem Chg.trans' (h : Chg T w w') (k : Chg S w' w'') (hS : ∀ s ∈ S, s < w.heap.size → s ∈ T) : Chg T w w'' :=
  ⟨k.os.trans h.os, k.tape.trans h.tape, k.output.trans h.output, Nat.le_trans h.size k.size, fun i hi hn => (k.block i (Nat.lt_of_lt_of_le hi h.size) (fun hm => hn (hS i hm hi))).trans (h.block i hi hn)⟩
theorem Chg.drew (h : Chg S w w') : Chg S w w'.drew := ⟨h.os, h.tape, h.output, h.size, h.block⟩
theorem Chg.alloc (h : Chg S w w') (o : Obj) : Chg S w (w'.alloc o) := h.trans (Chg.ofBelow ((Below.refl _ _).alloc (Nat.le_refl _) o))
end

theorem owned_slice {w : World} {base n size : Nat} {e : TypeId} {v : Value} {vs : List Value} (h : w.ownsRow base e size v n vs) (hn : 0 < n) : ∃ g c, v = .slice (some ⟨g, 0, none⟩) n c ∧ base ≤ g ∧ Tag w g e := by
  rcases h.2 with ⟨_, h'⟩ | ⟨g, cap, cur, rfl, hb, hg, _⟩
  · omega
  · exact ⟨g, cap, rfl, hb, cur, hg⟩
theorem owned_block {w : World} {base n size g : Nat} {e : TypeId} {v : Value} {vs : List Value} (h : w.ownsRow base e size v n vs) (hg : v.ownBlock = some g) : base ≤ g ∧ Tag w g e := by
  rcases h.2 with ⟨rfl, _⟩ | ⟨g', cap, cur, rfl, hb, hgg, _⟩
  · simp [Value.ownBlock] at hg
  · simp [Value.ownBlock] at hg
    subst hg
    exact ⟨hb, cur, hgg⟩

set_option maxRecDepth 6000 in
set_option maxHeartbeats 1600000 in
theorem reach19 (F R n base : Nat) (st : ByteArray) (x : Bool) (v ops free cfgs done vis reached : Value) (cs : List Value) (charged left : Int) (w : World)
    (hF : Blk w F 73 (fro F R ops free cfgs done vis reached charged)) (hR : Blk w R 44 (roo left)) (h1 : 0 < st.size) (h2 : st.size ≤ 1000) (hv : TkOut w x v)
    (ho : w.ownsRow base 37 6 reached n cs) (hn : n ≤ 1000) (hbase : base ≤ w.heap.size)
    (h3 : 1000000 ≤ left) (h4 : left ≤ 1099511627776) (h5 : 0 ≤ charged) (h6 : charged ≤ 1000000000) :
    Calls Ybaz.prog 19 #[.pointer (some ⟨F, 16, none⟩), cfg st v] w fun e w' => ∃ (reached' : Value) (k : Nat), e = .returned (.tuple #[]) ∧ k ≤ 200000 ∧ Blk w' F 73 (fro F R ops free cfgs done vis reached' (charged + k)) ∧ Blk w' R 44 (roo (left - k)) ∧
      w'.ownsRow base 37 6 reached' (n + 1) (cs ++ cells6 st v) ∧ Chg (F :: R :: reached.ownBlock.toList) w w' := by
  have hv1 : v.oneCell' = true := by obtain ⟨g, c, ⟨rfl, rfl⟩ | ⟨rfl, rfl, _⟩⟩ := hv <;> rfl
  have hne : F ≠ R := hF.tag.ne hR.tag (by decide)
  have e16 : w.cell? ⟨F, 16, none⟩ = some (.pointer (some ⟨F, 0, none⟩)) := hF.cell 16
  have e28 : w.cell? ⟨F, 28, none⟩ = some reached := hF.cell 28
  have f28 := hF.frozen 28
  have hlt := hF.lt
  obtain ⟨t0, ht0, hz0, hz1, hz2⟩ := info_parts Ybaz.info37
  obtain ⟨v', w1, hrun, hown', hgrow, hnil', hblk⟩ := run_append_own_at (P := Ybaz.prog) (((w.alloc (.cells (cells6 st v).toArray 37)).alloc (.cells (cells6 st v).toArray 37)).drew) base 27 27 37 t0 _ 6 136 Ybaz.underlying27 ht0 hz0 hz1 hz2 rfl (by decide) reached n cs ((ho.alloc _).alloc _).drew ⟨w.heap.size + 1, 0, none⟩ 1 1 (cells6 st v) rfl
    (by
      intro j u hj
      rw [Addr.add_lit]
      have hb2 : Blk ((w.alloc (.cells (cells6 st v).toArray 37)).alloc (.cells (cells6 st v).toArray 37)) (w.alloc (.cells (cells6 st v).toArray 37)).heap.size 37 (cells6 st v) := Blk.new _ 37 _
      rw [World.size_alloc] at hb2
      have := hb2.cell j
      rw [hj] at this
      simpa using this)
    (by intro u hu; simp [cells6] at hu; rcases hu with rfl | rfl | rfl | rfl <;> first | rfl | exact hv1) (by unfold maxLen; omega) (by omega) (by simp; omega)
  obtain ⟨g', c', rfl, hg', htag⟩ := owned_slice hown' (by omega)
  have hbx : Blk w1 w.heap.size 37 (cells6 st v) := by
    refine Blk.grown ?_ hgrow ?_
    · exact ((Blk.new w 37 (cells6 st v)).alloc _).drew
    · intro he
      have := (owned_block ho he.symm).2.lt
      omega
  have hc1 : Chg (F :: R :: reached.ownBlock.toList) w w1 := by
    refine Chg.trans (((Chg.refl _ w).alloc _).alloc _).drew (chg_grown hgrow ?_)
    intro k hk _
    simp [hk]
  have hFr : F ∉ reached.ownBlock.toList := by
    intro hm
    rw [Option.mem_toList] at hm
    exact hF.tag.ne (owned_block ho hm).2 (by decide) rfl
  have hRr : R ∉ reached.ownBlock.toList := by
    intro hm
    rw [Option.mem_toList] at hm
    exact hR.tag.ne (owned_block ho hm).2 (by decide) rfl
  have cg : Chg reached.ownBlock.toList w w1 := by
    refine Chg.trans (((Chg.refl _ w).alloc _).alloc _).drew (chg_grown hgrow ?_)
    intro k hk _
    simp [hk]
  have hF1 := hF.chg cg hFr
  have hR1 := hR.chg cg hRr
  have htk : NoTk w reached.ownBlock.toList := by
    intro s hs arr ha
    rw [Option.mem_toList] at hs
    exact (owned_block ho hs).2.ne ⟨arr, ha⟩ (by decide) rfl
  have hv' := hv.chg cg htk
  have hrun' : Sem.run Ybaz.prog (appendHeld #[27, 27] 27 #[reached, .slice (some ⟨w.heap.size + 1, 0, none⟩) 1 1]) (((w.alloc (.cells (cells6 st v).toArray 37)).alloc (.cells (cells6 st v).toArray 37)).drew) = .ok (.slice (some ⟨g', 0, none⟩) (n + 1) c') w1 := hrun
  simp only [cells6] at hrun'
  clear hrun
  have x28 : w1.cell? ⟨F, 28, none⟩ = some reached := hF1.cell 28
  have y28 := hF1.frozen 28
  have b0 : w1.cell? ⟨w.heap.size, 0, none⟩ = some (.string st) := hbx.cell 0
  have b1 : w1.cell? ⟨w.heap.size, 1, none⟩ = some (.slice none 0 0) := hbx.cell 1
  have b2 : w1.cell? ⟨w.heap.size, 2, none⟩ = some v := hbx.cell 2
  have b3 : w1.cell? ⟨w.heap.size, 3, none⟩ = some (.slice none 0 0) := hbx.cell 3
  have b4 : w1.cell? ⟨w.heap.size, 4, none⟩ = some (.slice none 0 0) := hbx.cell 4
  have b5 : w1.cell? ⟨w.heap.size, 5, none⟩ = some (.slice none 0 0) := hbx.cell 5
  have hFb : w.heap.size ≠ F := by omega
  have hF2 : Blk (w1.setCell ⟨F, 28, none⟩ (.slice (some ⟨g', 0, none⟩) (n + 1) c')) F 73 (fro F R ops free cfgs done vis (.slice (some ⟨g', 0, none⟩) (n + 1) c') charged) := hF1.put 28 _
  have hR2 := hR1.other hne.symm 28 (.slice (some ⟨g', 0, none⟩) (n + 1) c')
  have hgF : g' ≠ F := htag.ne hF1.tag (by decide)
  have hgR : g' ≠ R := htag.ne hR1.tag (by decide)
  have c2 : Chg [F] w1 (w1.setCell ⟨F, 28, none⟩ (.slice (some ⟨g', 0, none⟩) (n + 1) c')) := chg_setCell (a := ⟨F, 28, none⟩) (by simp) _
  have hown2 := owns_chg hown' c2 (by intro k hk; simp [Value.ownBlock] at hk; subst hk; simpa using hgF)
  have hvv := hv'.chg c2 (NoTk.cons hF1.tag (by decide) (NoTk.nil _))
  have HB := hide (bytes43 st v x _ h1 h2 hvv)
  have H := hide (And.intro hF2 (And.intro hR2 (And.intro hown2 (And.intro (hc1.trans (c2.mono (by intro s hs _; simp at hs; subst hs; simp))) (And.intro hgF hgR)))))
  clear hF hR hown' hgrow hF1 hR1 hF2 hR2 hown2 hvv hv' hv ho hc1 cg c2 hbx htag hFr hRr htk
  go_enter Ybaz.func19, Ybaz.ntmps19
  go_wp2
  go_region
  go_wp2_with (go_at_call 43; refine HB.out.mono ?_; rintro e w5 ⟨k, hk, rfl, bb5⟩; have BB5 := hide bb5; clear bb5)
  obtain ⟨m, hm⟩ : ∃ m : Nat, m = k + 136 := ⟨_, rfl⟩
  have k1 : (k : Int) + 136 = (m : Int) := by omega
  have hF5 := H.out.1.below BB5.out H.out.1.lt
  have hR5 := H.out.2.1.below BB5.out H.out.2.1.lt
  have HC := hide (charge42 F R m ops free cfgs done vis (.slice (some ⟨g', 0, none⟩) (n + 1) c') charged left w5 hF5 hR5 hne (by omega) (by omega) (by omega) (by omega) (by omega))
  have HM := hide hm
  clear hF5 hR5 hm
  rw [k1]
  clear k1
  go_wp2_with (go_at_call 42; refine HC.out.mono ?_; rintro e w6 ⟨rfl, a6, b6, d6⟩; have D6 := hide (And.intro a6 (And.intro b6 d6)); clear a6 b6 d6)
  go_end0
  have hm := HM.out
  have c5 : Chg [F, R] _ w5 := Chg.ofBelow BB5.out
  have c6 := c5.trans D6.out.2.2
  refine ⟨_, m, rfl, by omega, D6.out.1, D6.out.2.1, owns_chg H.out.2.2.1 c6 ?_, H.out.2.2.2.1.trans (c6.mono ?_)⟩
  · intro k hk
    simp [Value.ownBlock] at hk
    subst hk
    simp [H.out.2.2.2.2.1, H.out.2.2.2.2.2]
  · intro s hs _
    simp at hs
    rcases hs with rfl | rfl <;> simp
end Go.Proofs.YbulkciemGreatDoor
