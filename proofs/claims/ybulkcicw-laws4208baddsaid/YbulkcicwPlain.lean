import Derived.Test.YbulkcicwFns
import Derived.Deep.OwnRows
import Derived.Deep.LoopGhost
import Derived.Deep.Light
import Derived.Deep.DeepCutAuto
namespace Go.Proofs.Ybulkcicw
open Go.RowKit
set_option linter.unusedVariables false

theorem Yba.info3 : (Yba.prog.info? 3).map (fun i => (i.zero, i.size, i.bytes)) = some (some (.int .i64 0), 1, 8) := by kernel_rfl
theorem Yba.info4 : (Yba.prog.info? 4).map (fun i => (i.zero, i.size, i.bytes)) = some (some (.bool false), 1, 1) := by kernel_rfl

/-- A block of natural numbers as ints. -/
def NB (w : World) (g : Nat) (l : List Nat) : Prop := Blk w g 3 (l.map fun x : Nat => Value.int .i64 x)

def pre (sz : List Nat) (k : Nat) : Nat := (sz.take k).sum

/-- The sizes are laid. -/
def Sized (w wr : World) (n S : Nat) (sz : List Nat) : Prop :=
  Below w.heap.size w wr ∧ NB wr S sz ∧ w.heap.size ≤ S ∧ sz.length = n ∧ 1 ≤ n ∧ n ≤ 1024 ∧ ∀ x ∈ sz, 1 ≤ x ∧ x ≤ 4


theorem NB.cell {w : World} {g : Nat} {l : List Nat} (h : NB w g l) (i : Nat) (hi : i < l.length) : w.cell? ⟨g, i, none⟩ = some (.int .i64 ((l.getD i 0 : Nat) : Int)) := by
  have := Blk.cell h i
  simp [hi] at this
  simpa [hi] using this
theorem NB.put {w : World} {g : Nat} {l : List Nat} (h : NB w g l) (i x : Nat) : NB (w.setCell ⟨g, i, none⟩ (.int .i64 (x : Int))) g (l.set i x) := by
  have := Blk.put h i (.int .i64 (x : Int))
  unfold NB
  rw [List.map_set]
  exact this
theorem NB.made (w : World) (n : Nat) : NB (w.alloc (.cells (madeCells #[.int .i64 0] n) 3)) w.heap.size (List.replicate n 0) := by
  have h := Blk.new w 3 ((List.replicate n 0).map fun x : Nat => Value.int .i64 x)
  unfold NB
  have e : (madeCells #[Value.int .i64 0] n) = ((List.replicate n 0).map fun x : Nat => Value.int .i64 x).toArray := by
    apply Array.toList_inj.1
    rw [toList_madeCells_one]
    simp
  rw [e]
  exact h

/-- While the sizes are being laid. -/
def Sizing (w wr : World) (n S k : Nat) : Prop :=
  Below w.heap.size w wr ∧ w.heap.size ≤ S ∧ ∃ l, NB wr S l ∧ l.length = n ∧ ∀ j, j < k → 1 ≤ l.getD j 0 ∧ l.getD j 0 ≤ 4

theorem sizing_step {w wr : World} {n S k : Nat} {z : Int} (h : Sizing w wr n S k) (hk : k < n) (h0 : 0 ≤ z) : Sizing w (wr.setCell ⟨S, k, none⟩ (.int .i64 (z % 4 + 1))) n S (k + 1) := by
  obtain ⟨hb, hS, l, hl, hn, hj⟩ := h
  have e : z % 4 + 1 = (((z % 4 + 1).toNat : Nat) : Int) := by omega
  rw [e]
  refine ⟨hb.setCell hS _, hS, l.set k (z % 4 + 1).toNat, hl.put k _, by simpa using hn, fun j hjk => ?_⟩
  by_cases hjk' : j = k
  · subst hjk'
    simp [hn, hk]
    omega
  · have := hj j (by omega)
    simpa [List.getElem?_set, Ne.symm hjk'] using this

theorem sizing_done {w wr : World} {n S : Nat} (h : Sizing w wr n S n) (h1 : 1 ≤ n) (h2 : n ≤ 1024) : ∃ sz, Sized w wr n S sz := by
  obtain ⟨hb, hS, l, hl, hn, hj⟩ := h
  refine ⟨l, hb, hl, hS, hn, h1, h2, fun x hx => ?_⟩
  obtain ⟨j, hj', rfl⟩ := List.getElem_of_mem hx
  have := hj j (by omega)
  simpa [hj'] using this


theorem pre_le (sz : List Nat) (h : ∀ x ∈ sz, 1 ≤ x ∧ x ≤ 4) (k : Nat) : pre sz k ≤ 4 * k := by
  unfold pre
  induction sz generalizing k with
  | nil => simp
  | cons a t ih =>
    cases k with
    | zero => simp
    | succ k =>
      have h1 := (h a (by simp)).2
      have h2 := ih (fun x hx => h x (by simp [hx])) k
      simp
      omega
theorem pre_succ (sz : List Nat) (k : Nat) (hk : k < sz.length) : pre sz (k + 1) = pre sz k + sz.getD k 0 := by
  unfold pre
  rw [List.take_succ_eq_append_getElem hk, List.sum_append]
  simp [hk]

/-- While the bases are being laid: the block of the bases behind that of the sizes. -/
def Basing (w wr : World) (n S Bb k : Nat) (sz : List Nat) : Prop :=
  Sized w wr n S sz ∧ S < Bb ∧ ∃ l, NB wr Bb l ∧ l.length = n + 1 ∧ ∀ j, j ≤ k → l.getD j 0 = pre sz j


theorem NB.other {w : World} {g g' : Nat} {l : List Nat} (h : NB w g l) (hne : g ≠ g') (i : Nat) (v : Value) : NB (w.setCell ⟨g', i, none⟩ v) g l := Blk.other h hne i v
theorem NB.alloc {w : World} {g : Nat} {l : List Nat} (h : NB w g l) (o : Obj) : NB (w.alloc o) g l := Blk.alloc h o
theorem NB.drew {w : World} {g : Nat} {l : List Nat} (h : NB w g l) : NB w.drew g l := h
theorem NB.lt {w : World} {g : Nat} {l : List Nat} (h : NB w g l) : g < w.heap.size := Blk.lt h

theorem basing_step {w wr : World} {n S Bb k : Nat} {sz : List Nat} (h : Basing w wr n S Bb k sz) (hk : k < n) :
    Basing w ((wr.setCell ⟨Bb, k + 1, none⟩ (.int .i64 ((pre sz k : Nat) + (sz.getD k 0 : Nat)))).drew) n S Bb (k + 1) sz := by
  obtain ⟨⟨h1, h2, h3, h4, h5, h6, h7⟩, hlt, l, hl, hn, hj⟩ := h
  have e : ((pre sz k : Nat) + (sz.getD k 0 : Nat) : Int) = ((pre sz (k + 1) : Nat) : Int) := by rw [pre_succ sz k (by omega)]; omega
  rw [e]
  refine ⟨⟨(h1.setCell (by show w.heap.size ≤ Bb; omega) _).drew, (h2.other (by omega) _ _).drew, h3, h4, h5, h6, h7⟩, hlt, l.set (k + 1) (pre sz (k + 1)), (hl.put _ _).drew, by simpa using hn, fun j hjk => ?_⟩
  by_cases hjk' : j = k + 1
  · subst hjk'
    simp [hn, hk]
  · have := hj j (by omega)
    simpa [List.getElem?_set, Ne.symm hjk'] using this


theorem basing_start {w wc : World} {n S : Nat} {sz : List Nat} (h : Sized w wc n S sz) : Basing w (wc.alloc (.cells (madeCells #[.int .i64 0] (n + 1)) 3)) n S wc.heap.size 0 sz := by
  obtain ⟨q1, q2, q3⟩ := h
  refine ⟨⟨q1.alloc q1.size _, q2.alloc _, q3⟩, q2.lt, _, NB.made wc (n + 1), by simp, fun j hj => ?_⟩
  obtain rfl : j = 0 := by omega
  simp [pre]

/-- The bases are laid. -/
def Based (w wr : World) (n S Bb : Nat) (sz bs : List Nat) : Prop :=
  Sized w wr n S sz ∧ S < Bb ∧ NB wr Bb bs ∧ bs.length = n + 1 ∧ ∀ j, j ≤ n → bs.getD j 0 = pre sz j
theorem basing_done {w wr : World} {n S Bb : Nat} {sz : List Nat} (h : Basing w wr n S Bb n sz) : ∃ bs, Based w wr n S Bb sz bs := by
  obtain ⟨a, b, l, c, d, e⟩ := h
  exact ⟨l, a, b, c, d, e⟩
theorem Based.alloc {w wr : World} {n S Bb : Nat} {sz bs : List Nat} (h : Based w wr n S Bb sz bs) (o : Obj) : Based w (wr.alloc o) n S Bb sz bs := by
  obtain ⟨⟨h1, h2, h3⟩, hlt, hl, r⟩ := h
  exact ⟨⟨h1.alloc h1.size _, h2.alloc _, h3⟩, hlt, hl.alloc _, r⟩
theorem Based.put {w wr : World} {n S Bb : Nat} {sz bs : List Nat} (h : Based w wr n S Bb sz bs) {g : Nat} (hg : Bb < g) (i : Nat) (v : Value) : Based w (wr.setCell ⟨g, i, none⟩ v) n S Bb sz bs := by
  obtain ⟨⟨h1, h2, h3, h4⟩, hlt, hl, r⟩ := h
  exact ⟨⟨h1.setCell (by show w.heap.size ≤ g; omega) _, h2.other (by omega) _ _, h3, h4⟩, hlt, hl.other (by omega) _ _, r⟩
theorem Based.chg {w wr wx : World} {n S Bb : Nat} {sz bs : List Nat} {T : List Nat} (h : Based w wr n S Bb sz bs) (hc : Chg T wr wx) (hT : ∀ t ∈ T, Bb < t) : Based w wx n S Bb sz bs := by
  obtain ⟨⟨h1, h2, h3, h4⟩, hlt, hl, r⟩ := h
  exact ⟨⟨h1.trans (hc.below (fun t ht => by have := hT t ht; omega) h1.size), Blk.chg h2 hc (fun hm => by have := hT _ hm; omega), h3, h4⟩, hlt, Blk.chg hl hc (fun hm => by have := hT _ hm; omega), r⟩

def IB (w : World) (g : Nat) (l : List Int) : Prop := Blk w g 3 (l.map (Value.int .i64))
def BB (w : World) (g : Nat) (l : List Bool) : Prop := Blk w g 4 (l.map Value.bool)
theorem IB.cell {w : World} {g : Nat} {l : List Int} (h : IB w g l) (i : Nat) (hi : i < l.length) : w.cell? ⟨g, i, none⟩ = some (.int .i64 (l.getD i 0)) := by
  have := Blk.cell h i
  simp [hi] at this
  simpa [hi] using this
theorem BB.cell {w : World} {g : Nat} {l : List Bool} (h : BB w g l) (i : Nat) (hi : i < l.length) : w.cell? ⟨g, i, none⟩ = some (.bool (l.getD i false)) := by
  have := Blk.cell h i
  simp [hi] at this
  simpa [hi] using this
theorem IB.put {w : World} {g : Nat} {l : List Int} (h : IB w g l) (i : Nat) (x : Int) : IB (w.setCell ⟨g, i, none⟩ (.int .i64 x)) g (l.set i x) := by
  have := Blk.put h i (.int .i64 x)
  unfold IB
  rw [List.map_set]
  exact this
theorem BB.put {w : World} {g : Nat} {l : List Bool} (h : BB w g l) (i : Nat) (x : Bool) : BB (w.setCell ⟨g, i, none⟩ (.bool x)) g (l.set i x) := by
  have := Blk.put h i (.bool x)
  unfold BB
  rw [List.map_set]
  exact this
theorem IB.made (w : World) (n : Nat) : IB (w.alloc (.cells (madeCells #[.int .i64 0] n) 3)) w.heap.size (List.replicate n 0) := by
  have h := Blk.new w 3 ((List.replicate n 0).map (Value.int .i64))
  unfold IB
  have e : (madeCells #[Value.int .i64 0] n) = ((List.replicate n 0).map (Value.int .i64)).toArray := by
    apply Array.toList_inj.1
    rw [toList_madeCells_one]
    simp
  rw [e]
  exact h
theorem BB.made (w : World) (n : Nat) : BB (w.alloc (.cells (madeCells #[.bool false] n) 4)) w.heap.size (List.replicate n false) := by
  have h := Blk.new w 4 ((List.replicate n false).map Value.bool)
  unfold BB
  have e : (madeCells #[Value.bool false] n) = ((List.replicate n false).map Value.bool).toArray := by
    apply Array.toList_inj.1
    rw [toList_madeCells_one]
    simp
  rw [e]
  exact h

/-- While listed and mark are being laid. -/
def Marking (w wr : World) (n S Bb Lb Mb : Nat) (sz bs : List Nat) (k : Nat) (f : Nat → Int) (round : Int) : Prop :=
  Based w wr n S Bb sz bs ∧ Bb < Lb ∧ Lb < Mb ∧ ∃ ls mk, IB wr Lb ls ∧ BB wr Mb mk ∧ ls.length = pre sz n ∧ mk.length = pre sz n ∧ ∀ j, j < k → ls.getD j 0 = f j ∧ mk.getD j false = (f j == round)

theorem marking_start {w wc : World} {n S Bb : Nat} {sz bs : List Nat} {f : Nat → Int} {round : Int} (h : Based w wc n S Bb sz bs) :
    Marking w ((wc.alloc (.cells (madeCells #[.int .i64 0] (pre sz n)) 3)).alloc (.cells (madeCells #[.bool false] (pre sz n)) 4)) n S Bb wc.heap.size (wc.heap.size + 1) sz bs 0 f round := by
  refine ⟨(h.alloc _).alloc _, h.2.2.1.lt, by omega, List.replicate (pre sz n) 0, List.replicate (pre sz n) false, Blk.alloc (IB.made wc _) _, ?_, by simp, by simp, fun j hj => by omega⟩
  have := BB.made (wc.alloc (.cells (madeCells #[.int .i64 0] (pre sz n)) 3)) (pre sz n)
  simpa using this

theorem marking_step {w wr : World} {n S Bb Lb Mb k : Nat} {sz bs : List Nat} {f : Nat → Int} {round : Int} (h : Marking w wr n S Bb Lb Mb sz bs k f round) (hk : k < pre sz n) :
    Marking w ((wr.setCell ⟨Lb, k, none⟩ (.int .i64 (f k))).setCell ⟨Mb, k, none⟩ (.bool (f k == round))) n S Bb Lb Mb sz bs (k + 1) f round := by
  obtain ⟨h1, h2, h3, ls, mk, h4, h5, h6, h7, h8⟩ := h
  refine ⟨(h1.put h2 _ _).put (by omega) _ _, h2, h3, ls.set k (f k), mk.set k (f k == round), Blk.other (h4.put k _) (by omega) _ _, (BB.put (Blk.other h5 (by omega) _ _) k _), by simpa using h6, by simpa using h7, fun j hj => ?_⟩
  by_cases hjk : j = k
  · subst hjk
    simp [h6, h7, hk]
  · have := h8 j (by omega)
    simpa [List.getElem?_set, Ne.symm hjk] using this


theorem Rd.below {k : IntKind} {w w' : World} {a : Option Addr} {len : Nat} {zs : List Int} (h : Rd k w a len zs) (hb : Below w.heap.size w w') : Rd k w' a len zs := by
  rcases h with h | ⟨b, off, rfl, hb', hc⟩
  · exact .inl h
  · exact .inr ⟨b, off, rfl, Nat.lt_of_lt_of_le hb' hb.size, fun i hi => by rw [hb.cell (p := ⟨b, off + i, none⟩) hb']; exact hc i hi⟩


def flat (items : List (Nat × Nat)) : List Value := items.flatMap fun x => [.int .i64 (x.1 : Int), .int .i64 (x.2 : Int)]
theorem flat_snoc (items : List (Nat × Nat)) (p d : Nat) : flat (items ++ [(p, d)]) = flat items ++ [.int .i64 (p : Int), .int .i64 (d : Int)] := by simp [flat]

/-- What lies in memory while the steps are gone through. -/
structure Mem (w wx : World) (n S Bb Lb G C tot : Nat) (sz bs : List Nat) (round : Int) (ls : List Int) (mk : List Bool) (gi wi : List (Nat × Nat)) (gv wv : Value) : Prop where
  based : Based w wx n S Bb sz bs
  o1 : Bb < Lb
  o3 : Lb + 1 < G
  o4 : G < C
  o5 : C < wx.heap.size
  hl : IB wx Lb ls
  hm : BB wx (Lb + 1) mk
  hg : Blk wx G 36 [.slice none 0 0, .map none, .slice none 0 0, .slice none 0 0, .slice (some ⟨Bb, 0, none⟩) (n + 1) (n + 1), .map none, .slice none 0 0]
  hc : Blk wx C 39 [.pointer (some ⟨G, 0, none⟩), .int .i64 round, .slice (some ⟨Lb, 0, none⟩) tot tot, .slice none 0 0, .slice none 0 0]
  got : wx.ownsRow (C + 1) 43 2 gv gi.length (flat gi)
  want : wx.ownsRow (C + 1) 43 2 wv wi.length (flat wi)
  apart : ∀ g, gv.ownBlock = some g → wv.ownBlock ≠ some g

section
variable {w wx wy : World} {n S Bb Lb G C tot : Nat} {sz bs : List Nat} {round : Int} {ls : List Int} {mk : List Bool} {gi wi : List (Nat × Nat)} {gv wv : Value}

theorem Mem.below (h : Mem w wx n S Bb Lb G C tot sz bs round ls mk gi wi gv wv) (hb : Below wx.heap.size wx wy) : Mem w wy n S Bb Lb G C tot sz bs round ls mk gi wi gv wv := by
  have c : Chg [] wx wy := Chg.ofBelow hb
  exact ⟨h.based.chg c (by simp), h.o1, h.o3, h.o4, Nat.lt_of_lt_of_le h.o5 hb.size, Blk.chg h.hl c (by simp), Blk.chg h.hm c (by simp), h.hg.chg c (by simp), h.hc.chg c (by simp), owns_chg h.got c (by simp), owns_chg h.want c (by simp), h.apart⟩

theorem Mem.added (h : Mem w wx n S Bb Lb G C tot sz bs round ls mk gi wi gv wv) {g cap i p d : Nat}
    (ho : wy.ownsRow (C + 1) 43 2 (.slice (some ⟨g, 0, none⟩) (gi.length + 1) cap) (gi.length + 1) (flat gi ++ [.int .i64 (p : Int), .int .i64 (d : Int)]))
    (hc : Chg (Lb :: gv.ownBlock.toList) wx wy) (hl : Blk wy Lb 3 ((ls.set i round).map (.int .i64))) (hat : gv.ownBlock = some g ∨ wx.heap.size ≤ g) :
    Mem w wy n S Bb Lb G C tot sz bs round (ls.set i round) mk (gi ++ [(p, d)]) wi (.slice (some ⟨g, 0, none⟩) (gi.length + 1) cap) wv := by
  have o1 := h.o1
  have o3 := h.o3
  have o4 := h.o4
  have o5 := h.o5
  have hT : ∀ t ∈ Lb :: gv.ownBlock.toList, t = Lb ∨ C + 1 ≤ t := by
    intro t ht
    simp at ht
    rcases ht with rfl | ht
    · exact .inl rfl
    · exact .inr (h.got.lt t ht).1
  refine ⟨h.based.chg hc (fun t ht => by rcases hT t ht with h | h <;> omega), o1, o3, o4, Nat.lt_of_lt_of_le o5 hc.size, hl, Blk.chg h.hm hc (fun hm => by rcases hT _ hm with h | h <;> omega), h.hg.chg hc (fun hm => by rcases hT _ hm with h | h <;> omega),
    h.hc.chg hc (fun hm => by rcases hT _ hm with h | h <;> omega), by rw [flat_snoc]; simpa using ho, owns_chg h.want hc (fun k hk hm => ?_), fun g' hg' => ?_⟩
  · simp at hm
    rcases hm with rfl | hm
    · have := (h.want.lt _ hk).1; omega
    · exact h.apart k hm hk
  · simp [Value.ownBlock] at hg'
    subst hg'
    rcases hat with ha | ha
    · exact h.apart _ ha
    · intro e
      have := (h.want.lt _ e).2
      omega

theorem Mem.marked (h : Mem w wx n S Bb Lb G C tot sz bs round ls mk gi wi gv wv) (i : Nat) : Mem w (wx.setCell ⟨Lb + 1, i, none⟩ (.bool true)) n S Bb Lb G C tot sz bs round ls (mk.set i true) gi wi gv wv := by
  have o1 := h.o1
  have o3 := h.o3
  have o4 := h.o4
  have o5 := h.o5
  refine ⟨h.based.put (by omega) _ _, o1, o3, o4, by simpa using o5, Blk.other h.hl (by omega) _ _, h.hm.put _ _, h.hg.other (by omega) _ _, h.hc.other (by omega) _ _, ownsRow_setCell_below h.got (by show Lb + 1 < C + 1; omega) _, ownsRow_setCell_below h.want (by show Lb + 1 < C + 1; omega) _, h.apart⟩

theorem Mem.wanted (h : Mem w wx n S Bb Lb G C tot sz bs round ls mk gi wi gv wv) {g cap p d : Nat}
    (ho : wy.ownsRow (C + 1) 43 2 (.slice (some ⟨g, 0, none⟩) (wi.length + 1) cap) (wi.length + 1) (flat wi ++ [.int .i64 (p : Int), .int .i64 (d : Int)]))
    (hgr : wx.grownBy wy wv.ownBlock) (hat : wv.ownBlock = some g ∨ g = wx.heap.size) :
    Mem w wy n S Bb Lb G C tot sz bs round ls mk gi (wi ++ [(p, d)]) gv (.slice (some ⟨g, 0, none⟩) (wi.length + 1) cap) := by
  have o1 := h.o1
  have o3 := h.o3
  have o4 := h.o4
  have o5 := h.o5
  have hc : Chg wv.ownBlock.toList wx wy := chg_grown hgr (fun k hk _ => by simp [hk])
  have hT : ∀ t ∈ wv.ownBlock.toList, C + 1 ≤ t := by
    intro t ht
    simp at ht
    exact (h.want.lt t ht).1
  refine ⟨h.based.chg hc (fun t ht => by have := hT t ht; omega), o1, o3, o4, Nat.lt_of_lt_of_le o5 hc.size, Blk.chg h.hl hc (fun hm => by have := hT _ hm; omega), Blk.chg h.hm hc (fun hm => by have := hT _ hm; omega), h.hg.chg hc (fun hm => by have := hT _ hm; omega),
    h.hc.chg hc (fun hm => by have := hT _ hm; omega), owns_chg h.got hc (fun k hk hm => ?_), by rw [flat_snoc]; simpa using ho, fun g' hg' => ?_⟩
  · simp at hm
    exact h.apart k hk hm
  · simp only [Value.ownBlock, ne_eq, Option.some.injEq]
    intro e
    subst e
    rcases hat with ha | ha
    · exact h.apart _ hg' ha
    · have := (h.got.lt _ hg').2
      omega
end

/-- The marks say which items are listed. -/
def Told (tot : Nat) (f : Nat → Int) (round : Int) (ls : List Int) (mk : List Bool) : Prop :=
  ls.length = tot ∧ mk.length = tot ∧ ∀ j, j < tot → (mk.getD j false = true → ls.getD j 0 = round) ∧ (mk.getD j false = false → ls.getD j 0 = f j ∧ f j ≠ round)

theorem told_set {tot : Nat} {f : Nat → Int} {round : Int} {ls : List Int} {mk : List Bool} (h : Told tot f round ls mk) (i : Nat) (hi : i < tot) : Told tot f round (ls.set i round) (mk.set i true) := by
  obtain ⟨h1, h2, h3⟩ := h
  refine ⟨by simpa using h1, by simpa using h2, fun j hj => ?_⟩
  by_cases e : j = i
  · subst e
    simp [h1, h2, hj]
  · have := h3 j hj
    simpa [List.getElem?_set, Ne.symm e] using this

theorem run_start {w wr : World} {n S Bb Lb : Nat} {sz bs : List Nat} {f : Nat → Int} {round : Int} (h : Marking w wr n S Bb Lb (Lb + 1) sz bs (pre sz n) f round) :
    ∃ ls mk, Told (pre sz n) f round ls mk ∧ Mem w ((wr.alloc (.cells #[.slice none 0 0, .map none, .slice none 0 0, .slice none 0 0, .slice (some ⟨Bb, 0, none⟩) (n + 1) (n + 1), .map none, .slice none 0 0] 36)).alloc
      (.cells #[.pointer (some ⟨wr.heap.size, 0, none⟩), .int .i64 round, .slice (some ⟨Lb, 0, none⟩) (pre sz n) (pre sz n), .slice none 0 0, .slice none 0 0] 39)) n S Bb Lb wr.heap.size (wr.heap.size + 1) (pre sz n) sz bs round ls mk [] [] (.slice none 0 0) (.slice none 0 0) := by
  obtain ⟨h1, h2, h3, ls, mk, h4, h5, h6, h7, h8⟩ := h
  refine ⟨ls, mk, ⟨h6, h7, fun j hj => ?_⟩, ?_⟩
  · obtain ⟨e1, e2⟩ := h8 j hj
    rw [e1, e2]
    refine ⟨fun h => by simpa using h, fun h => ⟨rfl, by simpa using h⟩⟩
  · refine ⟨(h1.alloc _).alloc _, h2, h5.lt, by omega, by simp, (Blk.alloc (Blk.alloc h4 _) _), (Blk.alloc (Blk.alloc h5 _) _), Blk.alloc (Blk.new wr 36 _) _, ?_, World.ownsRow_nil _ _ _ _, World.ownsRow_nil _ _ _ _, by simp [Value.ownBlock]⟩
    have := Blk.new (wr.alloc (.cells #[.slice none 0 0, .map none, .slice none 0 0, .slice none 0 0, .slice (some ⟨Bb, 0, none⟩) (n + 1) (n + 1), .map none, .slice none 0 0] 36)) 39 [.pointer (some ⟨wr.heap.size, 0, none⟩), .int .i64 round, .slice (some ⟨Lb, 0, none⟩) (pre sz n) (pre sz n), .slice none 0 0, .slice none 0 0]
    simpa using this


theorem and255 (s : Int) (h0 : 0 ≤ s) (h1 : s ≤ 65535) : 0 ≤ bits .and .u16 s 255 ∧ bits .and .u16 s 255 ≤ 255 := by
  obtain ⟨a, rfl⟩ := Int.eq_ofNat_of_zero_le h0
  have hx : a &&& 255 ≤ 255 := Nat.and_le_right
  have e : bits .and .u16 (a : Int) 255 = ((a &&& 255 : Nat) : Int) := by
    have h1 : (BitVec.ofInt 16 (a : Int)).toNat = a := by
      rw [BitVec.ofInt_natCast, BitVec.toNat_ofNat]; exact Nat.mod_eq_of_lt (by omega)
    have h2 : (BitVec.ofInt 16 (255 : Int)).toNat = 255 := by decide
    show IntKind.u16.wrap ((BitVec.ofInt 16 (a : Int) &&& BitVec.ofInt 16 (255 : Int)).toNat : Int) = _
    rw [BitVec.toNat_and, h1, h2]
    have hw : ∀ n : Int, IntKind.u16.wrap n = n % 65536 := fun n => by simp [IntKind.wrap, IntKind.bits, IntKind.signed]
    rw [hw]
    omega
  rw [e]
  omega

theorem pre_mono (sz : List Nat) (a b : Nat) (h : a ≤ b) : pre sz a ≤ pre sz b := by
  unfold pre
  induction sz generalizing a b with
  | nil => simp
  | cons x t ih =>
    cases a with
    | zero => simp
    | succ a =>
      cases b with
      | zero => omega
      | succ b =>
        have := ih a b (by omega)
        simp
        omega
theorem pre_lt (sz : List Nat) (p d n : Nat) (h : ∀ x ∈ sz, 1 ≤ x ∧ x ≤ 4) (hp : p < n) (hn : p < sz.length) (hd : d < sz.getD p 0) : pre sz p + d < pre sz n := by
  have h1 := pre_succ sz p hn
  have h2 := pre_mono sz (p + 1) n hp
  omega

theorem owns_form {w : World} {base : Nat} {e : TypeId} {v : Value} {l : List (Nat × Nat)} (h : w.ownsRow base e 2 v l.length (flat l)) :
    ∃ a c, v = .slice a l.length c ∧ (∀ i, i < l.length → ∃ g, a = some ⟨g, 0, none⟩ ∧ w.cell? ⟨g, i * 2, none⟩ = some (.int .i64 ((l.getD i (0, 0)).1 : Nat)) ∧ w.cell? ⟨g, i * 2 + 1, none⟩ = some (.int .i64 ((l.getD i (0, 0)).2 : Nat))) := by
  have hfl : ∀ (l : List (Nat × Nat)) i, i < l.length → (flat l)[i * 2]? = some (.int .i64 ((l.getD i (0, 0)).1 : Nat)) ∧ (flat l)[i * 2 + 1]? = some (.int .i64 ((l.getD i (0, 0)).2 : Nat)) := by
    intro l
    induction l with
    | nil => intro i hi; simp at hi
    | cons x t ih =>
      intro i hi
      cases i with
      | zero => simp [flat]
      | succ i =>
        have := ih i (by simpa using hi)
        have e1 : (i + 1) * 2 = i * 2 + 2 := by omega
        rw [e1]
        simpa [flat] using this
  rcases h.2 with ⟨rfl, h0⟩ | ⟨g, cap, cur, rfl, hb, hg, r⟩
  · refine ⟨none, 0, by rw [h0], fun i hi => by omega⟩
  · refine ⟨some ⟨g, 0, none⟩, cap, rfl, fun i hi => ⟨g, rfl, ?_, ?_⟩⟩
    · rw [h.cellAt (i * 2) (by omega)]
      exact (hfl l i hi).1
    · rw [h.cellAt (i * 2 + 1) (by omega)]
      exact (hfl l i hi).2
theorem hide {p : Prop} (h : p) : Hid p := h

end Go.Proofs.Ybulkcicw
