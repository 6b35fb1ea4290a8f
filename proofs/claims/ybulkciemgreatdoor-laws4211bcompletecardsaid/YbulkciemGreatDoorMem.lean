import Derived.WalkKit
import Derived.Deep.OwnRows
import Derived.Deep.LoopGhost
import Derived.Deep.Light
import Derived.Deep.DeepCutAuto
import Derived.Deep.AppendLies
import Derived.Deep.QuietTactic
import Derived.BigQuiet
import Derived.WalkLawsBesides
import Derived.WalkSmall
import Derived.Below
import Derived.Laws.OwnMore
import Derived.Maps.AppendAt
namespace Go.Proofs.YbulkciemGreatDoor
open Go.RowKit
set_option linter.unusedVariables false

/-- Block number g holds just these cells, none of them frozen. -/
def Blk (w : World) (g : Nat) (e : TypeId) (cs : List Value) : Prop := w.heap[g]? = some (.cells cs.toArray e (0, 0))

section
variable {w w' : World} {g g' : Nat} {e : TypeId} {cs : List Value}

theorem Blk.cell (h : Blk w g e cs) (i : Nat) : w.cell? ⟨g, i, none⟩ = cs[i]? := by
  rw [cell_of_row w g i _ e (0, 0) h]; simp
theorem Blk.frozen (h : Blk w g e cs) (i : Nat) : w.frozen? ⟨g, i, none⟩ = false := frozen_of_row w g i _ e h
theorem Blk.lt (h : Blk w g e cs) : g < w.heap.size := (Array.getElem?_eq_some_iff.1 h).1
theorem Blk.put (h : Blk w g e cs) (i : Nat) (v : Value) : Blk (w.setCell ⟨g, i, none⟩ v) g e (cs.set i v) := by
  have := heap_setCell_same w g i _ e v h
  unfold Blk
  rw [this]
  simp
theorem Blk.other (h : Blk w g e cs) (hne : g ≠ g') (i : Nat) (v : Value) : Blk (w.setCell ⟨g', i, none⟩ v) g e cs := by
  unfold Blk
  rw [heap_setCell_other w ⟨g', i, none⟩ g v hne]
  exact h
theorem Blk.alloc (h : Blk w g e cs) (o : Obj) : Blk (w.alloc o) g e cs := by
  unfold Blk
  rw [Below.heap_alloc w o g h.lt]
  exact h
theorem Blk.new (w : World) (e : TypeId) (cs : List Value) : Blk (w.alloc (.cells cs.toArray e)) w.heap.size e cs := heap_alloc_new w _
theorem Blk.drewN (h : Blk w g e cs) (n : Nat) : Blk (w.drewN n) g e cs := h
theorem Blk.drew (h : Blk w g e cs) : Blk w.drew g e cs := h
theorem Blk.below {B : Nat} (h : Blk w g e cs) (hb : Below B w w') (hg : g < B) : Blk w' g e cs := by
  unfold Blk
  rw [hb.block g hg]
  exact h
theorem Blk.grown {row : Option Nat} (h : Blk w g e cs) (hg : w.grownBy w' row) (hne : some g ≠ row) : Blk w' g e cs := by
  unfold Blk
  rw [hg.block g h.lt hne]
  exact h
/-- A row that is known whole is owned. -/
theorem Blk.owns (h : Blk w g e cs) {base n size : Nat} (hb : base ≤ g) (hn : n ≤ maxLen) (hs : cs.length = n * size) : w.ownsRow base e size (.slice (some ⟨g, 0, none⟩) n n) n cs :=
  ⟨hs, .inr ⟨g, n, cs.toArray, rfl, hb, h, Nat.le_refl _, hn, by simpa using hs, by rw [← hs]; exact List.take_length⟩⟩
theorem Blk.of_owns {base n size : Nat} (h : w.ownsRow base e size (.slice (some ⟨g, 0, none⟩) n n) n cs) : Blk w g e cs := by
  rcases h.2 with ⟨h', _⟩ | ⟨g', cap, cur, h', _, hg, _, _, hs, ht⟩
  · cases h'
  · simp only [Value.slice.injEq, Option.some.injEq, Addr.mk.injEq, and_true, true_and] at h'
    obtain ⟨rfl, rfl⟩ := h'
    unfold Blk
    rw [hg]
    have : cur.toList = cs := by rw [← ht, List.take_of_length_le (by simp [hs])]
    rw [← this]
end

/-- All blocks that lay in w, but for those listed, are as they were. -/
structure Chg (S : List Nat) (w w' : World) : Prop where
  os : w'.os = w.os
  tape : w'.tape = w.tape
  output : w'.output = w.output
  size : w.heap.size ≤ w'.heap.size
  block : ∀ k, k < w.heap.size → k ∉ S → w'.heap[k]? = w.heap[k]?

section
variable {S : List Nat} {w w' w'' : World}
theorem Chg.refl (S : List Nat) (w : World) : Chg S w w := ⟨rfl, rfl, rfl, Nat.le_refl _, fun _ _ _ => rfl⟩
theorem Chg.trans (h : Chg S w w') (k : Chg S w' w'') : Chg S w w'' :=
  ⟨k.os.trans h.os, k.tape.trans h.tape, k.output.trans h.output, Nat.le_trans h.size k.size, fun i hi hn => (k.block i (Nat.lt_of_lt_of_le hi h.size) hn).trans (h.block i hi hn)⟩
theorem Chg.ofBelow (h : Below w.heap.size w w') : Chg S w w' := ⟨h.os, h.tape, h.output, h.size, fun k hk _ => h.block k hk⟩
theorem Chg.below {B : Nat} (h : Chg S w w') (hS : ∀ s ∈ S, B ≤ s) (hB : B ≤ w.heap.size) : Below B w w' :=
  ⟨h.os, h.tape, h.output, h.size, fun k hk => h.block k (Nat.lt_of_lt_of_le hk hB) (fun hm => by have := hS k hm; omega)⟩
theorem Blk.chg {g : Nat} {e : TypeId} {cs : List Value} (hb : Blk w g e cs) (h : Chg S w w') (hg : g ∉ S) : Blk w' g e cs := by
  unfold Blk
  rw [h.block g hb.lt hg]
  exact hb
theorem owns_chg {base n size : Nat} {e : TypeId} {v : Value} {xs : List Value} (ho : w.ownsRow base e size v n xs) (h : Chg S w w') (hg : ∀ k, v.ownBlock = some k → k ∉ S) : w'.ownsRow base e size v n xs := by
  refine ⟨ho.1, ?_⟩
  rcases ho.2 with hn | ⟨g, cap, cur, rfl, hb, hgg, rest⟩
  · exact .inl hn
  · refine .inr ⟨g, cap, cur, rfl, hb, ?_, rest⟩
    rw [h.block g (Array.getElem?_eq_some_iff.1 hgg).1 (hg g rfl)]
    exact hgg
theorem chg_setCell {a : Addr} (ha : a.block ∈ S) (v : Value) : Chg S w (w.setCell a v) :=
  ⟨rfl, rfl, rfl, by simp, fun k _ hn => heap_setCell_other w a k v (fun e => hn (e ▸ ha))⟩
theorem chg_grown {row : Option Nat} (h : w.grownBy w' row) (hr : ∀ k, row = some k → k < w.heap.size → k ∈ S) : Chg S w w' :=
  ⟨h.os, h.tape, h.output, h.size, fun k hk hn => h.block k hk (fun e => hn (hr k e.symm hk))⟩
end

theorem hide {p : Prop} (h : p) : Hid p := h
/-- The bodies of the loops of a function's text, outer ones first. -/
def loopsIn : Code → List Code
  | .loop c => c :: loopsIn c
  | .seq a b => loopsIn a ++ loopsIn b
  | .block _ c => loopsIn c
  | .scope c => loopsIn c
  | .cond _ a b => loopsIn a ++ loopsIn b
  | _ => []
/-- The number of a text's first region. -/
def headReg : Code → Nat
  | .region id _ _ => id
  | .seq a _ => headReg a
  | _ => 1000000
/-- What follows from region k on, in a text that is a chain of statements. -/
def tailAt (k : Nat) : Code → Code
  | .seq a b => bif headReg b == k then b else tailAt k b
  | c => c

end Go.Proofs.YbulkciemGreatDoor
