import Derived.Test.YbulkcicwDoorIter
import Derived.Test.YbulkcicwDoorMem
import Derived.Deep.OwnRows
import Derived.Deep.LoopGhost
import Derived.Deep.Light
import Derived.Deep.DeepCutAuto
import Derived.Deep.AppendLies
import Derived.Deep.QuietTactic
import Derived.BigQuiet
import Derived.Laws.CopyOwn
import Derived.WalkLawsBesides
namespace Go.Proofs.YbulkcicwDoor
open Go.RowKit
set_option linter.unusedVariables false

theorem hide {p : Prop} (h : p) : Hid p := h
/-- The bodies of the loops of a function's text, outer ones first. -/
def loopsIn : Code → List Code
  | .loop c => c :: loopsIn c
  | .seq a b => loopsIn a ++ loopsIn b
  | .block _ c => loopsIn c
  | .scope c => loopsIn c
  | .cond _ a b => loopsIn a ++ loopsIn b
  | _ => []
/-- The number of a text's first region. -/
def headReg : Code → Nat
  | .region id _ _ => id
  | .seq a _ => headReg a
  | _ => 1000000
/-- What follows from region k on, in a text that is a chain of statements. -/
def tailAt (k : Nat) : Code → Code
  | .seq a b => bif headReg b == k then b else tailAt k b
  | c => c

/-- A slice of integers that can be read: empty, or a row of cells. -/
def Rd (k : IntKind) (w : World) (a : Option Addr) (len : Nat) (zs : List Int) : Prop :=
  len = 0 ∨ ∃ b off, a = some ⟨b, off, none⟩ ∧ b < w.heap.size ∧ ∀ i, i < len → w.cell? ⟨b, off + i, none⟩ = some (.int k (zs.getD i 0))
theorem Rd.below {k : IntKind} {w w' : World} {a : Option Addr} {len : Nat} {zs : List Int} (h : Rd k w a len zs) (hb : Below w.heap.size w w') : Rd k w' a len zs := by
  rcases h with h | ⟨b, off, rfl, hb', hc⟩
  · exact .inl h
  · exact .inr ⟨b, off, rfl, Nat.lt_of_lt_of_le hb' hb.size, fun i hi => by rw [hb.cell (p := ⟨b, off + i, none⟩) hb']; exact hc i hi⟩

/-- A block of integers. -/
def KB (k : IntKind) (e : TypeId) (w : World) (g : Nat) (l : List Int) : Prop := Blk w g e (l.map (Value.int k))
section
variable {k : IntKind} {e : TypeId} {w w' : World} {g g' : Nat} {l : List Int}
theorem KB.cell (h : KB k e w g l) (i : Nat) (hi : i < l.length) : w.cell? ⟨g, i, none⟩ = some (.int k (l.getD i 0)) := by
  have := Blk.cell h i
  simp [hi] at this
  simpa [hi] using this
theorem KB.put (h : KB k e w g l) (i : Nat) (x : Int) : KB k e (w.setCell ⟨g, i, none⟩ (.int k x)) g (l.set i x) := by
  have := Blk.put h i (.int k x)
  unfold KB
  rw [List.map_set]
  exact this
theorem KB.made (k : IntKind) (e : TypeId) (w : World) (n : Nat) : KB k e (w.alloc (.cells (madeCells #[.int k 0] n) e)) w.heap.size (List.replicate n 0) := by
  have h := Blk.new w e ((List.replicate n 0).map (Value.int k))
  unfold KB
  have e : (madeCells #[Value.int k 0] n) = ((List.replicate n 0).map (Value.int k)).toArray := by
    apply Array.toList_inj.1
    rw [toList_madeCells_one]
    simp
  rw [e]
  exact h
end

/-- The builtin copy behind a name that the walk does not open. -/
def copyHeld (ts : Array TypeId) (ty : TypeId) (args : Array Value) : Sem Value := Builtin.copy_ ts ty args
theorem copy_held (ts : Array TypeId) (ty : TypeId) (args : Array Value) : Builtin.copy_ ts ty args = copyHeld ts ty args := rfl

theorem Ybad.info28 : (Ybad.prog.info? 28).map (fun i => (i.zero, i.size, i.bytes)) = some (some (.int .u64 0), 1, 8) := by kernel_rfl

/-- 'copy(t, ws)', t just made: the numbers of ws. -/
theorem copy_any (a0 : Option Addr) (len0 cap0 : Nat) (z0 : List Int) (w : World) (h0 : Rd .u64 w a0 len0 z0) (hl : len0 ≤ z0.length) :
    ∃ W2, (∀ ty, Sem.run Ybad.prog (copyHeld #[24, 22] ty #[.slice (some ⟨w.heap.size, 0, none⟩) len0 len0, .slice a0 len0 cap0]) (w.alloc (.cells (madeCells #[.int .u64 0] len0) 28)) = .ok (.int .i64 len0) W2) ∧
      KB .u64 28 W2 w.heap.size (z0.take len0) ∧ Below w.heap.size w W2 ∧ W2.heap.size = w.heap.size + 1 := by
  have hz : (Ybad.prog.info? 28).map (·.size) = some 1 := by kernel_rfl
  have hk := KB.made .u64 28 w len0
  rcases h0 with rfl | ⟨b, off, rfl, hb, hc⟩
  · refine ⟨_, fun ty => run_copy_none _ 24 22 ty 28 _ _ _ _ _ _ Ybad.underlying24 hz (by simp), ?_, (Below.refl _ _).alloc (Nat.le_refl _) _, by simp⟩
    simpa using hk
  · have hcs : ((z0.take len0).map (Value.int .u64)).length = Nat.min len0 len0 := by simp; omega
    have hs : ∀ j v, ((z0.take len0).map (Value.int .u64))[j]? = some v → (w.alloc (.cells (madeCells #[.int .u64 0] len0) 28)).cell? ((⟨b, off, none⟩ : Addr).add j) = some v := by
      intro j v hj
      have hjl : j < len0 := by
        have := (List.getElem?_eq_some_iff.1 hj).1
        simp at this
        omega
      rw [Addr.add_lit, World.cell?_alloc_past _ _ _ hb, hc j hjl]
      simpa [hjl, show j < z0.length by omega] using hj
    have hfit : 0 + ((z0.take len0).map (Value.int .u64)).length ≤ ((List.replicate len0 (0 : Int)).map (Value.int .u64)).toArray.size := by simp; omega
    have hr := fun ty => run_copy_row (P := Ybad.prog) (w.alloc (.cells (madeCells #[.int .u64 0] len0) 28)) 24 22 ty 28 w.heap.size 0 len0 len0 ⟨b, off, none⟩ len0 cap0 _ 28 ((z0.take len0).map (Value.int .u64)) Ybad.underlying24 hz hk hcs hs hfit (ints_oneCell _ _)
    have e : goInt ((z0.take len0).map (Value.int .u64)).length = .int .i64 len0 := by rw [hcs]; simp [goInt]
    rw [e] at hr
    refine ⟨_, hr, ?_, ?_, ?_⟩
    · unfold KB Blk
      rw [setRow_heap _ _ _ _ 28 _ hk]
      congr 3
      simp
      omega
    · have h1 : Below w.heap.size w (w.alloc (.cells (madeCells #[.int .u64 0] len0) 28)) := (Below.refl _ _).alloc (Nat.le_refl _) _
      exact below_setRow h1 (Nat.le_refl _) _
    · simp

end Go.Proofs.YbulkcicwDoor
