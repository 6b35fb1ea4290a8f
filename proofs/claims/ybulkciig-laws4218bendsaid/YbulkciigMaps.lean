import Derived.Test.YbulkciigLocks
import Derived.Test.YbulkciigMem
import Derived.Carry
import Derived.Maps.OwnSet
namespace Go.Proofs.Ybulkciig
open Go.RowKit
set_option linter.unusedVariables false

abbrev Pairs := List (ByteArray × Int)

def entsF : Nat → Pairs → List MapEntry
  | _, [] => []
  | j, (a, v) :: r => { key := .string a, val := .int .i64 v, born := j } :: entsF (j + 1) r

/-- Where a key stands, and what stands there. -/
def ix : Pairs → ByteArray → Option (Nat × Int)
  | [], _ => none
  | (a, v) :: r, k => if k == a then some (0, v) else (ix r k).map fun q => (q.1 + 1, q.2)

def lk (ps : Pairs) (k : ByteArray) : Option Int := (ix ps k).map (·.2)

/-- The map behind 'm[k] = v'. -/
def upd (ps : Pairs) (k : ByteArray) (v : Int) : Pairs :=
  match ix ps k with
  | some q => ps.set q.1 (k, v)
  | none => ps ++ [(k, v)]

/-- Block b is a map with these entries, in this order. -/
def MB (w : World) (b : Nat) (ps : Pairs) : Prop := w.heap[b]? = some (.map (entsF 0 ps).toArray ps.length)

theorem findNow_ix (k : ByteArray) : ∀ (ps : Pairs) (j i : Nat), Instr.findNow .string (.string k) (entsF j ps) i = some ((ix ps k).map fun q => (i + q.1, .int .i64 q.2))
  | [], j, i => rfl
  | (a, v) :: r, j, i => by
    simp only [entsF, Instr.findNow, Instr.sameNow, ix]
    by_cases h : (k == a) = true
    · simp [h]
    · have h' : (k == a) = false := by simpa using h
      simp only [h']
      rw [findNow_ix k r (j + 1) (i + 1)]
      cases ix r k with
      | none => rfl
      | some q => simp; omega

theorem length_entsF : ∀ (ps : Pairs) (j : Nat), (entsF j ps).length = ps.length
  | [], _ => rfl
  | _ :: r, j => by simp [entsF, length_entsF r]

theorem entsF_append : ∀ (ps qs : Pairs) (j : Nat), entsF j (ps ++ qs) = entsF j ps ++ entsF (j + ps.length) qs
  | [], qs, j => by simp [entsF]
  | p :: r, qs, j => by
    simp only [List.cons_append, entsF, List.length_cons]
    rw [entsF_append r qs (j + 1)]
    congr 3
    omega

theorem entsF_set : ∀ (ps : Pairs) (j i : Nat) (k : ByteArray) (v : Int), entsF j (ps.set i (k, v)) = (entsF j ps).modify i (fun e => { e with key := .string k, val := .int .i64 v })
  | [], j, i, k, v => by simp [entsF]
  | p :: r, j, 0, k, v => by simp [entsF]
  | p :: r, j, i + 1, k, v => by simp [entsF, entsF_set r (j + 1) i k v]

theorem Yba.zero3 (w : World) : (zeroValue 3).run Yba.prog w = .ok (.int .i64 0) w := by kernel_rfl

theorem run_chk (em : Bool) (k : ByteArray) (w : World) : (Instr.checkKey em 10000 9 (.string k)).run Yba.prog w = .ok () w :=
  MapKept.run_checkKey Yba.underlying9 (by simp [MapKept.IsKey]) em 9999

theorem run_find (k : ByteArray) (ps : Pairs) (w : World) : (Instr.findKey 9 (.string k) (entsF 0 ps)).run Yba.prog w = .ok ((ix ps k).map fun q => (q.1, .int .i64 q.2)) w := by
  simp [Instr.findKey, run_underlying Yba.underlying9, findNow_ix, Result.andThen]

theorem run_look {w : World} {b : Nat} {ps : Pairs} (h : MB w b ps) (k : ByteArray) :
    (Instr.lookup 24 (.map (some b)) (.string k) false).run Yba.prog w = .ok (.int .i64 ((lk ps k).getD 0)) w := by
  unfold MB at h
  cases hx : ix ps k with
  | none => simp [Instr.lookup, run_underlying Yba.underlying24, MapKept.run_getObj_map h, run_chk, run_find, hx, lk, Result.andThen]
  | some q => simp [Instr.lookup, run_underlying Yba.underlying24, MapKept.run_getObj_map h, run_chk, run_find, hx, lk, Result.andThen]

theorem run_len {w : World} {b : Nat} {ps : Pairs} (h : MB w b ps) (ty : TypeId) :
    (Builtin.len_ #[24] ty #[.map (some b)]).run Yba.prog w = .ok (.int .i64 (ps.length : Int)) w := by
  unfold MB at h
  simp [Builtin.len_, MapKept.run_getObj_map h, length_entsF, Result.andThen, goInt]

theorem ix_at (k : ByteArray) : ∀ (ps : Pairs) (q : Nat × Int), ix ps k = some q → ps[q.1]? = some (k, q.2) ∧ ∀ j, (entsF j ps)[q.1]? = some { key := .string k, val := .int .i64 q.2, born := j + q.1 }
  | [], q, h => by simp [ix] at h
  | (a, v) :: r, q, h => by
    simp only [ix] at h
    by_cases e : (k == a) = true
    · simp only [e, if_true, Option.some.injEq] at h
      subst h
      have e' : k = a := (MapKept.bytes_beq k a).1 e
      simp [entsF, e']
    · have e' : (k == a) = false := by simpa using e
      simp only [e'] at h
      cases hx : ix r k with
      | none => simp [hx] at h
      | some q' =>
        simp [hx] at h
        subst h
        obtain ⟨h1, h2⟩ := ix_at k r q' hx
        refine ⟨by simpa using h1, fun j => ?_⟩
        simp only [entsF, List.getElem?_cons_succ, h2 (j + 1)]
        congr 2
        omega

theorem length_upd (ps : Pairs) (k : ByteArray) (v : Int) : (upd ps k v).length = if (lk ps k).isSome then ps.length else ps.length + 1 := by
  unfold upd lk
  cases ix ps k <;> simp

theorem run_put {w : World} {b : Nat} {ps : Pairs} (h : MB w b ps) (k : ByteArray) (v : Int) :
    (Instr.mapUpdate 24 (.map (some b)) (.string k) (.int .i64 v)).run Yba.prog w = .ok () (ChangeMaps.setBlock w b (.map (entsF 0 (upd ps k v)).toArray (upd ps k v).length)) := by
  unfold MB at h
  cases hx : ix ps k with
  | none =>
    have e : upd ps k v = ps ++ [(k, v)] := by simp [upd, hx]
    rw [e]
    simp [Instr.mapUpdate, run_underlying Yba.underlying24, MapKept.run_getObj_map h, run_chk, run_find, hx, Result.andThen, MapKept.run_setObj_map _ h, ChangeMaps.setBlock, entsF_append, entsF]
  | some q =>
    have e : upd ps k v = ps.set q.1 (k, v) := by simp [upd, hx]
    have hat := (ix_at k ps q hx).2 0
    rw [e]
    simp [Instr.mapUpdate, run_underlying Yba.underlying24, MapKept.run_getObj_map h, run_chk, run_find, hx, Result.andThen, Instr.keyThatStays, hat, Instr.sameBits, (MapKept.bytes_beq k k).2 rfl, MapKept.run_setObj_map _ h, ChangeMaps.setBlock, entsF_set]

theorem beq_no {a b : ByteArray} (h : a ≠ b) : (a == b) = false := by
  cases e : a == b with
  | false => rfl
  | true => exact absurd ((MapKept.bytes_beq a b).1 e) h
theorem list_no {a b : ByteArray} (h : a ≠ b) : (a.toList == b.toList) = false := by rw [← beq_toListBytes]; exact beq_no h
theorem list_yes {a b : ByteArray} : (a.toList == b.toList) = true ↔ a = b := by rw [← beq_toListBytes]; exact MapKept.bytes_beq a b

theorem ix_append (ps : Pairs) (k k' : ByteArray) (v : Int) : lk (ps ++ [(k, v)]) k' = (lk ps k').or (if k' == k then some v else none) := by
  induction ps with
  | nil => by_cases h : (k' == k) = true <;> simp [lk, ix, h]
  | cons p r ih =>
    obtain ⟨a, u⟩ := p
    by_cases h : (k' == a) = true
    · simp [lk, ix, h]
    · have h' : (k' == a) = false := by simpa using h
      simp only [lk] at ih
      simp only [lk, List.cons_append, ix, h']
      simpa [Option.map_map, Function.comp_def] using ih

theorem lk_set (k : ByteArray) (v : Int) : ∀ (ps : Pairs) (q : Nat × Int), ix ps k = some q → ∀ k', lk (ps.set q.1 (k, v)) k' = if k' == k then some v else lk ps k'
  | [], q, h, _ => by simp [ix] at h
  | (a, u) :: r, q, h, k' => by
    simp only [ix] at h
    by_cases e : (k == a) = true
    · simp only [e, if_true, Option.some.injEq] at h
      subst h
      have e' : k = a := (MapKept.bytes_beq k a).1 e
      subst e'
      by_cases h2 : (k' == k) = true <;> simp [lk, ix, h2]
    · have e' : (k == a) = false := by simpa using e
      simp only [e'] at h
      cases hx : ix r k with
      | none => simp [hx] at h
      | some q' =>
        simp [hx] at h
        subst h
        have ih := lk_set k v r q' hx k'
        simp only [lk] at ih
        by_cases h2 : (k' == a) = true
        · have h3 : (k' == k) = false := by
            have := (MapKept.bytes_beq k' a).1 h2
            subst this
            exact beq_no (fun e2 => by subst e2; rw [(MapKept.bytes_beq k' k').2 rfl] at e'; cases e')
          simp [lk, ix, h2, h3]
        · have h2' : (k' == a) = false := by simpa using h2
          simp only [lk, List.set_cons_succ, ix, h2']
          simpa [Option.map_map, Function.comp_def] using ih

theorem lk_upd (ps : Pairs) (k k' : ByteArray) (v : Int) : lk (upd ps k v) k' = if k' == k then some v else lk ps k' := by
  unfold upd
  cases hx : ix ps k with
  | some q => exact lk_set k v ps q hx k'
  | none =>
    simp only
    rw [ix_append]
    by_cases h : (k' == k) = true
    · have := (MapKept.bytes_beq k' k).1 h
      subst this
      simp [lk, hx, h]
    · have h' : (k' == k) = false := by simpa using h
      simp [h']

theorem MB.lt {w : World} {b : Nat} {ps : Pairs} (h : MB w b ps) : b < w.heap.size := (Array.getElem?_eq_some_iff.1 h).1
theorem MB.alloc {w : World} {b : Nat} {ps : Pairs} (h : MB w b ps) (o : Obj) : MB (w.alloc o) b ps := by
  unfold MB
  rw [Below.heap_alloc w o b h.lt]
  exact h
theorem MB.chg {S : List Nat} {w w' : World} {b : Nat} {ps : Pairs} (h : MB w b ps) (hc : Chg S w w') (hS : b ∉ S) : MB w' b ps := by
  unfold MB
  rw [hc.block b h.lt hS]
  exact h
theorem MB.new (w : World) : MB (w.alloc (.map #[] 0)) w.heap.size [] := heap_alloc_new w _
theorem MB.put {w : World} {b : Nat} (hb : b < w.heap.size) (ps : Pairs) : MB (ChangeMaps.setBlock w b (.map (entsF 0 ps).toArray ps.length)) b ps := by
  simp [MB, ChangeMaps.setBlock, hb]
theorem chg_setBlock {S : List Nat} {w : World} {b : Nat} (hb : b ∈ S) (o : Obj) : Chg S w (ChangeMaps.setBlock w b o) :=
  ⟨rfl, rfl, rfl, by simp [ChangeMaps.setBlock], fun k _ hn => by
    have : b ≠ k := fun e => hn (e ▸ hb)
    simp [ChangeMaps.setBlock, this]⟩
theorem cell_setBlock {w : World} {b : Nat} (o : Obj) (r i : Nat) (h : r ≠ b) : (ChangeMaps.setBlock w b o).cell? ⟨r, i, none⟩ = w.cell? ⟨r, i, none⟩ := by
  have : (ChangeMaps.setBlock w b o).heap[r]? = w.heap[r]? := by
    have h' : ¬ b = r := fun e => h e.symm
    simp [ChangeMaps.setBlock, h']
  simp [World.cell?, this]
theorem frozen_setBlock {w : World} {b : Nat} (o : Obj) (r i : Nat) (h : r ≠ b) : (ChangeMaps.setBlock w b o).frozen? ⟨r, i, none⟩ = w.frozen? ⟨r, i, none⟩ := by
  have : (ChangeMaps.setBlock w b o).heap[r]? = w.heap[r]? := by
    have h' : ¬ b = r := fun e => h e.symm
    simp [ChangeMaps.setBlock, h']
  simp [World.frozen?, this]

def lookHeld (t : TypeId) (m k : Value) (c : Bool) : Sem Value := Instr.lookup t m k c
theorem look_held (t : TypeId) (m k : Value) (c : Bool) : Instr.lookup t m k c = lookHeld t m k c := rfl
def putHeld (t : TypeId) (m k v : Value) : Sem Unit := Instr.mapUpdate t m k v
theorem put_held (t : TypeId) (m k v : Value) : Instr.mapUpdate t m k v = putHeld t m k v := rfl
def lenHeld (ty : TypeId) (args : Array Value) : Sem Value := Builtin.len_ #[24] ty args
theorem len_held (ty : TypeId) (args : Array Value) : Builtin.len_ #[24] ty args = lenHeld ty args := rfl

end Go.Proofs.Ybulkciig
