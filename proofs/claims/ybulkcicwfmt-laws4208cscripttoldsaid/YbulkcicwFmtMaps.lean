import Derived.Test.YbulkcicwFmtRows
import Derived.Test.YbulkcicwFmtMem
import Derived.Carry
import Derived.Maps.OwnSet
namespace Go.Proofs.YbulkcicwFmt
open Go.RowKit
set_option linter.unusedVariables false

abbrev Pairs := List (ByteArray × ByteArray)

def entsF : Nat → Pairs → List MapEntry
  | _, [] => []
  | j, (a, v) :: r => { key := .string a, val := .string v, born := j } :: entsF (j + 1) r

/-- Where a key stands, and what stands there. -/
def ix : Pairs → ByteArray → Option (Nat × ByteArray)
  | [], _ => none
  | (a, v) :: r, k => if k == a then some (0, v) else (ix r k).map fun q => (q.1 + 1, q.2)

def lk (ps : Pairs) (k : ByteArray) : Option ByteArray := (ix ps k).map (·.2)

/-- Block b is a map with these entries, in this order. -/
def MB (w : World) (b : Nat) (ps : Pairs) : Prop := w.heap[b]? = some (.map (entsF 0 ps).toArray ps.length)

theorem findNow_ix (k : ByteArray) : ∀ (ps : Pairs) (j i : Nat), Instr.findNow .string (.string k) (entsF j ps) i = some ((ix ps k).map fun q => (i + q.1, .string q.2))
  | [], j, i => rfl
  | (a, v) :: r, j, i => by
    simp only [entsF, Instr.findNow, Instr.sameNow, ix]
    by_cases h : (k == a) = true
    · simp [h]
    · have h' : (k == a) = false := by simpa using h
      simp only [h']
      rw [findNow_ix k r (j + 1) (i + 1)]
      cases ix r k with
      | none => rfl
      | some q => simp; omega

theorem length_entsF : ∀ (ps : Pairs) (j : Nat), (entsF j ps).length = ps.length
  | [], _ => rfl
  | _ :: r, j => by simp [entsF, length_entsF r]

theorem entsF_append : ∀ (ps qs : Pairs) (j : Nat), entsF j (ps ++ qs) = entsF j ps ++ entsF (j + ps.length) qs
  | [], qs, j => by simp [entsF]
  | p :: r, qs, j => by
    simp only [List.cons_append, entsF, List.length_cons]
    rw [entsF_append r qs (j + 1)]
    congr 3
    omega

theorem Ybaf.zero9 (w : World) : (zeroValue 9).run Ybaf.prog w = .ok (.string ⟨#[]⟩) w := by kernel_rfl

/-- What a look-up gives. -/
def got (o : Option ByteArray) (c : Bool) : Value := if c then .tuple #[.string (o.getD ⟨#[]⟩), .bool o.isSome] else .string (o.getD ⟨#[]⟩)

theorem run_chk (em : Bool) (k : ByteArray) (w : World) : (Instr.checkKey em 10000 9 (.string k)).run Ybaf.prog w = .ok () w :=
  MapKept.run_checkKey Ybaf.underlying9 (by simp [MapKept.IsKey]) em 9999

theorem run_find (k : ByteArray) (ps : Pairs) (w : World) : (Instr.findKey 9 (.string k) (entsF 0 ps)).run Ybaf.prog w = .ok ((ix ps k).map fun q => (q.1, .string q.2)) w := by
  simp [Instr.findKey, run_underlying Ybaf.underlying9, findNow_ix, Result.andThen]

theorem run_look {w : World} {b : Nat} {ps : Pairs} (h : MB w b ps) (k : ByteArray) (c : Bool) :
    (Instr.lookup 47 (.map (some b)) (.string k) c).run Ybaf.prog w = .ok (got (lk ps k) c) w := by
  unfold MB at h
  cases hx : ix ps k with
  | none => cases c <;> simp [Instr.lookup, run_underlying Ybaf.underlying47, MapKept.run_getObj_map h, run_chk, run_find, hx, got, lk, Result.andThen]
  | some q => cases c <;> simp [Instr.lookup, run_underlying Ybaf.underlying47, MapKept.run_getObj_map h, run_chk, run_find, hx, got, lk, Result.andThen]

theorem run_len {w : World} {b : Nat} {ps : Pairs} (h : MB w b ps) (ty : TypeId) :
    (Builtin.len_ #[47] ty #[.map (some b)]).run Ybaf.prog w = .ok (.int .i64 (ps.length : Int)) w := by
  unfold MB at h
  simp [Builtin.len_, MapKept.run_getObj_map h, length_entsF, Result.andThen, goInt]

theorem run_put_new {w : World} {b : Nat} {ps : Pairs} (h : MB w b ps) (k v : ByteArray) (hk : lk ps k = none) :
    (Instr.mapUpdate 47 (.map (some b)) (.string k) (.string v)).run Ybaf.prog w = .ok () (ChangeMaps.setBlock w b (.map (entsF 0 (ps ++ [(k, v)])).toArray (ps.length + 1))) := by
  unfold MB at h
  have hx : ix ps k = none := by simpa [lk] using hk
  simp [Instr.mapUpdate, run_underlying Ybaf.underlying47, MapKept.run_getObj_map h, run_chk, run_find, hx, Result.andThen, MapKept.run_setObj_map _ h, ChangeMaps.setBlock, entsF_append, entsF]

theorem ix_at (k : ByteArray) : ∀ (ps : Pairs) (q : Nat × ByteArray), ix ps k = some q → ∀ j, (entsF j ps)[q.1]? = some { key := .string k, val := .string q.2, born := j + q.1 }
  | [], q, h, _ => by simp [ix] at h
  | (a, v) :: r, q, h, j => by
    simp only [ix] at h
    by_cases e : (k == a) = true
    · simp only [e, if_true, Option.some.injEq] at h
      subst h
      have e' : k = a := (MapKept.bytes_beq k a).1 e
      simp [entsF, e']
    · have e' : (k == a) = false := by simpa using e
      simp only [e'] at h
      cases hx : ix r k with
      | none => simp [hx] at h
      | some q' =>
        simp [hx] at h
        subst h
        have := ix_at k r q' hx (j + 1)
        simp only [entsF, List.getElem?_cons_succ, this]
        congr 2
        omega

theorem run_put_same {w : World} {b : Nat} {ps : Pairs} (h : MB w b ps) (k v : ByteArray) (hk : lk ps k = some v) :
    (Instr.mapUpdate 47 (.map (some b)) (.string k) (.string v)).run Ybaf.prog w = .ok () (ChangeMaps.setBlock w b (.map (entsF 0 ps).toArray ps.length)) := by
  unfold MB at h
  obtain ⟨q, hx, hq⟩ : ∃ q, ix ps k = some q ∧ q.2 = v := by simpa [lk] using hk
  have hat := ix_at k ps q hx 0
  have hm : (entsF 0 ps).modify q.1 (fun e => { e with key := .string k, val := .string v }) = entsF 0 ps := by
    apply List.ext_getElem?
    intro i
    rw [List.getElem?_modify]
    by_cases hi : q.1 = i
    · subst hi
      simp [hat, hq]
    · simp [hi]
  simp [Instr.mapUpdate, run_underlying Ybaf.underlying47, MapKept.run_getObj_map h, run_chk, run_find, hx, Result.andThen, Instr.keyThatStays, hat, Instr.sameBits, (MapKept.bytes_beq k k).2 rfl, hm, MapKept.run_setObj_map _ h, ChangeMaps.setBlock]

theorem MB.lt {w : World} {b : Nat} {ps : Pairs} (h : MB w b ps) : b < w.heap.size := (Array.getElem?_eq_some_iff.1 h).1
theorem MB.alloc {w : World} {b : Nat} {ps : Pairs} (h : MB w b ps) (o : Obj) : MB (w.alloc o) b ps := by
  unfold MB
  rw [Below.heap_alloc w o b h.lt]
  exact h
theorem MB.chg {S : List Nat} {w w' : World} {b : Nat} {ps : Pairs} (h : MB w b ps) (hc : Chg S w w') (hS : b ∉ S) : MB w' b ps := by
  unfold MB
  rw [hc.block b h.lt hS]
  exact h
theorem MB.new (w : World) : MB (w.alloc (.map #[] 0)) w.heap.size [] := heap_alloc_new w _
theorem MB.put {w : World} {b : Nat} (hb : b < w.heap.size) (ps : Pairs) : MB (ChangeMaps.setBlock w b (.map (entsF 0 ps).toArray ps.length)) b ps := by
  simp [MB, ChangeMaps.setBlock, hb]
theorem chg_setBlock {S : List Nat} {w : World} {b : Nat} (hb : b ∈ S) (o : Obj) : Chg S w (ChangeMaps.setBlock w b o) :=
  ⟨rfl, rfl, rfl, by simp [ChangeMaps.setBlock], fun k _ hn => by
    have : b ≠ k := fun e => hn (e ▸ hb)
    simp [ChangeMaps.setBlock, this]⟩

end Go.Proofs.YbulkcicwFmt
