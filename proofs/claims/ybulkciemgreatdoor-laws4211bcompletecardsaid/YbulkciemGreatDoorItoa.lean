import Derived.Shelf.Strconv.Itoa3
import Derived.Shelf.Lay
import Derived.Ground.NamesProg
import Derived.Test.YbulkciemGreatDoorComplete
import Derived.Lib.ItoaLen
namespace Go.Proofs
open Go.Shelf
shelf_lay LaysM.n171 Nm 171 at Ybaz as Ybaz.laysItoa
namespace YbulkciemGreatDoor
open Go.RowKit
set_option linter.unusedVariables false
set_option linter.unusedSimpArgs false

abbrev Tab10 (w : World) : Prop := Lib.TabIs Ybaz.prog w "internal/strconv.uint64pow10" .u64 Lib.pow10Tab

/-- The numeral of i. -/
def num (i : Nat) : ByteArray := ⟨(Lib.itoa i).toArray⟩
/-- The state of configuration i. -/
def stN (i : Nat) : ByteArray := ⟨#[115]⟩ ++ num i

theorem below_grow (w : World) (k : Nat) (os : Array Obj) : Below w.heap.size w (Sort.grow (w.drewN k) os) := by
  refine ⟨rfl, rfl, rfl, by simp [Sort.grow, World.drewN], fun j hj => ?_⟩
  simp [Sort.grow, World.drewN, Array.getElem?_append_left hj]

theorem itoa6 (i : Nat) (h : i ≤ 1000) (w : World) (htab : Tab10 w) :
    Calls Ybaz.prog 6 #[.int .i64 i] w fun e w' => e = .returned (.string (num i)) ∧ Below w.heap.size w w' :=
  (Any.strconv_Itoa Ybaz.laysItoa (i : Int) (by omega) (by omega) w htab).mono fun e w' ⟨h1, k, os, h2⟩ => ⟨h1, h2 ▸ below_grow w k os⟩

theorem tab_below {w w' : World} (h : Tab10 w) (hb : Below w.heap.size w w') : Tab10 w' := by
  unfold Tab10 Lib.TabIs World.var? at *
  obtain ⟨og, hog⟩ : ∃ og, Ybaz.prog.globalNamed "internal/strconv.uint64pow10" = og := ⟨_, rfl⟩
  rw [hog] at h ⊢
  cases og with
  | none => simp at h
  | some g =>
  simp only [Option.bind_some] at h ⊢
  have hlt : g < w.heap.size := by
    rcases Nat.lt_or_ge g w.heap.size with h' | h'
    · exact h'
    · rw [Array.getElem?_eq_none h'] at h
      simp at h
  rw [hb.block g hlt]
  exact h

def undig (l : List UInt8) : Nat := l.foldl (fun a c => a * 10 + (c.toNat - 48)) 0
theorem undig_dec : ∀ u : Nat, undig (Lib.decDigits u) = u := by
  intro u
  induction u using Nat.strongRecOn with
  | ind u ih =>
    rw [Lib.decDigits]
    split
    · rename_i h
      simp [undig]
      omega
    · rename_i h
      have := ih (u / 10) (by omega)
      unfold undig at this ⊢
      rw [List.foldl_append, this]
      simp
      omega
theorem num_inj {i j : Nat} (h : num i = num j) : i = j := by
  unfold num at h
  simp only [ByteArray.mk.injEq] at h
  have h2 : Lib.itoa (i : Int) = Lib.itoa (j : Int) := by
    have := congrArg Array.toList h
    simpa using this
  rw [Lib.itoa_nonneg, Lib.itoa_nonneg] at h2
  rw [← undig_dec i, h2, undig_dec]
theorem stN_ne {i j : Nat} (h : i ≠ j) : stN i ≠ stN j := by
  intro he
  apply h
  apply num_inj
  unfold stN at he
  have hd := congrArg (fun b : ByteArray => b.data.toList) he
  simp [ByteArray.data_append] at hd
  exact ByteArray.ext hd
theorem stN_size (i : Nat) (h : i ≤ 1000) : 0 < (stN i).size ∧ (stN i).size ≤ 1000 := by
  have := Lib.itoa_length_le (i : Int) (by omega) (by omega)
  have hs : (stN i).size = 1 + (Lib.itoa (i : Int)).length := by
    unfold stN num
    simp [ByteArray.size_append]
    rfl
  omega
end YbulkciemGreatDoor
end Go.Proofs
