import Derived.Test.YbulkcicwFmtRd
namespace Go.Proofs.YbulkcicwFmt
open Go.RowKit Go.Extern.Stop Go.Stop Go.Extern
set_option linter.unusedVariables false

/-- The body of block n in a text. -/
def blockAt (n : Nat) : Code → Option Code
  | .block m c => bif m == n then some c else blockAt n c
  | .seq a b => match blockAt n a with
    | some c => some c
    | none => blockAt n b
  | .loop c => blockAt n c
  | .scope c => blockAt n c
  | .cond _ a b => match blockAt n a with
    | some c => some c
    | none => blockAt n b
  | _ => none

abbrev noPair : ByteArray × ByteArray := (⟨#[]⟩, ⟨#[]⟩)
def swp (ps : Pairs) : Pairs := ps.map fun p => (p.2, p.1)

/-- The last of the first i pairs that bears the key. -/
def sc (ps : Pairs) (k : ByteArray) : Nat → Option ByteArray
  | 0 => none
  | i + 1 => if ((ps.getD i noPair).1.toList == k.toList) then some (ps.getD i noPair).2 else sc ps k i

theorem list_yes {a b : ByteArray} : (a.toList == b.toList) = true ↔ a = b := by rw [← beq_toListBytes]; exact MapKept.bytes_beq a b

theorem ix_mem (k : ByteArray) : ∀ (ps : Pairs) (q : Nat × ByteArray), ix ps k = some q → ps[q.1]? = some (k, q.2)
  | [], q, h => by simp [ix] at h
  | (a, v) :: r, q, h => by
    simp only [ix] at h
    by_cases e : (k == a) = true
    · simp only [e, if_true, Option.some.injEq] at h
      subst h
      have e' : k = a := (MapKept.bytes_beq k a).1 e
      simp [e']
    · have e' : (k == a) = false := by simpa using e
      simp only [e'] at h
      cases hx : ix r k with
      | none => simp [hx] at h
      | some q' =>
        simp [hx] at h
        subst h
        simpa using ix_mem k r q' hx

theorem lk_mem {ps : Pairs} {k v : ByteArray} (h : lk ps k = some v) : (k, v) ∈ ps := by
  obtain ⟨q, hx, rfl⟩ : ∃ q, ix ps k = some q ∧ q.2 = v := by simpa [lk] using h
  exact List.mem_of_getElem? (ix_mem k ps q hx)

theorem lk_none {k : ByteArray} : ∀ {ps : Pairs}, lk ps k = none → ∀ v, (k, v) ∉ ps
  | [], _, v => by simp
  | (a, u) :: r, h, v => by
    intro hm
    by_cases e : (k == a) = true
    · simp [lk, ix, e] at h
    · have e' : (k == a) = false := by simpa using e
      have hr : lk r k = none := by simpa [lk, ix, e'] using h
      rcases List.mem_cons.1 hm with h1 | h1
      · have : k = a := by cases h1; rfl
        rw [this, (MapKept.bytes_beq a a).2 rfl] at e'
        cases e'
      · exact lk_none hr v h1

/-- Names stand once, texts stand once. -/
def One (ps : Pairs) : Prop := (∀ a b c, (a, b) ∈ ps → (a, c) ∈ ps → b = c) ∧ (∀ a b c, (a, c) ∈ ps → (b, c) ∈ ps → a = b)

theorem One.nil : One [] := ⟨fun _ _ _ h => by simp at h, fun _ _ _ h => by simp at h⟩
theorem mem_swp {ps : Pairs} {a b : ByteArray} : (a, b) ∈ swp ps ↔ (b, a) ∈ ps := by
  unfold swp
  rw [List.mem_map]
  constructor
  · rintro ⟨⟨x, y⟩, h, e⟩
    cases e
    exact h
  · intro h
    exact ⟨(b, a), h, rfl⟩
theorem One.turn {ps : Pairs} (h : One ps) : One (swp ps) :=
  ⟨fun a b c h1 h2 => h.2 b c a (mem_swp.1 h1) (mem_swp.1 h2), fun a b c h1 h2 => h.1 c a b (mem_swp.1 h1) (mem_swp.1 h2)⟩
theorem lk_of_mem {ps : Pairs} (h : One ps) {k v : ByteArray} (hm : (k, v) ∈ ps) : lk ps k = some v := by
  cases e : lk ps k with
  | none => exact absurd hm (lk_none e v)
  | some u => rw [h.1 k u v (lk_mem e) hm]
theorem length_swp (ps : Pairs) : (swp ps).length = ps.length := by simp [swp]
theorem swp_append (ps : Pairs) (a b : ByteArray) : swp (ps ++ [(a, b)]) = swp ps ++ [(b, a)] := by simp [swp]
theorem swp_at (ps : Pairs) (i : Nat) : (swp ps).getD i noPair = ((ps.getD i noPair).2, (ps.getD i noPair).1) := by
  unfold swp
  rw [List.getD_eq_getElem?_getD, List.getD_eq_getElem?_getD, List.getElem?_map]
  cases ps[i]? <;> rfl
/-- The two looks agree. -/
theorem lk_swp {ps : Pairs} (h : One ps) {a b : ByteArray} : lk ps a = some b ↔ lk (swp ps) b = some a :=
  ⟨fun e => lk_of_mem h.turn (mem_swp.2 (lk_mem e)), fun e => lk_of_mem h (mem_swp.1 (lk_mem e))⟩
theorem One.add {ps : Pairs} (h : One ps) {a b : ByteArray} (h1 : lk ps a = none) (h2 : lk (swp ps) b = none) : One (ps ++ [(a, b)]) := by
  have n1 := lk_none h1
  have n2 := lk_none h2
  refine ⟨fun x y z hy hz => ?_, fun x y z hx hy => ?_⟩
  · simp only [List.mem_append, List.mem_singleton, Prod.mk.injEq] at hy hz
    rcases hy with hy | ⟨rfl, rfl⟩
    · rcases hz with hz | ⟨rfl, rfl⟩
      · exact h.1 x y z hy hz
      · exact absurd hy (n1 y)
    · rcases hz with hz | ⟨_, rfl⟩
      · exact absurd hz (n1 z)
      · rfl
  · simp only [List.mem_append, List.mem_singleton, Prod.mk.injEq] at hx hy
    rcases hx with hx | ⟨rfl, rfl⟩
    · rcases hy with hy | ⟨rfl, rfl⟩
      · exact h.2 x y z hx hy
      · exact absurd (mem_swp.2 hx) (n2 x)
    · rcases hy with hy | ⟨rfl, _⟩
      · exact absurd (mem_swp.2 hy) (n2 y)
      · rfl

theorem sc_lk {ps : Pairs} (h : One ps) (k : ByteArray) : ∀ i, i ≤ ps.length → (∀ v, sc ps k i = some v → (k, v) ∈ ps) ∧ (sc ps k i = none → ∀ j, j < i → (ps.getD j noPair).1 ≠ k)
  | 0, _ => ⟨fun v e => by simp [sc] at e, fun _ j hj => by omega⟩
  | i + 1, hi => by
    obtain ⟨h1, h2⟩ := sc_lk h k i (by omega)
    simp only [sc]
    have hm : (ps.getD i noPair) ∈ ps := by
      rw [List.getD_eq_getElem?_getD, List.getElem?_eq_getElem (by omega)]
      exact List.getElem_mem _
    cases e : ((ps.getD i noPair).1.toList == k.toList) with
    | true =>
      have e' := list_yes.1 e
      refine ⟨fun v hv => ?_, fun hv => by simp at hv⟩
      simp at hv
      rw [← hv, ← e']
      exact hm
    | false =>
      refine ⟨fun v hv => h1 v (by simpa using hv), fun hv j hj => ?_⟩
      by_cases hji : j = i
      · subst hji
        intro e2
        rw [list_yes.2 e2] at e
        cases e
      · exact h2 (by simpa using hv) j (by omega)
theorem sc_all {ps : Pairs} (h : One ps) (k : ByteArray) : sc ps k ps.length = lk ps k := by
  obtain ⟨h1, h2⟩ := sc_lk h k ps.length (Nat.le_refl _)
  cases e : sc ps k ps.length with
  | some v => rw [lk_of_mem h (h1 v e)]
  | none =>
    cases e2 : lk ps k with
    | none => rfl
    | some v =>
      obtain ⟨i, hi, hv⟩ := List.getElem_of_mem (lk_mem e2)
      have := h2 e i hi
      rw [List.getD_eq_getElem?_getD, List.getElem?_eq_getElem hi] at this
      exact absurd (by simp [hv]) this

def nm (i : Int) : ByteArray := if i == 0 then ⟨#[97]⟩ else if i == 1 then ⟨#[98]⟩ else if i == 2 then ⟨#[73, 68]⟩ else ⟨#[78, 85, 77]⟩
def tx (i : Int) : ByteArray := if i == 0 then ⟨#[34, 97, 34]⟩ else if i == 1 then ⟨#[34, 43, 34]⟩ else if i == 2 then ⟨#[34, 105, 102, 34]⟩ else ⟨#[34, 34]⟩
theorem name6 (i : Int) (w : World) : Calls Ybaf.prog 6 #[.int .i64 i] w fun e w' => e = .returned (.string (nm i)) ∧ w' = w := by
  cases e0 : (i == 0) with
  | true =>
    have hx : nm i = ⟨#[97]⟩ := by simp [nm, e0]
    rw [hx]
    go_enter Ybaf.func6, Ybaf.ntmps6
    go_wp2
    go_ret
    exact ⟨rfl, rfl⟩
  | false =>
    cases e1 : (i == 1) with
    | true =>
      have hx : nm i = ⟨#[98]⟩ := by simp [nm, e0, e1]
      rw [hx]
      go_enter Ybaf.func6, Ybaf.ntmps6
      go_wp2
      go_ret
      exact ⟨rfl, rfl⟩
    | false =>
      cases e2 : (i == 2) with
      | true =>
        have hx : nm i = ⟨#[73, 68]⟩ := by simp [nm, e0, e1, e2]
        rw [hx]
        go_enter Ybaf.func6, Ybaf.ntmps6
        go_wp2
        go_ret
        exact ⟨rfl, rfl⟩
      | false =>
        have hx : nm i = ⟨#[78, 85, 77]⟩ := by simp [nm, e0, e1, e2]
        rw [hx]
        go_enter Ybaf.func6, Ybaf.ntmps6
        go_wp2
        go_ret
        exact ⟨rfl, rfl⟩
theorem text7 (i : Int) (w : World) : Calls Ybaf.prog 7 #[.int .i64 i] w fun e w' => e = .returned (.string (tx i)) ∧ w' = w := by
  cases e0 : (i == 0) with
  | true =>
    have hx : tx i = ⟨#[34, 97, 34]⟩ := by simp [tx, e0]
    rw [hx]
    go_enter Ybaf.func7, Ybaf.ntmps7
    go_wp2
    go_ret
    exact ⟨rfl, rfl⟩
  | false =>
    cases e1 : (i == 1) with
    | true =>
      have hx : tx i = ⟨#[34, 43, 34]⟩ := by simp [tx, e0, e1]
      rw [hx]
      go_enter Ybaf.func7, Ybaf.ntmps7
      go_wp2
      go_ret
      exact ⟨rfl, rfl⟩
    | false =>
      cases e2 : (i == 2) with
      | true =>
        have hx : tx i = ⟨#[34, 105, 102, 34]⟩ := by simp [tx, e0, e1, e2]
        rw [hx]
        go_enter Ybaf.func7, Ybaf.ntmps7
        go_wp2
        go_ret
        exact ⟨rfl, rfl⟩
      | false =>
        have hx : tx i = ⟨#[34, 34]⟩ := by simp [tx, e0, e1, e2]
        rw [hx]
        go_enter Ybaf.func7, Ybaf.ntmps7
        go_wp2
        go_ret
        exact ⟨rfl, rfl⟩

end Go.Proofs.YbulkcicwFmt
