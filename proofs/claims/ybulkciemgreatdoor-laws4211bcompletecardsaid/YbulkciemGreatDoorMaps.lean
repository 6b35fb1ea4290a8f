import Derived.Test.YbulkciemGreatDoorFind
import Derived.Carry
import Derived.Maps.OwnSet
namespace Go.Proofs.YbulkciemGreatDoor
open Go.RowKit
set_option linter.unusedVariables false
set_option linter.unusedSimpArgs false

abbrev Prs := List (Int × Value)

def entsF : Nat → Prs → List MapEntry
  | _, [] => []
  | j, (a, v) :: r => { key := .int .u64 a, val := v, born := j } :: entsF (j + 1) r

/-- Where a key stands, and what stands there. -/
def ix : Prs → Int → Option (Nat × Value)
  | [], _ => none
  | (a, v) :: r, k => if k == a then some (0, v) else (ix r k).map fun q => (q.1 + 1, q.2)

/-- What 'm[k]' reads. -/
def lk (ps : Prs) (k : Int) : Value := ((ix ps k).map (·.2)).getD (.slice none 0 0)

/-- The map behind 'm[k] = v'. -/
def upd (ps : Prs) (k : Int) (v : Value) : Prs :=
  match ix ps k with
  | some q => ps.set q.1 (k, v)
  | none => ps ++ [(k, v)]

/-- Block b is a map with these entries, in this order. -/
def MB (w : World) (b : Nat) (ps : Prs) : Prop := w.heap[b]? = some (.map (entsF 0 ps).toArray ps.length)

theorem findNow_ix (k : Int) : ∀ (ps : Prs) (j i : Nat), Instr.findNow (.int .u64) (.int .u64 k) (entsF j ps) i = some ((ix ps k).map fun q => (i + q.1, q.2))
  | [], j, i => rfl
  | (a, v) :: r, j, i => by
    simp only [entsF, Instr.findNow, Instr.sameNow, ix]
    by_cases h : (k == a) = true
    · simp [h]
    · have h' : (k == a) = false := by simpa using h
      simp only [h']
      rw [findNow_ix k r (j + 1) (i + 1)]
      cases ix r k with
      | none => rfl
      | some q => simp; omega

theorem entsF_append : ∀ (ps qs : Prs) (j : Nat), entsF j (ps ++ qs) = entsF j ps ++ entsF (j + ps.length) qs
  | [], qs, j => by simp [entsF]
  | p :: r, qs, j => by
    simp only [List.cons_append, entsF, List.length_cons]
    rw [entsF_append r qs (j + 1)]
    congr 3
    omega

theorem entsF_set : ∀ (ps : Prs) (j i : Nat) (k : Int) (v : Value), entsF j (ps.set i (k, v)) = (entsF j ps).modify i (fun e => { e with key := .int .u64 k, val := v })
  | [], j, i, k, v => by simp [entsF]
  | p :: r, j, 0, k, v => by simp [entsF]
  | p :: r, j, i + 1, k, v => by simp [entsF, entsF_set r (j + 1) i k v]

theorem Ybaz.zero34 (w : World) : (zeroValue 34).run Ybaz.prog w = .ok (.slice none 0 0) w := by kernel_rfl

theorem run_chk (em : Bool) (k : Int) (w : World) : (Instr.checkKey em 10000 115 (.int .u64 k)).run Ybaz.prog w = .ok () w :=
  MapKept.run_checkKey Ybaz.underlying115 (by simp [MapKept.IsKey]) em 9999

theorem run_find (k : Int) (ps : Prs) (w : World) : (Instr.findKey 115 (.int .u64 k) (entsF 0 ps)).run Ybaz.prog w = .ok ((ix ps k).map fun q => (q.1, q.2)) w := by
  simp [Instr.findKey, run_underlying Ybaz.underlying115, findNow_ix, Result.andThen]

theorem run_look {w : World} {b : Nat} {ps : Prs} (h : MB w b ps) (k : Int) :
    (Instr.lookup 113 (.map (some b)) (.int .u64 k) false).run Ybaz.prog w = .ok (lk ps k) w := by
  unfold MB at h
  cases hx : ix ps k with
  | none => simp [Instr.lookup, run_underlying Ybaz.underlying113, MapKept.run_getObj_map h, run_chk, run_find, hx, lk, Result.andThen, Ybaz.zero34]
  | some q => simp [Instr.lookup, run_underlying Ybaz.underlying113, MapKept.run_getObj_map h, run_chk, run_find, hx, lk, Result.andThen]

theorem ix_at (k : Int) : ∀ (ps : Prs) (q : Nat × Value), ix ps k = some q → ps[q.1]? = some (k, q.2) ∧ ∀ j, (entsF j ps)[q.1]? = some { key := .int .u64 k, val := q.2, born := j + q.1 }
  | [], q, h => by simp [ix] at h
  | (a, v) :: r, q, h => by
    simp only [ix] at h
    by_cases e : (k == a) = true
    · simp only [e, if_true, Option.some.injEq] at h
      subst h
      have e' : k = a := by simpa using e
      simp [entsF, e']
    · have e' : (k == a) = false := by simpa using e
      simp only [e'] at h
      cases hx : ix r k with
      | none => simp [hx] at h
      | some q' =>
        simp [hx] at h
        subst h
        obtain ⟨h1, h2⟩ := ix_at k r q' hx
        refine ⟨by simpa using h1, fun j => ?_⟩
        simp only [entsF, List.getElem?_cons_succ, h2 (j + 1)]
        congr 2
        omega

theorem run_put {w : World} {b : Nat} {ps : Prs} (h : MB w b ps) (k : Int) (v : Value) :
    (Instr.mapUpdate 113 (.map (some b)) (.int .u64 k) v).run Ybaz.prog w = .ok () (ChangeMaps.setBlock w b (.map (entsF 0 (upd ps k v)).toArray (upd ps k v).length)) := by
  unfold MB at h
  cases hx : ix ps k with
  | none =>
    have e : upd ps k v = ps ++ [(k, v)] := by simp [upd, hx]
    rw [e]
    simp [Instr.mapUpdate, run_underlying Ybaz.underlying113, MapKept.run_getObj_map h, run_chk, run_find, hx, Result.andThen, MapKept.run_setObj_map _ h, ChangeMaps.setBlock, entsF_append, entsF]
  | some q =>
    have e : upd ps k v = ps.set q.1 (k, v) := by simp [upd, hx]
    have hat := (ix_at k ps q hx).2 0
    rw [e]
    simp [Instr.mapUpdate, run_underlying Ybaz.underlying113, MapKept.run_getObj_map h, run_chk, run_find, hx, Result.andThen, Instr.keyThatStays, hat, Instr.sameBits, MapKept.run_setObj_map _ h, ChangeMaps.setBlock, entsF_set]

/-- The map block M: each entry owns a row of ints below n, no two entries one row. -/
structure MInv (w : World) (M base n t : Nat) (ps : Prs) : Prop where
  mb : MB w M ps
  own : ∀ (i : Nat) (p : Int × Value), ps[i]? = some p → ∃ (m : Nat) (xs : List Value), 0 < m ∧ m ≤ t ∧ w.ownsRow base 3 1 p.2 m xs ∧ ∀ u ∈ xs, ∃ j : Nat, j < n ∧ u = .int .i64 j
  apart : ∀ (i j : Nat) (p q : Int × Value), ps[i]? = some p → ps[j]? = some q → i ≠ j → p.2.ownBlock ≠ q.2.ownBlock

theorem MB.lt {w : World} {b : Nat} {ps : Prs} (h : MB w b ps) : b < w.heap.size := (Array.getElem?_eq_some_iff.1 h).1
theorem MB.ne {w : World} {b g : Nat} {e : TypeId} {ps : Prs} (h : MB w b ps) (ht : Tag w g e) : g ≠ b := by
  rintro rfl
  obtain ⟨a, ha⟩ := ht
  unfold MB at h
  rw [ha] at h
  cases h
theorem MB.chg {S : List Nat} {w w' : World} {b : Nat} {ps : Prs} (h : MB w b ps) (hc : Chg S w w') (hb : b ∉ S) : MB w' b ps := by
  unfold MB
  rw [hc.block b h.lt hb]
  exact h
theorem chg_setBlock (w : World) (b : Nat) (o : Obj) : Chg [b] w (ChangeMaps.setBlock w b o) := ⟨rfl, rfl, rfl, by simp [ChangeMaps.setBlock], fun k _ hk => by
  simp at hk
  simp [ChangeMaps.setBlock, Array.getElem?_setIfInBounds, Ne.symm hk]⟩
theorem MB.put {w : World} {b : Nat} {ps qs : Prs} (h : MB w b ps) : MB (ChangeMaps.setBlock w b (.map (entsF 0 qs).toArray qs.length)) b qs := by
  unfold MB
  simp [ChangeMaps.setBlock, Array.getElem?_setIfInBounds, h.lt]

theorem MInv.chg {S : List Nat} {w w' : World} {M base n t : Nat} {ps : Prs} (h : MInv w M base n t ps) (hc : Chg S w w') (hM : M ∉ S) (hS : ∀ g, Tag w g 3 → base ≤ g → g ∉ S) : MInv w' M base n t ps :=
  ⟨h.mb.chg hc hM, fun i p hp => by
    obtain ⟨m, xs, h1, h2, h3, h4⟩ := h.own i p hp
    exact ⟨m, xs, h1, h2, owns_chg h3 hc (fun k hk => hS k (owned_block h3 hk).2 (owned_block h3 hk).1), h4⟩, h.apart⟩

/-- What 'm[k]' reads is nil or a row that the map owns. -/
theorem MInv.look {w : World} {M base n t : Nat} {ps : Prs} (h : MInv w M base n t ps) (k : Int) :
    ∃ (m : Nat) (xs : List Value), m ≤ t ∧ w.ownsRow base 3 1 (lk ps k) m xs ∧ (∀ u ∈ xs, ∃ j : Nat, j < n ∧ u = .int .i64 j) := by
  unfold lk
  cases hx : ix ps k with
  | none => exact ⟨0, [], by omega, ⟨rfl, .inl ⟨rfl, rfl⟩⟩, by simp⟩
  | some q =>
    obtain ⟨m, xs, h1, h2, h3, h4⟩ := h.own q.1 _ (ix_at k ps q hx).1
    exact ⟨m, xs, h2, h3, h4⟩

theorem MInv.ints {w : World} {M base n t : Nat} {ps : Prs} (h : MInv w M base n t ps) (ht : t ≤ 1000) (k : Int) : Ints w n (lk ps k) := by
  obtain ⟨m, xs, hm, ho, hx⟩ := h.look k
  rcases ho.2 with ⟨h', _⟩ | ⟨g, cap, cur, h', _, hgg, hle, _, hs, htk⟩
  · exact .inl h'
  · refine .inr ⟨g, m, cap, h', (Array.getElem?_eq_some_iff.1 hgg).1, by omega, fun i hi => ?_⟩
    have hil : i < xs.length := by rw [ho.1]; omega
    obtain ⟨j, hj, hu⟩ := hx xs[i] (List.getElem_mem hil)
    refine ⟨j, hj, ?_⟩
    rw [cell_of_row w g i _ 3 (0, 0) hgg, ← hu]
    have := congrArg (fun l => l[i]?) htk
    simp only [List.getElem?_take] at this
    rw [if_pos (by omega)] at this
    simpa [hil] using this

/-- 'm[k] = append(m[k], i)'. -/
theorem MInv.put {w w2 : World} {M base n t m i : Nat} {ps : Prs} {k : Int} {v' : Value} {xs : List Value} {B : Nat} (h : MInv w M base n t ps) (hm : m ≤ t) (hxs : ∀ u ∈ xs, ∃ j : Nat, j < n ∧ u = .int .i64 j) (hi : i < n)
    (hown : w2.ownsRow base 3 1 v' (m + 1) (xs ++ [.int .i64 i])) (hc : Chg (lk ps k).ownBlock.toList w w2) (hMB : ∀ g, (lk ps k).ownBlock = some g → g ≠ M) (hB : w.heap.size ≤ B) (hbk : v'.ownBlock = (lk ps k).ownBlock ∨ v'.ownBlock = some B) (hv' : v'.ownBlock ≠ none) :
    MInv (ChangeMaps.setBlock w2 M (.map (entsF 0 (upd ps k v')).toArray (upd ps k v').length)) M base n (t + 1) (upd ps k v') := by
  have hMS : M ∉ (lk ps k).ownBlock.toList := by
    intro hm'
    rw [Option.mem_toList] at hm'
    exact hMB M hm' rfl
  have mb2 := h.mb.chg hc hMS
  -- an old entry that is not the one replaced
  have old : ∀ (j : Nat) (p : Int × Value), ps[j]? = some p → p.2.ownBlock ≠ (lk ps k).ownBlock → ∃ (m : Nat) (xs : List Value), 0 < m ∧ m ≤ t + 1 ∧ (ChangeMaps.setBlock w2 M (.map (entsF 0 (upd ps k v')).toArray (upd ps k v').length)).ownsRow base 3 1 p.2 m xs ∧ ∀ u ∈ xs, ∃ j : Nat, j < n ∧ u = .int .i64 j := by
    intro j p hp hne
    obtain ⟨m1, ys, h1, h2, h3, h4⟩ := h.own j p hp
    have h5 := owns_chg h3 hc (fun g hg hgm => by
      rw [Option.mem_toList] at hgm
      exact hne (hg.trans hgm.symm))
    refine ⟨m1, ys, h1, by omega, owns_chg h5 (chg_setBlock w2 M _) (fun g hg => ?_), h4⟩
    simpa using mb2.ne (owned_block h5 hg).2
  have new : ∃ (m : Nat) (xs : List Value), 0 < m ∧ m ≤ t + 1 ∧ (ChangeMaps.setBlock w2 M (.map (entsF 0 (upd ps k v')).toArray (upd ps k v').length)).ownsRow base 3 1 v' m xs ∧ ∀ u ∈ xs, ∃ j : Nat, j < n ∧ u = .int .i64 j := by
    refine ⟨m + 1, _, by omega, by omega, owns_chg hown (chg_setBlock w2 M _) (fun g hg => by simpa using mb2.ne (owned_block hown hg).2), ?_⟩
    intro u hu
    rcases List.mem_append.1 hu with hu | hu
    · exact hxs u hu
    · exact ⟨i, hi, by simpa using hu⟩
  -- the new row is no old entry's, but for the one replaced
  have fresh : ∀ (j : Nat) (p : Int × Value), ps[j]? = some p → p.2.ownBlock ≠ (lk ps k).ownBlock → p.2.ownBlock ≠ v'.ownBlock := by
    intro j p hp hne he
    rcases hbk with e | e
    · exact hne (he.trans e)
    · obtain ⟨m1, ys, _, _, h3, _⟩ := h.own j p hp
      have := (owned_block h3 (he.trans e)).2.lt
      omega
  refine ⟨MB.put mb2, ?_, ?_⟩
  · cases hx : ix ps k with
    | none =>
      have e : upd ps k v' = ps ++ [(k, v')] := by simp [upd, hx]
      have hlk : (lk ps k).ownBlock = none := by simp [lk, hx, Value.ownBlock]
      intro j p hp
      rw [e] at hp
      rcases Nat.lt_or_ge j ps.length with hj | hj
      · rw [List.getElem?_append_left hj] at hp
        refine old j p hp ?_
        rw [hlk]
        obtain ⟨m1, ys, h1, _, h3, _⟩ := h.own j p hp
        obtain ⟨g, c, hv, _⟩ := owned_slice h3 h1
        rw [hv]
        simp [Value.ownBlock]
      · rw [List.getElem?_append_right hj] at hp
        have : j - ps.length = 0 := by
          rcases Nat.eq_zero_or_pos (j - ps.length) with h0 | h0
          · exact h0
          · rw [List.getElem?_eq_none (by simp; omega)] at hp
            cases hp
        rw [this] at hp
        simp at hp
        subst hp
        exact new
    | some q =>
      have e : upd ps k v' = ps.set q.1 (k, v') := by simp [upd, hx]
      have hlk : lk ps k = q.2 := by simp [lk, hx]
      intro j p hp
      rw [e, List.getElem?_set] at hp
      by_cases hj : q.1 = j
      · rw [if_pos hj] at hp
        split at hp
        · simp at hp
          subst hp
          exact new
        · cases hp
      · rw [if_neg hj] at hp
        refine old j p hp ?_
        rw [hlk]
        exact h.apart j q.1 p _ hp (ix_at k ps q hx).1 (fun e => hj e.symm)
  · cases hx : ix ps k with
    | none =>
      have e : upd ps k v' = ps ++ [(k, v')] := by simp [upd, hx]
      have hlk : (lk ps k).ownBlock = none := by simp [lk, hx, Value.ownBlock]
      have hne : ∀ (j : Nat) (p : Int × Value), ps[j]? = some p → p.2.ownBlock ≠ (lk ps k).ownBlock := by
        intro j p hp
        rw [hlk]
        obtain ⟨m1, ys, h1, _, h3, _⟩ := h.own j p hp
        obtain ⟨g, c, hv, _⟩ := owned_slice h3 h1
        rw [hv]
        simp [Value.ownBlock]
      have part : ∀ (j : Nat) (p : Int × Value), (ps ++ [(k, v')])[j]? = some p → (j < ps.length ∧ ps[j]? = some p) ∨ (j = ps.length ∧ p = (k, v')) := by
        intro j p hp
        rcases Nat.lt_or_ge j ps.length with hj | hj
        · rw [List.getElem?_append_left hj] at hp
          exact .inl ⟨hj, hp⟩
        · rw [List.getElem?_append_right hj] at hp
          have : j - ps.length = 0 := by
            rcases Nat.eq_zero_or_pos (j - ps.length) with h0 | h0
            · exact h0
            · rw [List.getElem?_eq_none (by simp; omega)] at hp
              cases hp
          rw [this] at hp
          simp at hp
          exact .inr ⟨by omega, hp.symm⟩
      intro a b p q hp hq hab
      rw [e] at hp hq
      rcases part a p hp with ⟨_, hp⟩ | ⟨ha, rfl⟩
      · rcases part b q hq with ⟨_, hq⟩ | ⟨hb, rfl⟩
        · exact h.apart a b p q hp hq hab
        · exact fresh a p hp (hne a p hp)
      · rcases part b q hq with ⟨_, hq⟩ | ⟨hb, rfl⟩
        · exact (fresh b q hq (hne b q hq)).symm
        · omega
    | some r =>
      have e : upd ps k v' = ps.set r.1 (k, v') := by simp [upd, hx]
      have hlk : lk ps k = r.2 := by simp [lk, hx]
      have part : ∀ (j : Nat) (p : Int × Value), (ps.set r.1 (k, v'))[j]? = some p → (j ≠ r.1 ∧ ps[j]? = some p) ∨ (j = r.1 ∧ p = (k, v')) := by
        intro j p hp
        rw [List.getElem?_set] at hp
        by_cases hj : r.1 = j
        · rw [if_pos hj] at hp
          split at hp
          · simp at hp
            exact .inr ⟨hj.symm, hp.symm⟩
          · cases hp
        · rw [if_neg hj] at hp
          exact .inl ⟨fun e => hj e.symm, hp⟩
      have hne : ∀ (j : Nat) (p : Int × Value), ps[j]? = some p → j ≠ r.1 → p.2.ownBlock ≠ (lk ps k).ownBlock := by
        intro j p hp hj
        rw [hlk]
        exact h.apart j r.1 p _ hp (ix_at k ps r hx).1 hj
      intro a b p q hp hq hab
      rw [e] at hp hq
      rcases part a p hp with ⟨ha, hp⟩ | ⟨ha, rfl⟩
      · rcases part b q hq with ⟨_, hq⟩ | ⟨hb, rfl⟩
        · exact h.apart a b p q hp hq hab
        · exact fresh a p hp (hne a p hp ha)
      · rcases part b q hq with ⟨hb, hq⟩ | ⟨hb, rfl⟩
        · exact (fresh b q hq (hne b q hq hb)).symm
        · omega
end Go.Proofs.YbulkciemGreatDoor
