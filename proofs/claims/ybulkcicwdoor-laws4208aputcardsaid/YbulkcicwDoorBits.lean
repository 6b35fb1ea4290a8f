import Derived.Lib.TrailingZeros
namespace Go.Proofs.YbulkcicwDoor

/-- The set bits of a word, in rising order. -/
def bitsOf (x : Nat) : List Nat := (List.range 64).filter fun j => x.testBit j

theorem and_pred (k m : Nat) : (2 ^ k * (2 * m + 1)) &&& (2 ^ k * (2 * m + 1) - 1) = 2 ^ (k + 1) * m := by
  have hp : 0 < 2 ^ k := Nat.two_pow_pos k
  have hlt : 2 ^ k < 2 ^ (k + 1) := Nat.pow_lt_pow_right (by decide) (by omega)
  have e1 : 2 ^ k * (2 * m + 1) = 2 ^ (k + 1) * m + 2 ^ k := by rw [Nat.pow_succ, Nat.mul_add, Nat.mul_one, Nat.mul_assoc]
  have e2 : 2 ^ k * (2 * m + 1) - 1 = 2 ^ (k + 1) * m + (2 ^ k - 1) := by rw [e1]; omega
  have e3 : 2 ^ (k + 1) * m = 2 ^ (k + 1) * m + 0 := rfl
  rw [e2, e1]
  conv => rhs; rw [e3]
  apply Nat.eq_of_testBit_eq
  intro j
  rw [Nat.testBit_and, Nat.testBit_two_pow_mul_add _ hlt, Nat.testBit_two_pow_mul_add _ (by omega), Nat.testBit_two_pow_mul_add _ (by omega)]
  by_cases hj : j < k + 1
  · simp only [hj, if_true, Nat.testBit_two_pow, Nat.testBit_two_pow_sub_one, Nat.zero_testBit]
    by_cases h : k = j
    · subst h; simp
    · simp [h]
  · simp [hj]

theorem filter_split (k : Nat) (hk : k < 64) (p q : Nat → Bool) (h1 : ∀ j, j < k → p j = false) (h2 : p k = true) (h3 : ∀ j, j ≤ k → q j = false) (h4 : ∀ j, k < j → p j = q j) :
    (List.range 64).filter p = k :: (List.range 64).filter q := by
  have e : List.range 64 = List.range k ++ ([k] ++ (List.range (63 - k)).map (k + 1 + ·)) := by
    have a : List.range 64 = List.range (k + (1 + (63 - k))) := by congr 1; omega
    rw [a, List.range_add, List.range_add]
    simp [Function.comp_def, Nat.add_assoc]
  rw [e]
  simp only [List.filter_append]
  have f1 : (List.range k).filter p = [] := by
    rw [List.filter_eq_nil_iff]; intro j hj; simp at hj; simp [h1 j hj]
  have f2 : (List.range k).filter q = [] := by
    rw [List.filter_eq_nil_iff]; intro j hj; simp at hj; simp [h3 j (by omega)]
  have f3 : ((List.range (63 - k)).map (k + 1 + ·)).filter p = ((List.range (63 - k)).map (k + 1 + ·)).filter q := by
    apply List.filter_congr
    intro j hj
    simp at hj
    obtain ⟨a, _, rfl⟩ := hj
    exact h4 _ (by omega)
  rw [f1, f2, f3]
  simp [h2, h3 k (Nat.le_refl _)]

/-- The lowest bit, and the others. -/
theorem bits_step (x : Nat) (h0 : x ≠ 0) (h : x < 18446744073709551616) :
    bitsOf x = Lib.ctz 64 x :: bitsOf (x &&& (x - 1)) ∧ x &&& (x - 1) < x ∧ Lib.ctz 64 x < 64 := by
  obtain ⟨m, hm, hk⟩ := Lib.ctzFrom_spec 64 x (by omega) h
  have e : Lib.ctz 64 x = Lib.ctzFrom 64 x := by simp [Lib.ctz, h0]
  rw [e]
  generalize Lib.ctzFrom 64 x = k at hm hk
  have hp : 0 < 2 ^ k := Nat.two_pow_pos k
  have hlt : 2 ^ k < 2 ^ (k + 1) := Nat.pow_lt_pow_right (by decide) (by omega)
  have ha := and_pred k m
  rw [← hm] at ha
  have e1 : x = 2 ^ (k + 1) * m + 2 ^ k := by rw [hm, Nat.pow_succ, Nat.mul_add, Nat.mul_one, Nat.mul_assoc]
  refine ⟨?_, by rw [ha]; omega, hk⟩
  rw [ha]
  unfold bitsOf
  have e3 : 2 ^ (k + 1) * m = 2 ^ (k + 1) * m + 0 := rfl
  refine filter_split k hk _ _ ?_ ?_ ?_ ?_
  · intro j hj
    rw [e1, Nat.testBit_two_pow_mul_add _ hlt, if_pos (by omega), Nat.testBit_two_pow]
    simp; omega
  · rw [e1, Nat.testBit_two_pow_mul_add _ hlt, if_pos (by omega), Nat.testBit_two_pow]
    simp
  · intro j hj
    rw [e3, Nat.testBit_two_pow_mul_add _ (by omega), if_pos (by omega)]
    simp
  · intro j hj
    rw [e1, Nat.testBit_two_pow_mul_add _ hlt, if_neg (by omega), e3, Nat.testBit_two_pow_mul_add _ (by omega), if_neg (by omega)]

theorem bits_zero : bitsOf 0 = [] := by simp [bitsOf]
theorem bits_lt (x : Nat) : ∀ j ∈ bitsOf x, j < 64 := by
  intro j hj
  simp [bitsOf] at hj
  exact hj.1
theorem bits_len (x : Nat) : (bitsOf x).length ≤ 64 := by
  have := List.length_filter_le (fun j => x.testBit j) (List.range 64)
  simpa [bitsOf] using this

/-- The columns of the first k words. -/
def cols (ws : List Nat) (k : Nat) : List Nat := (List.range k).flatMap fun i => (bitsOf (ws[i]?.getD 0)).map (i * 64 + ·)
theorem cols_succ (ws : List Nat) (k : Nat) : cols ws (k + 1) = cols ws k ++ (bitsOf (ws[k]?.getD 0)).map (k * 64 + ·) := by
  simp [cols, List.range_succ]
theorem cols_len (ws : List Nat) (k : Nat) : (cols ws k).length ≤ 64 * k := by
  induction k with
  | zero => simp [cols]
  | succ k ih =>
    rw [cols_succ]
    have := bits_len (ws[k]?.getD 0)
    simp
    omega
theorem cols_lt (ws : List Nat) (k : Nat) : ∀ c ∈ cols ws k, c < 64 * k := by
  induction k with
  | zero => simp [cols]
  | succ k ih =>
    rw [cols_succ]
    intro c hc
    rcases List.mem_append.1 hc with h | h
    · have := ih c h; omega
    · simp at h
      obtain ⟨j, hj, rfl⟩ := h
      have := bits_lt _ j hj
      omega

end Go.Proofs.YbulkcicwDoor
