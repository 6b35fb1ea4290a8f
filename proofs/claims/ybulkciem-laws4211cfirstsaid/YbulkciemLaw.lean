import Derived.Test.YbulkciemFns
namespace Go.Proofs.Ybulkciem
open Go.RowKit
set_option linter.unusedVariables false

theorem bound_zero (st : ByteArray) (a : Option Addr) (c : Nat) (v2 v3 v4 v5 : Value) (h2 : v2.oneCell' = true) (h3 : v3.oneCell' = true) (h4 : v4.oneCell' = true) (h5 : v5.oneCell' = true) (w : World) :
    Calls Yba.prog 5 #[.agg #[.string st, .slice a 0 c, v2, v3, v4, v5]] w fun e w' => e = .returned (.int .i64 9223372036854775807) ∧ Below w.heap.size w w' := by
  go_enter Yba.func5, Yba.ntmps5
  go_wp2
  go_ret
  exact ⟨rfl, (Below.refl _ _).alloc (Nat.le_refl _) _⟩

theorem bound_pos (st : ByteArray) (b off n c : Nat) (x : Int) (v2 v3 v4 v5 : Value) (h2 : v2.oneCell' = true) (h3 : v3.oneCell' = true) (h4 : v4.oneCell' = true) (h5 : v5.oneCell' = true) (w : World) (hn : 0 < n) (hb : b < w.heap.size) (hc : w.cell? ⟨b, off, none⟩ = some (.int .i64 x)) :
    Calls Yba.prog 5 #[.agg #[.string st, .slice (some ⟨b, off, none⟩) n c, v2, v3, v4, v5]] w fun e w' => e = .returned (.int .i64 x) ∧ Below w.heap.size w w' := by
  have hn' : (0 : Int) < (n : Int) := by omega
  have hnb : ((n : Int) == 0) = false := by simp; omega
  go_enter Yba.func5, Yba.ntmps5
  go_wp2
  go_ret
  exact ⟨rfl, (Below.refl _ _).alloc (Nat.le_refl _) _⟩

theorem first_big0 (a0 a1 : Option Addr) (n0 c0 n1 c1 : Nat) (st : ByteArray) (k : Int) (w : World) (h : 1024 < n0) :
    Calls Yba.prog 3 #[.slice a0 n0 c0, .slice a1 n1 c1, .string st, .int .i64 k] w fun e w' => e = .returned (.bool true) ∧ Below w.heap.size w w' := by
  have h' : (1024 : Int) < (n0 : Int) := by omega
  go_enter Yba.func3, Yba.ntmps3
  go_wp2
  go_ret
  exact ⟨rfl, Below.refl _ _⟩

theorem first_big1 (a0 a1 : Option Addr) (n0 c0 n1 c1 : Nat) (st : ByteArray) (k : Int) (w : World) (h0 : n0 ≤ 1024) (h : 1024 < n1) :
    Calls Yba.prog 3 #[.slice a0 n0 c0, .slice a1 n1 c1, .string st, .int .i64 k] w fun e w' => e = .returned (.bool true) ∧ Below w.heap.size w w' := by
  have h0' : ¬ (1024 : Int) < (n0 : Int) := by omega
  have h' : (1024 : Int) < (n1 : Int) := by omega
  go_enter Yba.func3, Yba.ntmps3
  go_wp2
  go_ret
  exact ⟨rfl, Below.refl _ _⟩

set_option maxHeartbeats 800000 in
theorem first_pos (b off n0 : Nat) (a1 : Option Addr) (c0 n1 c1 : Nat) (st : ByteArray) (k : Int) (z0 z1 : List Int) (w : World) (hp : 0 < n0) (h0 : n0 ≤ 1024) (hb : b < w.heap.size) (hc : ∀ i, i < n0 → w.cell? ⟨b, off + i, none⟩ = some (.int .i64 (z0.getD i 0))) (h1 : n1 ≤ 1024) (e1 : a1 = none → n1 = 0 ∧ c1 = 0) (r1 : Rd .i64 w a1 n1 z1) :
    Calls Yba.prog 3 #[.slice (some ⟨b, off, none⟩) n0 c0, .slice a1 n1 c1, .string st, .int .i64 k] w fun e w' => e = .returned (.bool true) ∧ Below w.heap.size w w' := by
  have heq : ∀ a n c w', (binOp .eql 22 (.slice a n c) (.slice none 0 0)).run Yba.prog w' = .ok (.bool a.isNone) w' := fun a n c w' => Lib.run_eql_slice_nil w' 22 3 a n c 0 0 Yba.underlying22
  have h1' : ¬ (1024 : Int) < (n1 : Int) := by omega
  have h0' : ¬ (1024 : Int) < (n0 : Int) := by omega
  have hp' : (0 : Int) < (n0 : Int) := by omega
  have r0 : Rd .i64 w (some ⟨b, off, none⟩) n0 z0 := .inr ⟨b, off, rfl, hb, hc⟩
  have hx := hc 0 hp
  rw [Nat.add_zero] at hx
  obtain ⟨x, hxe⟩ : ∃ x, z0.getD 0 0 = x := ⟨_, rfl⟩
  rw [hxe] at hx
  have hxx : (x != x) = false := by simp
  have R0 := hide r0
  clear r0 hc
  go_enter Yba.func3, Yba.ntmps3
  go_wp2_with fail
  go_at_call 4
  refine (clone_any (some ⟨b, off, none⟩) n0 c0 z0 w (by omega) (fun e => by cases e) R0.out).mono ?_
  rintro e w1 ⟨ac, cc, rfl, hnil, r2, b1⟩
  have R1 := hide (r1.below b1)
  have R2 := hide r2
  have R3 := hide (R0.out.below b1)
  have B1 := hide b1
  clear r1 r2 b1 R0
  go_wp2_with fail
  go_at_call 4
  obtain ⟨w2, hw2⟩ : ∃ w2, ((w1.alloc (Obj.cells #[Value.int IntKind.i64 k, Value.string st] 25)).alloc (Obj.cells #[Value.int IntKind.i64 k, Value.bool ((n0 : Int) % 2 == 0)] 28)) = w2 := ⟨_, rfl⟩
  have b2 : Below w1.heap.size w1 w2 := by subst hw2; exact ((Below.refl _ _).alloc (Nat.le_refl _) _).alloc (by simp) _
  rw [hw2]
  clear hw2
  have R1 := hide (R1.out.below b2)
  have R2 := hide (R2.out.below b2)
  have R3 := hide (R3.out.below b2)
  have B1 := hide (B1.out.trans (b2.mono B1.out.size))
  clear b2
  refine (clone_any a1 n1 c1 z1 w2 h1 e1 R1.out).mono ?_
  rintro e w3 ⟨ad, cd, rfl, _, _, b2⟩
  have R1 := hide (R1.out.below b2)
  have R2 := hide (R2.out.below b2)
  have R3 := hide (R3.out.below b2)
  have B1 := hide (B1.out.trans (b2.mono B1.out.size))
  clear b2
  go_wp2_with fail
  go_at_call 4
  refine (clone_any a1 n1 c1 z1 w3 h1 e1 R1.out).mono ?_
  rintro e w4 ⟨ae, ce, rfl, _, _, b2⟩
  have R2 := hide (R2.out.below b2)
  have R3 := hide (R3.out.below b2)
  have B1 := hide (B1.out.trans (b2.mono B1.out.size))
  clear b2 R1
  rcases R2.out with hh | ⟨g, o, rfl, hg, hgc⟩
  · omega
  have hx4 := hgc 0 hp
  rw [Nat.add_zero, hxe] at hx4
  rcases R3.out with hh | ⟨b', o', hbo, hg', hgc'⟩
  · omega
  obtain ⟨rfl, rfl⟩ : b = b' ∧ off = o' := by cases hbo; exact ⟨rfl, rfl⟩
  have hx5 := hgc' 0 hp
  rw [Nat.add_zero, hxe] at hx5
  clear hgc hgc' hbo hx hxe
  go_wp2_with fail
  go_at_call 5
  generalize hw5 : w4.alloc _ = w5
  have b5 : Below w4.heap.size w4 w5 := by subst hw5; exact (Below.refl _ _).alloc (Nat.le_refl _) _
  clear hw5
  have hx4 := cell_later b5 hx4
  have hx5 := cell_later b5 hx5
  refine (bound_pos st g o n0 cc x _ _ _ _ rfl rfl rfl rfl w5 hp (Nat.lt_of_lt_of_le hg b5.size) hx4).mono ?_
  rintro e w6 ⟨rfl, b6⟩
  have hx5 := cell_later b6 hx5
  clear hx4
  have R2 := hide ((R2.out.below b5).below b6)
  have R3 := hide ((R3.out.below b5).below b6)
  have B1 := hide ((B1.out.trans (b5.mono B1.out.size)).trans (b6.mono (Nat.le_trans B1.out.size b5.size)))
  clear b5 b6
  go_wp2_with fail
  go_at_call 6
  refine (equal_any (some ⟨g, o, none⟩) (some ⟨b, off, none⟩) n0 cc c0 z0 w6 (by omega) R2.out R3.out).mono ?_
  rintro e w7 ⟨rfl, b7⟩
  have B1 := hide (B1.out.trans (b7.mono B1.out.size))
  clear b7
  go_wp2
  go_ret
  exact ⟨rfl, B1.out⟩

set_option maxHeartbeats 800000 in
theorem first_zero (a0 a1 : Option Addr) (c0 n1 c1 : Nat) (st : ByteArray) (k : Int) (z0 z1 : List Int) (w : World) (e0 : a0 = none → c0 = 0) (h1 : n1 ≤ 1024) (e1 : a1 = none → n1 = 0 ∧ c1 = 0) (r1 : Rd .i64 w a1 n1 z1) :
    Calls Yba.prog 3 #[.slice a0 0 c0, .slice a1 n1 c1, .string st, .int .i64 k] w fun e w' => e = .returned (.bool true) ∧ Below w.heap.size w w' := by
  have heq : ∀ a n c w', (binOp .eql 22 (.slice a n c) (.slice none 0 0)).run Yba.prog w' = .ok (.bool a.isNone) w' := fun a n c w' => Lib.run_eql_slice_nil w' 22 3 a n c 0 0 Yba.underlying22
  have h1' : ¬ (1024 : Int) < (n1 : Int) := by omega
  have r0 : Rd .i64 w a0 0 z0 := .inl rfl
  have R0 := hide r0
  clear r0 
  go_enter Yba.func3, Yba.ntmps3
  go_wp2_with fail
  go_at_call 4
  refine (clone_any a0 0 c0 z0 w (by omega) (fun e => ⟨rfl, e0 e⟩) R0.out).mono ?_
  rintro e w1 ⟨ac, cc, rfl, hnil, r2, b1⟩
  have R1 := hide (r1.below b1)
  have R2 := hide r2
  have R3 := hide (R0.out.below b1)
  have B1 := hide b1
  clear r1 r2 b1 R0
  go_wp2_with fail
  go_at_call 4
  obtain ⟨w2, hw2⟩ : ∃ w2, ((w1.alloc (Obj.cells #[Value.int IntKind.i64 k, Value.string st] 25)).alloc (Obj.cells #[Value.int IntKind.i64 k, Value.bool (true)] 28)) = w2 := ⟨_, rfl⟩
  have b2 : Below w1.heap.size w1 w2 := by subst hw2; exact ((Below.refl _ _).alloc (Nat.le_refl _) _).alloc (by simp) _
  rw [hw2]
  clear hw2
  have R1 := hide (R1.out.below b2)
  have R2 := hide (R2.out.below b2)
  have R3 := hide (R3.out.below b2)
  have B1 := hide (B1.out.trans (b2.mono B1.out.size))
  clear b2
  refine (clone_any a1 n1 c1 z1 w2 h1 e1 R1.out).mono ?_
  rintro e w3 ⟨ad, cd, rfl, _, _, b2⟩
  have R1 := hide (R1.out.below b2)
  have R2 := hide (R2.out.below b2)
  have R3 := hide (R3.out.below b2)
  have B1 := hide (B1.out.trans (b2.mono B1.out.size))
  clear b2
  go_wp2_with fail
  go_at_call 4
  refine (clone_any a1 n1 c1 z1 w3 h1 e1 R1.out).mono ?_
  rintro e w4 ⟨ae, ce, rfl, _, _, b2⟩
  have R2 := hide (R2.out.below b2)
  have R3 := hide (R3.out.below b2)
  have B1 := hide (B1.out.trans (b2.mono B1.out.size))
  clear b2 R1
  go_wp2_with fail
  go_at_call 5
  generalize hw5 : w4.alloc _ = w5
  have b5 : Below w4.heap.size w4 w5 := by subst hw5; exact (Below.refl _ _).alloc (Nat.le_refl _) _
  clear hw5
  refine (bound_zero st ac cc _ _ _ _ rfl rfl rfl rfl w5).mono ?_
  rintro e w6 ⟨rfl, b6⟩
  have hbb : (a0.isNone != a0.isNone) = false := by simp
  have R2 := hide ((R2.out.below b5).below b6)
  have R3 := hide ((R3.out.below b5).below b6)
  have B1 := hide ((B1.out.trans (b5.mono B1.out.size)).trans (b6.mono (Nat.le_trans B1.out.size b5.size)))
  clear b5 b6
  go_wp2_with fail
  go_at_call 6
  refine (equal_any ac a0 0 cc c0 z0 w6 (by omega) R2.out R3.out).mono ?_
  rintro e w7 ⟨rfl, b7⟩
  have B1 := hide (B1.out.trans (b7.mono B1.out.size))
  clear b7
  go_wp2
  go_ret
  exact ⟨rfl, B1.out⟩

end Go.Proofs.Ybulkciem
