import Derived.Test.YbulkcicwFmtRd
namespace Go.Proofs.YbulkcicwFmt
open Go.RowKit Go.Extern.Stop Go.Stop Go.Extern
set_option linter.unusedVariables false
attribute [local go_sem ↓] look_held len_held

set_option maxHeartbeats 1600000 in
theorem raw_eq (F : Interp) (name t1 : ByteArray) (line : Int) (w : World) (hF : F.answers w.tape) (hn : name.size ≤ 140737488355328) :
    Calls Ybaf.prog 4 #[.string name, .string t1, .string t1, .int .i64 line] w fun e w' => e = .returned (.bool true) ∧ Below w.heap.size w w' := by
  have hx0 : (name ++ (⟨#[120]⟩ : ByteArray)) ≠ name := add_x_ne name
  have hsum : ∀ wx, (Op.stringOp .add name ⟨#[120]⟩).run Ybaf.prog wx = .ok (.string (name ++ ⟨#[120]⟩)) wx := fun wx => run_string_add_sum (w := wx) name ⟨#[120]⟩ (by have h1 : (⟨#[120]⟩ : ByteArray).size = 1 := rfl; omega)
  go_enter Ybaf.func4, Ybaf.ntmps4
  go_wp2_with fail
  go_at_call 5
  refine (new5 _).mono ?_
  rintro e w0 ⟨rfl, hw0⟩
  have hR0 := made w
  have hB0 : Below w.heap.size w w0 := by subst hw0; exact ((((Below.refl _ _).alloc (Nat.le_refl _) _).alloc (by simp) _).alloc (by simp; omega) _)
  rw [← hw0] at hR0
  clear hw0
  obtain ⟨r, hr⟩ : ∃ r, w.heap.size + 1 + 1 = r := ⟨_, rfl⟩
  obtain ⟨m1, hm1⟩ : ∃ m1, w.heap.size = m1 := ⟨_, rfl⟩
  obtain ⟨m2, hm2⟩ : ∃ m2, w.heap.size + 1 = m2 := ⟨_, rfl⟩
  have hS : ∀ s ∈ [m1, m2], w.heap.size ≤ s := by simp; omega
  have hR0' : Rdr w0 r m1 m2 [] [] := by rw [← hr, ← hm1, ← hm2]; exact hR0
  clear hR0
  rw [hr]
  clear hr hm1 hm2
  go_wp2_with fail
  go_at_call 8
  refine (alias_new r m1 m2 [] [] name t1 _ _ _ hR0' rfl rfl).mono ?_
  rintro e w1 ⟨rfl, hR1, hC1⟩
  have hB1 := hC1.ofSelf hS hB0 (Nat.le_refl _)
  clear hC1 hB0 hR0'
  obtain ⟨a1, a2, a3, a4, a5, a6, a7, a8⟩ := hR1.one
  clear a7 a8
  go_wp2_with fail
  go_at_call 8
  clear a1 a2 a3 a4 a5 a6
  refine (alias_same r m1 m2 _ _ name t1 _ _ _ hR1 (lk1_self _ _) (lk1_self _ _)).mono ?_
  rintro e w2 ⟨rfl, hR2, hC2⟩
  have hB2 := hC2.ofSelf hS hB1 (Nat.le_refl _)
  clear hC2 hB1 hR1
  obtain ⟨a1, a2, a3, a4, a5, a6, a7, a8⟩ := hR2.one
  clear a8
  clear a7
  go_wp2_with fail
  go_at_call 8
  clear a1 a2 a3 a4 a5 a6
  have hcall := alias_err2 F r m1 m2 _ _ (name ++ (⟨#[120]⟩ : ByteArray)) t1 name kindStr line _ (by rw [hB2.tape]; exact hF) hR2 none (lk1_ne _ hx0) rfl (lk1_self _ _) (list_no hx0.symm)
  refine hcall.mono ?_
  clear hcall
  rintro e w3 ⟨g2, tx2, rfl, hg2, hbg2, hC3⟩
  have hR3 := hR2.below hC3
  have hB3 := hB2.trans (hC3.mono hB2.size)
  clear hC3 hB2 hR2
  obtain ⟨a1, a2, a3, a4, a5, a6, a7, a8⟩ := hR3.one
  have a7 := a7 _ hx0
  clear a8 hR3
  go_wp2_with fail
  go_at_call 9
  refine (errat9 g2 line tx2 _ hbg2).mono ?_
  rintro e w3' ⟨rfl, rfl⟩
  clear hbg2
  go_wp2
  go_ret
  exact ⟨rfl, hB3⟩

set_option maxHeartbeats 1600000 in
theorem raw_ne (F : Interp) (name t1 t2 : ByteArray) (line : Int) (w : World) (hF : F.answers w.tape) (hn : name.size ≤ 140737488355328) (hne : t1 ≠ t2) :
    Calls Ybaf.prog 4 #[.string name, .string t1, .string t2, .int .i64 line] w fun e w' => e = .returned (.bool true) ∧ Below w.heap.size w w' := by
  have hq1 : (t1.toList == t2.toList) = false := list_no hne
  have hx0 : (name ++ (⟨#[120]⟩ : ByteArray)) ≠ name := add_x_ne name
  have hsum : ∀ wx, (Op.stringOp .add name ⟨#[120]⟩).run Ybaf.prog wx = .ok (.string (name ++ ⟨#[120]⟩)) wx := fun wx => run_string_add_sum (w := wx) name ⟨#[120]⟩ (by have h1 : (⟨#[120]⟩ : ByteArray).size = 1 := rfl; omega)
  go_enter Ybaf.func4, Ybaf.ntmps4
  go_wp2_with fail
  go_at_call 5
  refine (new5 _).mono ?_
  rintro e w0 ⟨rfl, hw0⟩
  have hR0 := made w
  have hB0 : Below w.heap.size w w0 := by subst hw0; exact ((((Below.refl _ _).alloc (Nat.le_refl _) _).alloc (by simp) _).alloc (by simp; omega) _)
  rw [← hw0] at hR0
  clear hw0
  obtain ⟨r, hr⟩ : ∃ r, w.heap.size + 1 + 1 = r := ⟨_, rfl⟩
  obtain ⟨m1, hm1⟩ : ∃ m1, w.heap.size = m1 := ⟨_, rfl⟩
  obtain ⟨m2, hm2⟩ : ∃ m2, w.heap.size + 1 = m2 := ⟨_, rfl⟩
  have hS : ∀ s ∈ [m1, m2], w.heap.size ≤ s := by simp; omega
  have hR0' : Rdr w0 r m1 m2 [] [] := by rw [← hr, ← hm1, ← hm2]; exact hR0
  clear hR0
  rw [hr]
  clear hr hm1 hm2
  go_wp2_with fail
  go_at_call 8
  refine (alias_new r m1 m2 [] [] name t1 _ _ _ hR0' rfl rfl).mono ?_
  rintro e w1 ⟨rfl, hR1, hC1⟩
  have hB1 := hC1.ofSelf hS hB0 (Nat.le_refl _)
  clear hC1 hB0 hR0'
  obtain ⟨a1, a2, a3, a4, a5, a6, a7, a8⟩ := hR1.one
  clear a7 a8
  go_wp2_with fail
  go_at_call 8
  clear a1 a2 a3 a4 a5 a6
  refine (alias_err1 F r m1 m2 _ _ name t2 t1 _ _ _ (by rw [hB1.tape]; exact hF) hR1 (lk1_self _ _) hq1).mono ?_
  rintro e w2 ⟨g, tx, rfl, hg, hbg, hC2⟩
  have hR2 := hR1.below hC2
  have hB2 := hB1.trans (hC2.mono hB1.size)
  clear hC2 hB1 hR1
  obtain ⟨a1, a2, a3, a4, a5, a6, a7, a8⟩ := hR2.one
  have a8 := a8 t2 (fun e => hne e.symm)
  go_wp2_with fail
  go_at_call 9
  refine (errat9 g line tx _ hbg).mono ?_
  rintro e w2' ⟨rfl, rfl⟩
  clear hbg
  clear a7
  go_wp2_with fail
  go_at_call 8
  clear a1 a2 a3 a4 a5 a6
  have hcall := alias_err2 F r m1 m2 _ _ (name ++ (⟨#[120]⟩ : ByteArray)) t1 name kindStr line _ (by rw [hB2.tape]; exact hF) hR2 none (lk1_ne _ hx0) rfl (lk1_self _ _) (list_no hx0.symm)
  refine hcall.mono ?_
  clear hcall
  rintro e w3 ⟨g2, tx2, rfl, hg2, hbg2, hC3⟩
  have hR3 := hR2.below hC3
  have hB3 := hB2.trans (hC3.mono hB2.size)
  clear hC3 hB2 hR2
  obtain ⟨a1, a2, a3, a4, a5, a6, a7, a8⟩ := hR3.one
  have a7 := a7 _ hx0
  clear a8 hR3
  go_wp2_with fail
  go_at_call 9
  refine (errat9 g2 line tx2 _ hbg2).mono ?_
  rintro e w3' ⟨rfl, rfl⟩
  clear hbg2
  go_wp2
  go_ret
  exact ⟨rfl, hB3⟩

end Go.Proofs.YbulkcicwFmt
