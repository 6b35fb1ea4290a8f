import Derived.Test.YbulkcicwDoorLawM
namespace Go.Proofs.YbulkcicwDoor
open Go.RowKit
set_option linter.unusedVariables false


theorem or_bit (x k : Nat) (hx : x < 18446744073709551616) (hk : k < 64) : bits BinOp.or IntKind.u64 (x : Int) (IntKind.u64.wrap (2 ^ k)) = ((x ||| 2 ^ k : Nat) : Int) ∧ x ||| 2 ^ k < 18446744073709551616 := by
  have h2 : 2 ^ k < 2 ^ 64 := Nat.pow_lt_pow_right (by decide) hk
  have e : IntKind.u64.wrap (2 ^ k) = ((2 ^ k : Nat) : Int) := by
    rw [IntKind.wrap_u64]
    have e2 : ((2 : Int) ^ k) = ((2 ^ k : Nat) : Int) := by rw [Int.natCast_pow]; rfl
    rw [e2]
    exact Int.emod_eq_of_lt (Int.natCast_nonneg _) (Int.ofNat_lt.2 h2)
  rw [e, bits_or_u64_nat x (2 ^ k) hx (by omega)]
  exact ⟨rfl, Nat.or_lt_two_pow (n := 64) (by omega) (by omega)⟩

set_option maxHeartbeats 800000 in
theorem put_walk (R tl tc c x : Nat) (w : World) (hc : c < 64 * tl) (htl : tl ≤ 8) (hx : x < 18446744073709551616) (hcell : w.cell? ⟨R, c / 64, none⟩ = some (.int .u64 (x : Int))) (hfz : w.frozen? ⟨R, c / 64, none⟩ = false) :
    Calls Ybad.prog 7 #[.slice (some ⟨R, 0, none⟩) tl tc, .int .i32 (c : Int)] w fun e w' => ∃ b n, e = .returned (.bool b) ∧ w' = (w.setCell ⟨R, c / 64, none⟩ (.int .u64 ((x ||| 2 ^ (c % 64) : Nat) : Int))).drewN n := by
  have h1 : ((c / 64 : Nat) : Int) < (tl : Int) := by omega
  have h2 : (c : Int) / 64 < (tl : Int) := by omega
  have HE := hide (or_bit x (c % 64) hx (by omega)).1
  go_enter Ybad.func7, Ybad.ntmps7
  go_wp2
  go_quiet (fail)
  go_wp2
  go_ret
  exact ⟨_, _, rfl, by rw [HE.out]; rfl⟩

/-- 's.put(c)': bit c is set. -/
theorem put_any (R tl tc c : Nat) (ws : List Nat) (w : World) (hc : c < 64 * tl) (htl : tl ≤ 8) (hlen : ws.length = tl) (hws : ∀ i : Nat, ws[i]?.getD 0 < 18446744073709551616) (hR : KB .u64 28 w R (casts ws)) :
    Calls Ybad.prog 7 #[.slice (some ⟨R, 0, none⟩) tl tc, .int .i32 (c : Int)] w fun e w' => ∃ b, e = .returned (.bool b) ∧ KB .u64 28 w' R (casts (ws.set (c / 64) (ws[c / 64]?.getD 0 ||| 2 ^ (c % 64)))) ∧ Chg [R] w w' := by
  have h1 := hR.cell (c / 64) (by simp [casts]; omega)
  rw [casts_at] at h1
  refine (put_walk R tl tc c _ w hc htl (hws _) h1 (Blk.frozen hR _)).mono ?_
  rintro e w' ⟨b, n, rfl, rfl⟩
  refine ⟨b, rfl, ?_, ?_⟩
  · have := KB.put hR (c / 64) ((ws[c / 64]?.getD 0 ||| 2 ^ (c % 64) : Nat) : Int)
    unfold casts at this ⊢
    rw [List.map_set]
    exact this
  · have a1 : Chg [R] w (w.setCell ⟨R, c / 64, none⟩ (.int .u64 ((ws[c / 64]?.getD 0 ||| 2 ^ (c % 64) : Nat) : Int))) := chg_setCell (by simp) _
    exact a1.trans ⟨rfl, rfl, rfl, Nat.le_refl _, fun _ _ _ => rfl⟩

theorem Ybad.info24 : (Ybad.prog.info? 24).map (fun i => (i.zero, i.size, i.bytes)) = some (some (.slice none 0 0), 1, 24) := by kernel_rfl

set_option maxHeartbeats 800000 in
theorem newSets_any (tl : Nat) (w : World) (h1 : 1 ≤ tl) (h8 : tl ≤ 8) :
    Calls Ybad.prog 6 #[.int .i64 1, .int .i64 (tl : Int)] w fun e w' => e = .returned (.slice (some ⟨w.heap.size + 1, 0, none⟩) 1 1) ∧
      w'.cell? ⟨w.heap.size + 1, 0, none⟩ = some (.slice (some ⟨w.heap.size, 0, none⟩) tl tl) ∧ KB .u64 28 w' w.heap.size (List.replicate tl 0) ∧ Below w.heap.size w w' ∧ w'.heap.size = w.heap.size + 2 := by
  have hmk := run_make_row' (P := Ybad.prog) 24 28 (.int .u64 0) 8 Ybad.underlying24 Ybad.info28 rfl .i64 .i64 tl (by omega) (by omega)
  have hmk2 := run_make_row' (P := Ybad.prog) 32 24 (.slice none 0 0) 24 Ybad.underlying32 Ybad.info24 rfl .i64 .i64 1 (by omega) (by omega)
  rw [show (((1 : Nat)) : Int) = 1 from rfl] at hmk2
  go_enter Ybad.func6, Ybad.ntmps6
  go_wp2_with fail
  clear hmk hmk2
  rename_i K0 hK0
  have HK0 := hide hK0
  clear hK0
  have k1 : KB .u64 28 ((w.alloc (.cells (madeCells #[.int .u64 0] tl) 28)).alloc (.cells (madeCells #[.slice none 0 0] 1) 24)) w.heap.size (List.replicate tl 0) := Blk.alloc (KB.made .u64 28 w tl) _
  have k2 : Blk ((w.alloc (.cells (madeCells #[.int .u64 0] tl) 28)).alloc (.cells (madeCells #[.slice none 0 0] 1) 24)) (w.heap.size + 1) 24 [.slice none 0 0] := by
    have := Blk.new (w.alloc (.cells (madeCells #[.int .u64 0] tl) 28)) 24 [.slice none 0 0]
    have e : madeCells #[Value.slice none 0 0] 1 = #[Value.slice none 0 0] := Array.toList_inj.1 (by rw [toList_madeCells_one]; rfl)
    rw [e]
    simpa using this
  have k3 : Below w.heap.size w ((w.alloc (.cells (madeCells #[.int .u64 0] tl) 28)).alloc (.cells (madeCells #[.slice none 0 0] 1) 24)) := ((Below.refl _ _).alloc (Nat.le_refl _) _).alloc (by simp) _
  have k4 : ((w.alloc (.cells (madeCells #[.int .u64 0] tl) 28)).alloc (.cells (madeCells #[.slice none 0 0] 1) 24)).heap.size = w.heap.size + 2 := by simp
  obtain ⟨W0, hW0⟩ : ∃ W0, ((w.alloc (.cells (madeCells #[.int .u64 0] tl) 28)).alloc (.cells (madeCells #[.slice none 0 0] 1) 24)) = W0 := ⟨_, rfl⟩
  rw [hW0] at k1 k2 k3 k4 ⊢
  clear hW0
  go_loopg [16] 1 (fun g v16 wx => (g = 1 ∧ v16 = .int .i64 0 ∧ wx = W0) ∨ (g = 0 ∧ v16 = .int .i64 1 ∧ wx = W0.setCell ⟨w.heap.size + 1, 0, none⟩ (.slice (some ⟨w.heap.size, 0, none⟩) tl tl)))
  case atStart => go_light; exact .inl ⟨rfl, rfl, rfl⟩
  case round =>
    rename World => w2
    rename_i J2 K2 hJ2 hK2
    rcases hrel with ⟨rfl, rfl, rfl⟩ | ⟨rfl, rfl, rfl⟩
    · have c1 : w2.cell? ⟨w.heap.size + 1, 0, none⟩ = some (.slice none 0 0) := k2.cell 0
      have c2 := k2.frozen 0
      have h1' : (1 : Int) ≤ (tl : Int) := by omega
      clear k1 k2 k3 k4
      go_wp2
      go_roundg 0
      case measure => go_light; omega
      case rel => go_light; exact .inr ⟨rfl, rfl, rfl⟩
    · clear hJ2 hK2
      have hK0 := HK0.out
      clear HK0
      go_wp2
      go_ret
      refine ⟨rfl, (k2.put 0 _).cell 0, Blk.other k1 (by omega) _ _, k3.setCell (by show w.heap.size ≤ w.heap.size + 1; omega) _, by simpa using k4⟩

end Go.Proofs.YbulkcicwDoor
