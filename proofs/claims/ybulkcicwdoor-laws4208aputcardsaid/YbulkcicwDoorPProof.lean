import Derived.Test.YbulkcicwDoorMProof
import Derived.Test.YbulkcicwDoorLawP
namespace Go.Proofs.YbulkcicwDoor
open Go.ChangeShapes Go.WideShapes Go.ChangeAt Go.RowKit
set_option linter.unusedVariables false

set_option maxRecDepth 1000000 in
theorem lawP_big (a0 : Option Addr) (len0 cap0 : Nat) (nw : Int) (w : World) (h : ¬ len0 ≤ 1024) (l0 : len0 ≤ maxLen) :
    Calls Ybad.prog 4 #[.slice a0 len0 cap0, .int .u8 nw] w fun e w' => e = .returned (.bool true) ∧ Below w.heap.size w w' := by
  unfold maxLen at l0
  have h3 : (1024 : Int) < (len0 : Int) := by omega
  go_enter Ybad.func4, Ybad.ntmps4
  go_wp2
  go_ret
  exact ⟨rfl, Below.refl _ _⟩

theorem walkP (a0 : Option Addr) (len0 cap0 : Nat) (z0 : List Int) (nw : Int) (w : World) (w0 : IsRow .u16 w a0 len0 cap0 z0) (w1 : (Lit.int .u8 nw).wf = true) (hT : Tab w) :
    Calls Ybad.prog 4 #[.slice a0 len0 cap0, .int .u8 nw] w fun e w' => e = .returned (.bool true) ∧ Below w.heap.size w w' := by
  obtain ⟨r0, q0, m0, k0⟩ := rd_of w0
  by_cases hbig : len0 ≤ 1024
  · have hb := bounds_u8 w1
    obtain ⟨n, rfl⟩ := Int.eq_ofNat_of_zero_le hb.1
    refine lawP_any a0 len0 cap0 n z0 w r0 (fun i => ?_) hbig (by omega) hT
    by_cases hi : i < z0.length
    · have := bounds_u16 (q0 (z0[i]) (List.getElem_mem hi))
      simpa [hi] using this
    · simp [hi]
  · exact lawP_big a0 len0 cap0 nw w hbig m0

set_option maxRecDepth 100000 in
theorem liftedP (os : Os) (started : os.Started) (H : Type) (enc : TypeId × Value → H) :
    ReturnsInHanded {} Ybad.checked os 4 .any (fun w args => (Rows.lawS4208APutSpec.pre enc Ybad.prog Ybad.f4 [] false w args ∧ laidMetH Ybad.prog laid1 w) ∧ sizedMet enc Ybad.prog Ybad.f4 (OpenSpec.ofChange Rows.lawS4208APutSpec) false w args)
      (Rows.lawS4208APutSpec.post enc Ybad.prog Ybad.f4 false true false false) := by
  refine returnsInHanded_of_change_and (C := Ybad.checked) (X := fun w _ => laidMetH Ybad.prog laid1 w) (fun _ _ _ hh h => h.of_heap hh) own started (by kernel_rfl) Ybad.func4
    (ChangeSpec.witness_shaped (enc := enc) (C := Ybad.checked) (os := os) (X := fun w _ => laidMetH Ybad.prog laid1 w) false (World.doorLaid Ybad.prog 400 os) #[.slice none 0 0, .int .u8 0] 8 rfl (World.shaped_of_RefB (by kernel_rfl) (by kernel_rfl)) (by kernel_rfl) (by kernel_rfl) (by kernel_rfl) (door_met os _)) ?_
  intro W base args ds gs before hval0 hW _ _ hL _
  have hval : ∀ (j : Nat) t v, Ybad.f4.params[j]? = some t → args[j]? = some v → Value.okWide Ybad.prog W .any base t v := hval0
  have hW' := hW
  obtain ⟨p, q, hA0, hV, rfl, hfz, hnd⟩ := hW
  have hA : DataW.TrodAll enc Ybad.prog W 0 (fun _ => true) true Ybad.f4.params.toList args.toList ds p := hA0
  rw [Ybad.params4] at hA hval
  obtain ⟨v0, vs0, d0, ds0, p0, q0, hargs, rfl, rfl, h0, r0⟩ := trodAll_cons hA
  obtain ⟨v1, vs1, d1, ds1, p1, q1, rfl, rfl, rfl, h1, r1⟩ := trodAll_cons r0
  obtain ⟨rfl, rfl, rfl⟩ := trodAll_nil r1
  obtain rfl : args = #[v0, v1] := by cases args; simp_all
  obtain ⟨rfl, rfl⟩ := trodVars_none hV
  obtain ⟨a0, len0, cap0, rfl⟩ := okWide_slice Ybad.underlying31 (hval 0 31 v0 rfl rfl)
  have k0 := h0
  have lt0 : ∀ x ∈ p0, x.block < W.heap.size := by obtain ⟨m, hm⟩ := k0; exact DataW.trod_lt m _ _ _ hm
  obtain ⟨z0, w0⟩ : ∃ zs, IsRow .u16 W a0 len0 cap0 zs := by
    obtain ⟨fuel, hf⟩ := h0
    rcases open_ints Ybad.underlying31 Ybad.underlying35 (by kernel_rfl) hf with ⟨hcs, _⟩ | ⟨x, l, c, zs, hcs, _, hl, hm, hz, _, hcell, hwz⟩
    · simp [Value.cells] at hcs
      obtain ⟨rfl, rfl, rfl⟩ := hcs
      exact ⟨[], .inl ⟨rfl, rfl, rfl, rfl⟩⟩
    · simp [Value.cells] at hcs
      obtain ⟨rfl, rfl, rfl⟩ := hcs
      exact ⟨zs, .inr ⟨_, rfl, hl, hm, by simpa using hz, hcell, hwz⟩⟩
  obtain ⟨a1, rfl, rfl, rfl, w1⟩ := open_int Ybad.underlying5 (hval 1 5 v1 rfl rfl) h1
  have hT := of_laid hL
  clear hA0 hval0
  refine (walkP a0 len0 cap0 z0 a1 W w0 w1 hT).mono fun e W' ⟨he, bel⟩ => ?_
  subst he
  exact ⟨_, rfl, _, _, _, [], _, [], hW', trodAll_mk1 (shut_bool Ybad.underlying4 _), (trodAll_cons_mk (Below.trod laidOut (by kernel_rfl) (of_decide_eq_true (by kernel_rfl)) k0 bel lt0) (trodAll_cons_mk (shut_int Ybad.underlying5 w1) trodAll_mk0)), rfl, bel.frame _, fun h => by cases h⟩

theorem putRow_holds : Rows.LawS4208APutSaid :=
  OpenClaim.holds_of_wide 4 Ybad.f4 rfl rfl rfl rfl rfl rfl rfl ⟨rfl, rfl, rfl, rfl, rfl⟩ rfl rfl rfl rfl rfl (by kernel_rfl) Ybad.func4 (by kernel_rfl)
    (of_decide_eq_true (by kernel_rfl)) (by unfold Func.isWrapper; first | (rw [if_pos (by decide +kernel)]; kernel_rfl) | (rw [if_neg (by decide +kernel)]; exact ⟨rfl, rfl⟩))
    (fun os started H enc _ => liftedP os started H enc)

theorem putCard_holds : Rows.LawS4208APutCardSaid :=
  Claim7.holds_tied_plain_at .later [] [.data] true (true, "6c7c0d2f277c0b9ba6599f828fe3ef03b2be793e6d7d36594f4cd02e999977b3") false
    putRow_holds (fun _ h => by cases h) (by kernel_rfl) (fun _ h => by cases h) lawS4208APut_row_tie rfl ⟨rfl, rfl⟩ (by kernel_rfl) rfl
    (fun f fn hf hfn => by
      obtain rfl : f = 4 := Option.some.inj ((show Ybad.prog.funcNamed Ybad.f4.name = some 4 by kernel_rfl).symm.trans hf) |>.symm
      obtain rfl : fn = Ybad.f4 := (Option.some.inj (Ybad.func4.symm.trans hfn)).symm
      exact ⟨by kernel_rfl, fun j t ht => by
        rw [Ybad.params4] at ht
        have hm : t ∈ [31, 5] := by simpa using Array.mem_of_getElem? ht
        have hall : ([31, 5].all fun u => !Ybad.prog.wantsStandIn u) = true := by kernel_rfl
        exact (show Ybad.prog.wantsStandIn t = false by simpa using List.all_eq_true.1 hall t hm)⟩)
    (by kernel_rfl)
#print axioms putCard_holds

end Go.Proofs.YbulkcicwDoor
