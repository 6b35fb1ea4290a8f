import Derived.Test.YbulkcicwDoorLawM
import Derived.Test.YbulkcicwDoorTie
import Derived.Test.YbulkcicwDoorCards
import Derived.ProofKit
import Derived.LaidMore
import Derived.OpenShut
import Derived.ChangeOld
import Derived.Stop.Joined
import Derived.Lib.LaidTab
import Derived.SevenTiedAt
namespace Go.Proofs.YbulkcicwDoor
open Go.ChangeShapes Go.WideShapes Go.ChangeAt Go.RowKit
set_option linter.unusedVariables false

theorem own : ownKnob Ybad.prog.godebug = none := by kernel_rfl
theorem laidOut : laidOutB Ybad.prog = true := by kernel_rfl
def laid1 : List (String × DataW Unit) := Rows.lawS4208AMembersRow.laid
/-- The listed variable's name, off the given row. -/
def tabName : String := (Rows.lawS4208AMembersRow.laid.map (·.1)).headD ""
theorem gTab : Ybad.prog.globalNamed tabName = some 0 := by kernel_rfl
theorem tTab : (Ybad.prog.globals[0]?).map (·.type) = some 43 := by kernel_rfl

theorem of_laid {W : World} (h : laidMetH Ybad.prog laid1 W) : Tab W := by
  rw [MakeChecks.laidMetH_plain _ _ _ (by kernel_rfl)] at h
  have hT := Lib.tabIs_of_head (k := .u8) (zs := Lib.deBruijn64tab.map fun x : Nat => (x : Int)) (rest := []) gTab tTab Ybad.underlying43 Ybad.underlying5 (by kernel_rfl) (by kernel_rfl) (show laidMet Ybad.prog ((tabName, Lib.tabData .u8 (Lib.deBruijn64tab.map fun x : Nat => (x : Int))) :: []) W from h)
  intro j hj
  have := hT.cell gTab j (by simpa [Lib.deBruijn64tab] using hj)
  rw [this]
  congr 2
  simp [show j < Lib.deBruijn64tab.length from hj]

/-- The door's own heap meets the condition. -/
theorem door_met (os : Os) (args : Array Value) : laidMetH Ybad.prog laid1 ((World.doorLaid Ybad.prog 400 os).forCall (fun _ _ => 0) ⟨#[], args, []⟩).memory :=
  laidMetH_of_parts3 (fuel := 8) (laidMet_of_run' 8 (by kernel_rfl) (by kernel_rfl)) (by kernel_rfl) (by kernel_rfl)

/-- What the walk is told of a slice of integers that came in. -/
def IsRow (k : IntKind) (w : World) (a : Option Addr) (len cap : Nat) (zs : List Int) : Prop :=
  (a = none ∧ len = 0 ∧ cap = 0 ∧ zs = []) ∨
  ∃ x, a = some x ∧ len ≤ cap ∧ cap ≤ maxLen ∧ zs.length = cap ∧ (∀ i, i < zs.length → w.cell? (x.add i) = some (.int k (zs.getD i 0))) ∧ ∀ n ∈ zs, (Lit.int k n).wf = true

theorem rd_of {k : IntKind} {w : World} {a : Option Addr} {len cap : Nat} {zs : List Int} (h : IsRow k w a len cap zs) : Rd k w a len zs ∧ (∀ n ∈ zs, (Lit.int k n).wf = true) ∧ len ≤ maxLen ∧ len ≤ zs.length := by
  rcases h with ⟨rfl, rfl, rfl, rfl⟩ | ⟨x, rfl, h1, h2, h3, h4, h5⟩
  · exact ⟨.inl rfl, by simp, by simp [maxLen], by simp⟩
  · refine ⟨?_, h5, Nat.le_trans h1 h2, by omega⟩
    by_cases h0 : len = 0
    · exact .inl h0
    · obtain ⟨b, off, spot⟩ := x
      have hspot : spot = none := by simpa [Addr.add] using World.cell?_spot (h4 0 (by omega))
      subst hspot
      refine .inr ⟨b, off, rfl, ?_, fun i hi => by rw [← Addr.add_lit]; exact h4 i (by omega)⟩
      exact World.block_lt_of_cell? w ⟨b, off, none⟩ (by simpa [Addr.add] using h4 0 (by omega))

/-- The words as natural numbers. -/
theorem words_of {w : World} {a : Option Addr} {len : Nat} {zs : List Int} (h : Rd .u64 w a len zs) (hw : ∀ n ∈ zs, (Lit.int .u64 n).wf = true) (hl : len ≤ zs.length) :
    ∃ ws : List Nat, Rd .u64 w a len (casts ws) ∧ ws.length = len ∧ ∀ i : Nat, ws[i]?.getD 0 < 18446744073709551616 := by
  refine ⟨(zs.take len).map Int.toNat, ?_, by simp; omega, fun i => ?_⟩
  · rcases h with h | ⟨b, off, rfl, hb, hc⟩
    · exact .inl h
    · refine .inr ⟨b, off, rfl, hb, fun i hi => ?_⟩
      rw [hc i hi, casts_at]
      have hm := bounds_u64 (hw (zs[i]'(by omega)) (List.getElem_mem _))
      have : ((zs.take len).map Int.toNat)[i]?.getD 0 = (zs[i]'(by omega)).toNat := by simp [hi, show i < zs.length by omega]
      rw [this, Int.toNat_of_nonneg hm.1]
      simp [show i < zs.length by omega]
  · by_cases hi : i < ((zs.take len).map Int.toNat).length
    · simp only [List.length_map, List.length_take] at hi
      have hm := bounds_u64 (hw (zs[i]'(by omega)) (List.getElem_mem _))
      have : ((zs.take len).map Int.toNat)[i]?.getD 0 = (zs[i]'(by omega)).toNat := by simp [show i < len by omega, show i < zs.length by omega]
      rw [this]
      omega
    · rw [List.getElem?_eq_none (by omega)]
      simp

set_option maxRecDepth 1000000 in
theorem lawM_big (a0 : Option Addr) (len0 cap0 : Nat) (a1 : Option Addr) (len1 cap1 : Nat) (w : World) (h : ¬ (len0 ≤ 1024 ∧ len1 ≤ 1024)) (l0 : len0 ≤ maxLen) (l1 : len1 ≤ maxLen) :
    Calls Ybad.prog 3 #[.slice a0 len0 cap0, .slice a1 len1 cap1] w fun e w' => e = .returned (.bool true) ∧ Below w.heap.size w w' := by
  unfold maxLen at l0 l1
  by_cases h0 : len0 ≤ 1024
  · have h3 : (1024 : Int) < (len1 : Int) := by omega
    have h0' : (len0 : Int) ≤ 1024 := by omega
    go_enter Ybad.func3, Ybad.ntmps3
    go_wp2
    go_ret
    exact ⟨rfl, Below.refl _ _⟩
  · have h3 : (1024 : Int) < (len0 : Int) := by omega
    go_enter Ybad.func3, Ybad.ntmps3
    go_wp2
    go_ret
    exact ⟨rfl, Below.refl _ _⟩

theorem walkM (a0 : Option Addr) (len0 cap0 : Nat) (z0 : List Int) (a1 : Option Addr) (len1 cap1 : Nat) (z1 : List Int) (w : World) (w0 : IsRow .u64 w a0 len0 cap0 z0) (w1 : IsRow .i32 w a1 len1 cap1 z1) (hT : Tab w) :
    Calls Ybad.prog 3 #[.slice a0 len0 cap0, .slice a1 len1 cap1] w fun e w' => e = .returned (.bool true) ∧ Below w.heap.size w w' := by
  obtain ⟨r0, q0, m0, k0⟩ := rd_of w0
  obtain ⟨r1, q1, m1, k1⟩ := rd_of w1
  by_cases hbig : len0 ≤ 1024 ∧ len1 ≤ 1024
  · obtain ⟨ws, hr, hlen, h64⟩ := words_of r0 q0 k0
    exact lawM_any a0 len0 cap0 ws a1 len1 cap1 z1 w hr hlen h64 r1 hT hbig.1 hbig.2
  · exact lawM_big a0 len0 cap0 a1 len1 cap1 w hbig m0 m1

set_option maxRecDepth 100000 in
theorem liftedM (os : Os) (started : os.Started) (H : Type) (enc : TypeId × Value → H) :
    ReturnsInHanded {} Ybad.checked os 3 .any (fun w args => (Rows.lawS4208AMembersSpec.pre enc Ybad.prog Ybad.f3 [] false w args ∧ laidMetH Ybad.prog laid1 w) ∧ sizedMet enc Ybad.prog Ybad.f3 (OpenSpec.ofChange Rows.lawS4208AMembersSpec) false w args)
      (Rows.lawS4208AMembersSpec.post enc Ybad.prog Ybad.f3 false true false false) := by
  refine returnsInHanded_of_change_and (C := Ybad.checked) (X := fun w _ => laidMetH Ybad.prog laid1 w) (fun _ _ _ hh h => h.of_heap hh) own started (by kernel_rfl) Ybad.func3
    (ChangeSpec.witness_shaped (enc := enc) (C := Ybad.checked) (os := os) (X := fun w _ => laidMetH Ybad.prog laid1 w) false (World.doorLaid Ybad.prog 400 os) #[.slice none 0 0, .slice none 0 0] 8 rfl (World.shaped_of_RefB (by kernel_rfl) (by kernel_rfl)) (by kernel_rfl) (by kernel_rfl) (by kernel_rfl) (door_met os _)) ?_
  intro W base args ds gs before hval0 hW _ _ hL _
  have hval : ∀ (j : Nat) t v, Ybad.f3.params[j]? = some t → args[j]? = some v → Value.okWide Ybad.prog W .any base t v := hval0
  have hW' := hW
  obtain ⟨p, q, hA0, hV, rfl, hfz, hnd⟩ := hW
  have hA : DataW.TrodAll enc Ybad.prog W 0 (fun _ => true) true Ybad.f3.params.toList args.toList ds p := hA0
  rw [Ybad.params3] at hA hval
  obtain ⟨v0, vs0, d0, ds0, p0, q0, hargs, rfl, rfl, h0, r0⟩ := trodAll_cons hA
  obtain ⟨v1, vs1, d1, ds1, p1, q1, rfl, rfl, rfl, h1, r1⟩ := trodAll_cons r0
  obtain ⟨rfl, rfl, rfl⟩ := trodAll_nil r1
  obtain rfl : args = #[v0, v1] := by cases args; simp_all
  obtain ⟨rfl, rfl⟩ := trodVars_none hV
  obtain ⟨a0, len0, cap0, rfl⟩ := okWide_slice Ybad.underlying22 (hval 0 22 v0 rfl rfl)
  have k0 := h0
  have lt0 : ∀ x ∈ p0, x.block < W.heap.size := by obtain ⟨m, hm⟩ := k0; exact DataW.trod_lt m _ _ _ hm
  obtain ⟨z0, w0⟩ : ∃ zs, IsRow .u64 W a0 len0 cap0 zs := by
    obtain ⟨fuel, hf⟩ := h0
    rcases open_ints Ybad.underlying22 Ybad.underlying28 (by kernel_rfl) hf with ⟨hcs, _⟩ | ⟨x, l, c, zs, hcs, _, hl, hm, hz, _, hcell, hwz⟩
    · simp [Value.cells] at hcs
      obtain ⟨rfl, rfl, rfl⟩ := hcs
      exact ⟨[], .inl ⟨rfl, rfl, rfl, rfl⟩⟩
    · simp [Value.cells] at hcs
      obtain ⟨rfl, rfl, rfl⟩ := hcs
      exact ⟨zs, .inr ⟨_, rfl, hl, hm, by simpa using hz, hcell, hwz⟩⟩
  obtain ⟨a1, len1, cap1, rfl⟩ := okWide_slice Ybad.underlying23 (hval 1 23 v1 rfl rfl)
  have k1 := h1
  have lt1 : ∀ x ∈ p1, x.block < W.heap.size := by obtain ⟨m, hm⟩ := k1; exact DataW.trod_lt m _ _ _ hm
  obtain ⟨z1, w1⟩ : ∃ zs, IsRow .i32 W a1 len1 cap1 zs := by
    obtain ⟨fuel, hf⟩ := h1
    rcases open_ints Ybad.underlying23 Ybad.underlying21 (by kernel_rfl) hf with ⟨hcs, _⟩ | ⟨x, l, c, zs, hcs, _, hl, hm, hz, _, hcell, hwz⟩
    · simp [Value.cells] at hcs
      obtain ⟨rfl, rfl, rfl⟩ := hcs
      exact ⟨[], .inl ⟨rfl, rfl, rfl, rfl⟩⟩
    · simp [Value.cells] at hcs
      obtain ⟨rfl, rfl, rfl⟩ := hcs
      exact ⟨zs, .inr ⟨_, rfl, hl, hm, by simpa using hz, hcell, hwz⟩⟩
  have hT := of_laid hL
  clear hA0 hval0
  refine (walkM a0 len0 cap0 z0 a1 len1 cap1 z1 W w0 w1 hT).mono fun e W' ⟨he, bel⟩ => ?_
  subst he
  exact ⟨_, rfl, _, _, _, [], _, [], hW', trodAll_mk1 (shut_bool Ybad.underlying4 _), (trodAll_cons_mk (Below.trod laidOut (by kernel_rfl) (of_decide_eq_true (by kernel_rfl)) k0 bel lt0) (trodAll_cons_mk (Below.trod laidOut (by kernel_rfl) (of_decide_eq_true (by kernel_rfl)) k1 bel lt1) trodAll_mk0)), rfl, bel.frame _, fun h => by cases h⟩

theorem membersRow_holds : Rows.LawS4208AMembersSaid :=
  OpenClaim.holds_of_wide 3 Ybad.f3 rfl rfl rfl rfl rfl rfl rfl ⟨rfl, rfl, rfl, rfl, rfl⟩ rfl rfl rfl rfl rfl (by kernel_rfl) Ybad.func3 (by kernel_rfl)
    (of_decide_eq_true (by kernel_rfl)) (by unfold Func.isWrapper; first | (rw [if_pos (by decide +kernel)]; kernel_rfl) | (rw [if_neg (by decide +kernel)]; exact ⟨rfl, rfl⟩))
    (fun os started H enc _ => liftedM os started H enc)

theorem membersCard_holds : Rows.LawS4208AMembersCardSaid :=
  Claim7.holds_tied_plain_at .later [] [.data] true (true, "6c7c0d2f277c0b9ba6599f828fe3ef03b2be793e6d7d36594f4cd02e999977b3") false
    membersRow_holds (fun _ h => by cases h) (by kernel_rfl) (fun _ h => by cases h) lawS4208AMembers_row_tie rfl ⟨rfl, rfl⟩ (by kernel_rfl) rfl
    (fun f fn hf hfn => by
      obtain rfl : f = 3 := Option.some.inj ((show Ybad.prog.funcNamed Ybad.f3.name = some 3 by kernel_rfl).symm.trans hf) |>.symm
      obtain rfl : fn = Ybad.f3 := (Option.some.inj (Ybad.func3.symm.trans hfn)).symm
      exact ⟨by kernel_rfl, fun j t ht => by
        rw [Ybad.params3] at ht
        have hm : t ∈ [22, 23] := by simpa using Array.mem_of_getElem? ht
        have hall : ([22, 23].all fun u => !Ybad.prog.wantsStandIn u) = true := by kernel_rfl
        exact (show Ybad.prog.wantsStandIn t = false by simpa using List.all_eq_true.1 hall t hm)⟩)
    (by kernel_rfl)
#print axioms membersCard_holds

end Go.Proofs.YbulkcicwDoor
