import Derived.Test.YbulkciemGreatDoorLaw
import Derived.Test.YbulkciemGreatDoorTie
import Derived.Test.YbulkciemGreatDoorCards
import Derived.ProofKit
import Derived.LaidMore
import Derived.OpenShut
import Derived.OpenVars
import Derived.ChangeOld
import Derived.ChangeVars
import Derived.Deep.Slices
import Derived.Stop.Joined
import Derived.Stop.LaidErr
import Derived.Lib.LaidTab
import Derived.SevenTiedAt
namespace Go.Proofs.YbulkciemGreatDoor
open Go.ChangeShapes Go.WideShapes Go.ChangeAt Go.RowKit
set_option linter.unusedVariables false
set_option linter.unusedSimpArgs false

theorem own : ownKnob Ybaz.prog.godebug = none := by kernel_rfl
theorem laidOut : laidOutB Ybaz.prog = true := by kernel_rfl
def laid1 : List (String × DataW Unit) := Rows.lawS4211BCompleteRow.laid
theorem gPow : Ybaz.prog.globalNamed "internal/strconv.uint64pow10" = some 1 := by kernel_rfl
theorem tPow : (Ybaz.prog.globals[1]?).map (·.type) = some 161 := by kernel_rfl
theorem cells29 : Ybaz.prog.cellsOf 29 = 2 := by kernel_rfl
theorem cells5 : Ybaz.prog.cellsOf 5 = 1 := by kernel_rfl
theorem cells4 : Ybaz.prog.cellsOf 4 = 1 := by kernel_rfl

theorem of_laid {W : World} (h : laidMetH Ybaz.prog laid1 W) : Tab10 W := by
  rw [MakeChecks.laidMetH_plain _ _ _ (by kernel_rfl)] at h
  have h2 := (laidMet.tail (laidMet.tail (show laidMet Ybaz.prog (_ :: _ :: (("internal/strconv.uint64pow10", Lib.tabData .u64 Lib.pow10Tab) :: _)) W from h)))
  exact Lib.tabIs_of_head gPow tPow Ybaz.underlying161 Ybaz.underlying115 (by kernel_rfl) (by kernel_rfl) h2

/-- The door's own heap meets the condition. -/
theorem door_met (os : Os) (args : Array Value) : laidMetH Ybaz.prog laid1 ((World.doorLaid Ybaz.prog 400 os).forCall (fun _ _ => 0) ⟨#[], args, []⟩).memory :=
  laidMetH_of_parts3 (fuel := 8) (laidMet_of_run' 8 (by kernel_rfl) (by kernel_rfl)) (by kernel_rfl) (by kernel_rfl)

theorem u8_bounds {x : Int} (h : (Lit.int .u8 x).wf = true) : 0 ≤ x ∧ x ≤ 255 := by
  simpa [Lit.wf, IntKind.min, IntKind.max, IntKind.signed, IntKind.bits] using h

set_option maxRecDepth 100000 in
theorem inp_of {H : Type} {enc : TypeId × Value → H} {W : World} {a : Option Addr} {len cap fuel : Nat} {base : Nat} {held : Bool} {x : DataW H × List MemPlace}
    (h : DataW.trod enc Ybaz.prog W base (fun _ => true) held fuel 22 [.slice a len cap] = some x) : ∃ bf ex, Inp W a len bf ex := by
  rcases Deep.open_slice Ybaz.underlying22 h with ⟨hc, _⟩ | ⟨x, l, c, m, n, D, Pl, hcs, _, hl, hm, hmm, _, hx⟩
  · simp at hc
    exact ⟨fun _ => 0, fun _ => false, .inl hc.2.1⟩
  · simp at hcs
    obtain ⟨rfl, rfl, rfl⟩ := hcs
    have hmm' : m = cap := by simpa using hmm
    have each : ∀ i, i < len → ∃ (p : Int) (q : Bool), W.cell? (x.add (i * 2)) = some (.int .u8 p) ∧ W.cell? (x.add (i * 2 + 1)) = some (.bool q) ∧ 0 ≤ p ∧ p ≤ 255 := by
      intro i hi
      obtain ⟨cs', h1, h2⟩ := hx i (by omega)
      rw [cells29] at h1
      obtain ⟨_, hlen, hcell⟩ := World.cells?_some h1
      obtain ⟨xs, k, hk, hxy, _, hxl, hf⟩ := DataW.trod_struct Ybaz.underlying29 h2
      match xs, hxl, cs', hlen with
      | [y0, y1], _, [v0, v1], _ =>
        have g0 := hf 0 _ rfl
        have g1 := hf 1 _ rfl
        simp [cells5, cells4] at g0 g1
        obtain ⟨p, hp, _, wp⟩ := DataW.trod_int Ybaz.underlying5 g0
        obtain ⟨q, hq, _⟩ := DataW.trod_bool Ybaz.underlying4 g1
        have e0 := hcell 0 (by omega)
        have e1 := hcell 1 (by omega)
        rw [Deep.add_add] at e0 e1
        simp at hp hq
        subst hp hq
        have bp := u8_bounds wp
        exact ⟨p, q, by simpa using e0, by simpa using e1, bp.1, bp.2⟩
    by_cases h0 : len = 0
    · exact ⟨fun _ => 0, fun _ => false, .inl h0⟩
    · obtain ⟨b, off, spot⟩ := x
      obtain ⟨p, q, e0, _⟩ := each 0 (by omega)
      have hspot : spot = none := by simpa [Addr.add] using World.cell?_spot e0
      subst hspot
      obtain ⟨bf, hbf⟩ : ∃ bf : Nat → Int, ∀ i, i < len → ∃ q : Bool, W.cell? ((⟨b, off, none⟩ : Addr).add (i * 2)) = some (.int .u8 (bf i)) ∧ W.cell? ((⟨b, off, none⟩ : Addr).add (i * 2 + 1)) = some (.bool q) ∧ 0 ≤ bf i ∧ bf i ≤ 255 := by
        refine ⟨fun i => if h : i < len then (each i h).choose else 0, fun i hi => ?_⟩
        simp only [dif_pos hi]
        exact (each i hi).choose_spec
      obtain ⟨ex, hex⟩ : ∃ ex : Nat → Bool, ∀ i, i < len → W.cell? ((⟨b, off, none⟩ : Addr).add (i * 2)) = some (.int .u8 (bf i)) ∧ W.cell? ((⟨b, off, none⟩ : Addr).add (i * 2 + 1)) = some (.bool (ex i)) ∧ 0 ≤ bf i ∧ bf i ≤ 255 := by
        refine ⟨fun i => if h : i < len then (hbf i h).choose else false, fun i hi => ?_⟩
        simp only [dif_pos hi]
        exact (hbf i hi).choose_spec
      refine ⟨bf, ex, .inr ⟨b, off, rfl, World.block_lt_of_cell? W ⟨b, off, none⟩ (by simpa [Addr.add] using e0), fun i hi => ?_⟩⟩
      obtain ⟨h1, h2, h3⟩ := hex i hi
      rw [Addr.add_lit] at h1 h2
      exact ⟨h1, h2, h3⟩

set_option maxRecDepth 1000000 in
theorem law_many (n icap : Nat) (ia : Option Addr) (a : Int) (w : World) (h : 300 < n) (hm : n ≤ maxLen) :
    Calls Ybaz.prog 3 #[.slice ia n icap, .int .u8 a] w fun e w' => e = .returned (.bool true) ∧ Below w.heap.size w w' := by
  unfold maxLen at hm
  have h3 : (300 : Int) < (n : Int) := by omega
  go_enter Ybaz.func3, Ybaz.ntmps3
  go_wp2
  go_ret
  exact ⟨rfl, (Below.refl _ _).alloc (Nat.le_refl _) _⟩
theorem walk (n icap : Nat) (ia : Option Addr) (bf : Nat → Int) (ex : Nat → Bool) (a : Int) (w : World) (hI : Inp w ia n bf ex) (hT : Tab10 w) (hm : n ≤ maxLen) (ha : 0 ≤ a ∧ a ≤ 255) :
    Calls Ybaz.prog 3 #[.slice ia n icap, .int .u8 a] w fun e w' => e = .returned (.bool true) ∧ Below w.heap.size w w' := by
  by_cases h : n ≤ 300
  · exact law_few n icap ia bf ex a w hI hT h ha.1 ha.2
  · exact law_many n icap ia a w (by omega) hm

set_option maxRecDepth 100000 in
theorem lifted (os : Os) (started : os.Started) (H : Type) (enc : TypeId × Value → H) :
    ReturnsInHanded {} Ybaz.checked os 3 .any (fun w args => (Rows.lawS4211BCompleteSpec.pre enc Ybaz.prog Ybaz.f3 [] false w args ∧ laidMetH Ybaz.prog laid1 w) ∧ sizedMet enc Ybaz.prog Ybaz.f3 (OpenSpec.ofChange Rows.lawS4211BCompleteSpec) false w args)
      (Rows.lawS4211BCompleteSpec.post enc Ybaz.prog Ybaz.f3 false true false false) := by
  refine returnsInHanded_of_change_and (C := Ybaz.checked) (X := fun w _ => laidMetH Ybaz.prog laid1 w) (fun _ _ _ hh h => h.of_heap hh) own started (by kernel_rfl) Ybaz.func3
    (ChangeSpec.witness_shaped (enc := enc) (C := Ybaz.checked) (os := os) (X := fun w _ => laidMetH Ybaz.prog laid1 w) false (World.doorLaid Ybaz.prog 400 os) #[.slice none 0 0, .int .u8 0] 8 rfl (World.shaped_of_RefB (by kernel_rfl) (by kernel_rfl)) (by kernel_rfl) (by kernel_rfl) (by kernel_rfl) (door_met os _)) ?_
  intro W base args ds gs before hval0 hW _ _ hL _
  have hval : ∀ (j : Nat) t v, Ybaz.f3.params[j]? = some t → args[j]? = some v → Value.okWide Ybaz.prog W .any base t v := hval0
  have hW' := hW
  obtain ⟨p, q, hA0, hV, rfl, hfz, hnd⟩ := hW
  have hA : DataW.TrodAll enc Ybaz.prog W 0 (fun _ => true) true Ybaz.f3.params.toList args.toList ds p := hA0
  rw [Ybaz.params3] at hA hval
  obtain ⟨v0, vs0, d0, ds0, p0, q0, hargs, rfl, rfl, h0, r0⟩ := trodAll_cons hA
  obtain ⟨v1, vs1, d1, ds1, p1, q1, rfl, rfl, rfl, h1, r1⟩ := trodAll_cons r0
  obtain ⟨rfl, rfl, rfl⟩ := trodAll_nil r1
  obtain rfl : args = #[v0, v1] := by cases args; simp_all
  obtain ⟨gv, tv, csv, fv, dv, pv, hgs, _⟩ := trodVars_one hV
  subst hgs
  obtain ⟨a0, len0, cap0, rfl⟩ := okWide_slice Ybaz.underlying22 (hval 0 22 v0 rfl rfl)
  have k0 := h0
  have k1 := h1
  have lt0 : ∀ x ∈ p0, x.block < W.heap.size := by obtain ⟨m, hm⟩ := k0; exact DataW.trod_lt m _ _ _ hm
  have lt1 : ∀ x ∈ p1, x.block < W.heap.size := by obtain ⟨m, hm⟩ := k1; exact DataW.trod_lt m _ _ _ hm
  obtain ⟨bf, ex, hI⟩ : ∃ bf ex, Inp W a0 len0 bf ex := by
    obtain ⟨fuel, hf⟩ := h0
    exact inp_of hf
  have hml : len0 ≤ maxLen := by
    obtain ⟨fuel, hf⟩ := h0
    rcases Deep.open_slice Ybaz.underlying22 hf with ⟨hc, _⟩ | ⟨x, l, c, m, n, D, Pl, hcs, _, hl, hm, hmm, _, hx⟩
    · simp [Value.cells] at hc
      rw [hc.2.1]
      exact Nat.zero_le _
    · simp [Value.cells] at hcs
      obtain ⟨rfl, rfl, rfl⟩ := hcs
      omega
  obtain ⟨z1, rfl, rfl, rfl, w1⟩ := open_int Ybaz.underlying5 (hval 1 5 v1 rfl rfl) h1
  have hT := of_laid hL
  clear hA0 hval0
  refine (walk len0 cap0 a0 bf ex z1 W hI hT hml (u8_bounds w1)).mono fun e W' ⟨he, bel⟩ => ?_
  subst he
  exact ⟨_, rfl, _, _, _, [], _, _, hW', trodAll_mk1 (shut_bool Ybaz.underlying4 _), (trodAll_cons_mk (Below.trod laidOut (by kernel_rfl) (of_decide_eq_true (by kernel_rfl)) k0 bel lt0) (trodAll_cons_mk (Below.trod laidOut (by kernel_rfl) (of_decide_eq_true (by kernel_rfl)) k1 bel lt1) trodAll_mk0)), Below.trodVars laidOut bel (by kernel_rfl) hV, bel.frame _, fun h => by cases h⟩

theorem completeRow_holds : Rows.LawS4211BCompleteSaid :=
  OpenClaim.holds_of_wide 3 Ybaz.f3 rfl rfl rfl rfl rfl rfl rfl ⟨rfl, rfl, rfl, rfl, rfl⟩ rfl rfl rfl rfl rfl (by kernel_rfl) Ybaz.func3 (by kernel_rfl)
    (of_decide_eq_true (by kernel_rfl)) (by unfold Func.isWrapper; first | (rw [if_pos (by decide +kernel)]; kernel_rfl) | (rw [if_neg (by decide +kernel)]; exact ⟨rfl, rfl⟩))
    (fun os started H enc _ => lifted os started H enc)

theorem completeCard_holds : Rows.LawS4211BCompleteCardSaid :=
  Claim7.holds_tied_plain_at .later [] [.data, .data, .data, .data] true (true, "e90d8d64f0e94c94a0d2266944cbc77c77cd163ab9caed3bb2ea0d33f267009b") false
    completeRow_holds (fun _ h => by cases h) (by kernel_rfl) (fun _ h => by cases h) lawS4211BComplete_row_tie rfl ⟨rfl, rfl⟩ (by kernel_rfl) rfl
    (fun f fn hf hfn => by
      obtain rfl : f = 3 := Option.some.inj ((show Ybaz.prog.funcNamed Ybaz.f3.name = some 3 by kernel_rfl).symm.trans hf) |>.symm
      obtain rfl : fn = Ybaz.f3 := (Option.some.inj (Ybaz.func3.symm.trans hfn)).symm
      exact ⟨by kernel_rfl, fun j t ht => by
        rw [Ybaz.params3] at ht
        have hm : t ∈ [22, 5] := by simpa using Array.mem_of_getElem? ht
        have hall : ([22, 5].all fun u => !Ybaz.prog.wantsStandIn u) = true := by kernel_rfl
        exact (show Ybaz.prog.wantsStandIn t = false by simpa using List.all_eq_true.1 hall t hm)⟩)
    (by kernel_rfl)
#print axioms completeCard_holds

end Go.Proofs.YbulkciemGreatDoor
