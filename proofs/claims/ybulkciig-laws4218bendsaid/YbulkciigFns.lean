import Derived.Test.YbulkciigMaps
import Derived.WalkSpells
import Derived.Sort.AtCall
import Derived.Deep.RegionHeld3
import Derived.Defers
namespace Go.Proofs.Ybulkciig
open Go.RowKit Go.MuLone Go.Conc.Locks
set_option linter.unusedVariables false

set_option maxHeartbeats 800000 in
set_option maxRecDepth 100000 in
theorem itry9 (a : Addr) (w : World) (hc : w.cell? a = some (.int .i32 0)) (hz : w.frozen? a = false) :
    Calls Yba.prog 9 #[.pointer (some a)] w fun e w' => e = .returned (.bool true) ∧ w' = w.setCell a (.int .i32 1) := by
  have hd := disable Yba.muLib
  have he := enable Yba.muLib
  have ha := acquire Yba.muLib
  have hcas := run_call_cas_hit (P := Yba.prog) Yba.muLib.f_cas32 (by kernel_rfl) (by kernel_rfl) (by kernel_rfl) .i32 (by kernel_rfl) (y := 1) hc hz
  have hc' : (w.setCell a (.int .i32 1)).cell? a = some (.int .i32 1) := by simp [go_sem, hc]
  have hcv := run_convert_to_unsafe (P := Yba.prog) (src := 81) (dst := 85) Yba.muLib.underlying_tPIMutex Yba.muLib.underlying_tUP Yba.muLib.room_tIMutex hc'
  have hb1 : bits BinOp.or IntKind.i32 0 1 = 1 := by decide
  have hb2 : bits BinOp.and IntKind.i32 0 5 = 0 := by decide
  go_enter Yba.func9, Yba.ntmps9
  go_wp2
  go_ret
  exact ⟨rfl, rfl⟩

theorem try5 (a : Addr) (w : World) (hc : w.cell? a = some (.int .i32 0)) (hz : w.frozen? a = false) :
    Calls Yba.prog 5 #[.pointer (some a)] w fun e w' => e = .returned (.bool true) ∧ w' = w.setCell a (.int .i32 1) := by
  go_enter Yba.func5, Yba.ntmps5
  go_wp2_with (go_at_call 9; refine (itry9 a _ hc hz).mono ?_; rintro e w' ⟨rfl, rfl⟩)
  go_ret
  exact ⟨rfl, rfl⟩

/-- A slice of strings, of ints, that can be read. -/
def Rk (w : World) (a : Option Addr) (n : Nat) (f : Nat → ByteArray) : Prop := n = 0 ∨ ∃ b off, a = some ⟨b, off, none⟩ ∧ b < w.heap.size ∧ ∀ i, i < n → w.cell? ⟨b, off + i, none⟩ = some (.string (f i))
def Rn (w : World) (a : Option Addr) (n : Nat) (f : Nat → Int) : Prop := n = 0 ∨ ∃ b off, a = some ⟨b, off, none⟩ ∧ b < w.heap.size ∧ ∀ i, i < n → w.cell? ⟨b, off + i, none⟩ = some (.int .i64 (f i))
theorem Rk.below {w w' : World} {a : Option Addr} {n : Nat} {f : Nat → ByteArray} (h : Rk w a n f) (hb : Below w.heap.size w w') : Rk w' a n f := by
  rcases h with h | ⟨b, off, rfl, hb', hc⟩
  · exact .inl h
  · exact .inr ⟨b, off, rfl, Nat.lt_of_lt_of_le hb' hb.size, fun i hi => by rw [hb.cell (p := ⟨b, off + i, none⟩) hb']; exact hc i hi⟩
theorem Rn.below {w w' : World} {a : Option Addr} {n : Nat} {f : Nat → Int} (h : Rn w a n f) (hb : Below w.heap.size w w') : Rn w' a n f := by
  rcases h with h | ⟨b, off, rfl, hb', hc⟩
  · exact .inl h
  · exact .inr ⟨b, off, rfl, Nat.lt_of_lt_of_le hb' hb.size, fun i hi => by rw [hb.cell (p := ⟨b, off + i, none⟩) hb']; exact hc i hi⟩

/-- What key number i is counted with. -/
def val (m : Nat) (g : Nat → Int) (i : Nat) : Int := if i < m then g i else 0
/-- The last of the first n keys that is k. -/
def get (f : Nat → ByteArray) (m : Nat) (g : Nat → Int) (k : ByteArray) : Nat → Option Int
  | 0 => none
  | i + 1 => if ((f i).toList == k.toList) then some (val m g i) else get f m g k i

set_option maxHeartbeats 800000 in
theorem get7 (a a' : Option Addr) (n c m c' : Nat) (k : ByteArray) (f : Nat → ByteArray) (g : Nat → Int) (w : World) (hn : n ≤ 1024) (hm : m ≤ 1024) (h : Rk w a n f) (h' : Rn w a' m g) :
    Calls Yba.prog 7 #[.slice a n c, .slice a' m c', .string k] w fun e w' => e = .returned (.tuple #[.int .i64 ((get f m g k n).getD 0), .bool (get f m g k n).isSome]) ∧ w' = w := by
  go_enter Yba.func7, Yba.ntmps7
  go_wp2_with fail
  rename_i K0 hK0
  have HK0 := hide hK0
  clear hK0
  go_loopg [8] n (fun g0 v wx => ∃ i : Nat, i ≤ n ∧ i = g0 ∧ v = .int .i64 ((i : Int) - 1) ∧ wx = w ∧ get f m g k n = get f m g k i)
  case atStart => go_light; exact ⟨n, Nat.le_refl _, rfl, by go_num, rfl, rfl⟩
  case round =>
    rename World => w2
    rename_i J2 K2 hJ2 hK2
    obtain ⟨i, hi, rfl, rfl, rfl, hget⟩ := hrel
    rcases i with _ | j
    · clear hJ2 hK2
      have hK0 := HK0.out
      have HR := hide hget
      clear HK0 hget h h'
      go_wp2
      go_ret2
      exact ⟨by rw [HR.out]; rfl, rfl⟩
    · have hj : j < n := by omega
      have hj' : (j : Int) < (n : Int) := by omega
      rw [show ((j + 1 : Nat) : Int) - 1 = (j : Int) by omega]
      rcases h with h | ⟨b, off, rfl, hb, hc⟩
      · omega
      have e1 := hc j hj
      have hstep : get f m g k (j + 1) = if ((f j).toList == k.toList) then some (val m g j) else get f m g k j := rfl
      obtain ⟨x, hx⟩ : ∃ x, f j = x := ⟨_, rfl⟩
      rw [hx] at e1 hstep
      cases hxk : (x.toList == k.toList) with
      | true =>
        by_cases hjm : j < m
        · have hjm' : (j : Int) < (m : Int) := by omega
          rcases h' with h' | ⟨b', off', rfl, hb', hc'⟩
          · omega
          have e2 := hc' j hjm
          have hr : get f m g k n = some (g j) := by rw [hget, hstep, hxk]; simp [val, hjm]
          have HR := hide hr
          clear hc hc' hget hstep hr hx HK0 hJ2 hK2
          go_wp2
          go_ret2
          exact ⟨by rw [HR.out]; rfl, rfl⟩
        · have hjm' : ¬ (j : Int) < (m : Int) := by omega
          have hr : get f m g k n = some 0 := by rw [hget, hstep, hxk]; simp [val, hjm]
          have HR := hide hr
          clear hc hget hstep hr hx HK0 hJ2 hK2 h'
          go_wp2
          go_ret2
          exact ⟨by rw [HR.out]; rfl, rfl⟩
      | false =>
        have hr : get f m g k n = get f m g k j := by rw [hget, hstep, hxk]; rfl
        have HR := hide hr
        clear hc hget hstep hr hx
        go_wp2
        go_roundg j
        case measure => go_light; omega
        case rel => go_light; exact ⟨j, by omega, rfl, by go_num, rfl, HR.out⟩
attribute [local go_sem ↓] look_held put_held len_held

theorem MB.setCell {w : World} {M B : Nat} {ps : Pairs} (h : MB w M ps) (hne : M ≠ B) (i : Nat) (v : Value) : MB (w.setCell ⟨B, i, none⟩ v) M ps :=
  h.chg (S := [B]) (chg_setCell (by simp) v) (by simpa using hne)

set_option maxHeartbeats 800000 in
theorem endSession8 (B M : Nat) (id : ByteArray) (ps : Pairs) (w : World) (hne : M ≠ B) (hM : MB w M ps)
    (h35 : w.cell? ⟨B, 35, none⟩ = some (.int .i32 0)) (f35 : w.frozen? ⟨B, 35, none⟩ = false) (h37 : w.cell? ⟨B, 37, none⟩ = some (.map (some M))) :
    Calls Yba.prog 8 #[.pointer (some ⟨B, 0, none⟩), .string id] w fun e w' => e = .returned (.tuple #[]) ∧
      w' = (ChangeMaps.setBlock (w.setCell ⟨B, 35, none⟩ (.int .i32 1)) M (.map (entsF 0 (upd ps id (wrap64 ((lk ps id).getD 0 - 1)))).toArray (upd ps id (wrap64 ((lk ps id).getD 0 - 1))).length)).setCell ⟨B, 35, none⟩ (.int .i32 0) := by
  have hM1 : MB (w.setCell ⟨B, 35, none⟩ (.int .i32 1)) M ps := hM.setCell hne _ _
  have L1 := run_look hM1 id
  have U1 := run_put hM1 id
  rw [look_held] at L1
  simp only [put_held] at U1
  have h37' : (w.setCell ⟨B, 35, none⟩ (.int .i32 1)).cell? ⟨B, 37, none⟩ = some (.map (some M)) := (World.cell?_setCell_other _ ⟨B, 35, none⟩ ⟨B, 37, none⟩ _ (by simp)).trans h37
  have c1 : (w.setCell ⟨B, 35, none⟩ (.int .i32 1)).cell? ⟨B, 35, none⟩ = some (.int .i32 1) := World.cell?_setCell_same w ⟨B, 35, none⟩ (.int .i32 1) h35
  have f1 : (w.setCell ⟨B, 35, none⟩ (.int .i32 1)).frozen? ⟨B, 35, none⟩ = false := by simp [f35]
  have C1 := hide c1
  have F1 := hide f1
  obtain ⟨x, hx⟩ : ∃ x, (lk ps id).getD 0 = x := ⟨_, rfl⟩
  rw [hx] at L1
  rw [hx]
  clear c1 f1 hM1 hM hx
  go_enter_defers Yba.func8, Yba.ntmps8
  go_wp2_with (go_at_call 11; refine (lock_free Yba.muLib ⟨B, 35, none⟩ _ h35 f35).mono ?_; rintro e w' ⟨rfl, rfl⟩)
  refine leaves_cons (f := 6) (args := #[.pointer (some ⟨B, 35, none⟩)]) (by simp) (by simp [go_sem]) ?_
  refine (unlock_deferred Yba.muLib ⟨B, 35, none⟩ .returning _ ?_ ?_).mono ?_
  · rw [cell_setBlock _ _ _ hne.symm]; exact C1.out
  · rw [frozen_setBlock _ _ _ hne.symm]; exact F1.out
  rintro e u' w'' ⟨rfl, rfl, rfl⟩
  exact ⟨_, results_none rfl _ _ _, rfl, rfl⟩

/-- The same, in the words that the callers want. -/
theorem es8 (B M : Nat) (id : ByteArray) (ps : Pairs) (w : World) (hne : M ≠ B) (hM : MB w M ps)
    (h35 : w.cell? ⟨B, 35, none⟩ = some (.int .i32 0)) (f35 : w.frozen? ⟨B, 35, none⟩ = false) (h37 : w.cell? ⟨B, 37, none⟩ = some (.map (some M))) :
    Calls Yba.prog 8 #[.pointer (some ⟨B, 0, none⟩), .string id] w fun e w' => e = .returned (.tuple #[]) ∧ MB w' M (upd ps id (wrap64 ((lk ps id).getD 0 - 1))) ∧ Chg [B, M] w w' ∧
      (∀ i, w'.cell? ⟨B, i, none⟩ = w.cell? ⟨B, i, none⟩) ∧ (∀ i, w'.frozen? ⟨B, i, none⟩ = w.frozen? ⟨B, i, none⟩) := by
  refine (endSession8 B M id ps w hne hM h35 f35 h37).mono ?_
  rintro e w' ⟨rfl, hw⟩
  generalize hobj : (Obj.map (entsF 0 (upd ps id (wrap64 ((lk ps id).getD 0 - 1)))).toArray (upd ps id (wrap64 ((lk ps id).getD 0 - 1))).length) = o at hw
  have hlt : M < (w.setCell ⟨B, 35, none⟩ (.int .i32 1)).heap.size := (hM.setCell hne 35 (.int .i32 1)).lt
  have c1 : (w.setCell ⟨B, 35, none⟩ (.int .i32 1)).cell? ⟨B, 35, none⟩ = some (.int .i32 1) := World.cell?_setCell_same w ⟨B, 35, none⟩ (.int .i32 1) h35
  subst hw
  refine ⟨rfl, ?_, ?_, fun i => ?_, fun i => ?_⟩
  · refine MB.setCell ?_ hne _ _
    rw [← hobj]
    exact MB.put hlt _
  · exact ((chg_setCell (S := [B, M]) (a := ⟨B, 35, none⟩) (by simp) _).trans (chg_setBlock (by simp) o)).trans (chg_setCell (a := ⟨B, 35, none⟩) (by simp) _)
  · by_cases hi : i = 35
    · subst hi
      rw [World.cell?_setCell_same (u := .int .i32 1) _ _ _ (by rw [cell_setBlock _ _ _ hne.symm]; exact c1), h35]
    · rw [World.cell?_setCell_other _ ⟨B, 35, none⟩ ⟨B, i, none⟩ _ (by simp <;> omega), cell_setBlock _ _ _ hne.symm, World.cell?_setCell_other _ ⟨B, 35, none⟩ ⟨B, i, none⟩ _ (by simp <;> omega)]
  · rw [World.frozen?_setCell, frozen_setBlock _ _ _ hne.symm, World.frozen?_setCell]

theorem not_empty {a : ByteArray} (h : a ≠ ⟨#[]⟩) : a.toList.isEmpty = false := by
  cases e : a.toList with
  | nil =>
    exfalso
    apply h
    apply list_yes.1
    have e0 : (⟨#[]⟩ : ByteArray).toList = [] := by simp
    rw [e, e0]
    rfl
  | cons x r => rfl

theorem end_none (S : Nat) (w : World) (h6 : w.cell? ⟨S, 6, none⟩ = some (.string ⟨#[]⟩)) : Calls Yba.prog 4 #[.pointer (some ⟨S, 0, none⟩)] w fun e w' => e = .returned (.tuple #[]) ∧ w' = w := by
  go_enter Yba.func4, Yba.ntmps4
  go_wp2
  refine bodyPost_ret (results_none rfl _ _ _) rfl ?_
  exact ⟨rfl, rfl⟩

set_option maxHeartbeats 1600000 in
theorem end_some (S B M : Nat) (id : ByteArray) (ps : Pairs) (w : World) (hid : id ≠ ⟨#[]⟩) (hne : M ≠ B) (hSB : S ≠ B) (hSM : S ≠ M) (hM : MB w M ps)
    (h35 : w.cell? ⟨B, 35, none⟩ = some (.int .i32 0)) (f35 : w.frozen? ⟨B, 35, none⟩ = false) (h37 : w.cell? ⟨B, 37, none⟩ = some (.map (some M)))
    (h0 : w.cell? ⟨S, 0, none⟩ = some (.pointer (some ⟨B, 0, none⟩))) (h6 : w.cell? ⟨S, 6, none⟩ = some (.string id)) (f6 : w.frozen? ⟨S, 6, none⟩ = false) :
    Calls Yba.prog 4 #[.pointer (some ⟨S, 0, none⟩)] w fun e w' => e = .returned (.tuple #[]) ∧ MB w' M (upd ps id (wrap64 ((lk ps id).getD 0 - 1))) ∧ Chg [B, M, S] w w' ∧
      (∀ i, w'.cell? ⟨B, i, none⟩ = w.cell? ⟨B, i, none⟩) ∧ (∀ i, w'.frozen? ⟨B, i, none⟩ = w.frozen? ⟨B, i, none⟩) ∧ w'.cell? ⟨S, 6, none⟩ = some (.string ⟨#[]⟩) ∧ (∀ i, i ≠ 6 → w'.cell? ⟨S, i, none⟩ = w.cell? ⟨S, i, none⟩) := by
  have hq := not_empty hid
  have HC := hide (es8 B M id ps w.drew hne hM h35 f35 h37)
  have hSlt : S < w.heap.size := World.block_lt_of_cell? _ _ h0
  have HM := hide hM
  clear h35 f35 h37 hM
  go_enter Yba.func4, Yba.ntmps4
  go_wp2
  go_region_held3 (fun w' => w'.cell? ⟨S, 0, none⟩ = some (.pointer (some ⟨B, 0, none⟩)) ∧ w'.cell? ⟨S, 6, none⟩ = some (.string id) ∧ w'.frozen? ⟨S, 6, none⟩ = false) (first | exact ⟨by assumption, by assumption, by assumption⟩ | go_keep) ((go_at_call 8; refine HC.out.mono ?_; rintro e w1 ⟨rfl, hM1, hC1, hc1, hf1⟩; (have e1 : w1.heap[S]? = w.heap[S]? := hC1.block S hSlt (by simp; exact ⟨hSB, hSM⟩)); (have q1 : w1.cell? ⟨S, 0, none⟩ = some (.pointer (some ⟨B, 0, none⟩)) := (World.cell?_of_block (a := ⟨S, 0, none⟩) e1).trans h0); (have q2 : w1.cell? ⟨S, 6, none⟩ = some (.string id) := (World.cell?_of_block (a := ⟨S, 6, none⟩) e1).trans h6); (have q3 : w1.frozen? ⟨S, 6, none⟩ = false := (World.frozen?_of_block (a := ⟨S, 6, none⟩) e1).trans f6)))
  go_wp2
  go_end0
  have hBS : B ≠ S := hSB.symm
  have hMS : M ≠ S := hSM.symm
  refine ⟨rfl, hM1.setCell hMS _ _, ?_, fun i => ?_, fun i => ?_, World.cell?_setCell_same _ _ _ q2, fun i hi => ?_⟩
  · have c0 : Chg [B, M, S] w w1 := ⟨hC1.os, hC1.tape, hC1.output, hC1.size, fun k hk hn => hC1.block k hk (fun hm => hn (by simp at hm ⊢; omega))⟩
    exact c0.trans (chg_setCell (a := ⟨S, 6, none⟩) (by simp) _)
  · rw [World.cell?_setCell_other _ ⟨S, 6, none⟩ ⟨B, i, none⟩ _ (by simp), hc1 i]
    rfl
  · rw [World.frozen?_setCell, hf1 i]
    rfl
  · rw [World.cell?_setCell_other _ ⟨S, 6, none⟩ ⟨S, i, none⟩ _ (by simp <;> omega)]
    exact World.cell?_of_block (a := ⟨S, i, none⟩) e1
end Go.Proofs.Ybulkciig
