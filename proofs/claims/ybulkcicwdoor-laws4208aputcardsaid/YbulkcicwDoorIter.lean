import Derived.RangeFuncNested
import Derived.RangeFuncBound
import Derived.RangeFuncCalls
import Derived.RangeFuncBox
import Derived.RangeFuncLeaves
import Derived.Shelf.Abstract
import Derived.Shelf.RegionOpen
import Derived.WalkKit
import Derived.OwnWalkIn
import Derived.TacticsInMore
import Derived.LoopNIn
import Derived.LoopIn
import Derived.Maps.AppendAt
import Derived.Laws.Bits64b
import Derived.Test.YbulkcicwDoorRows
import Derived.Test.YbulkcicwDoorBits
namespace Go.Proofs.YbulkcicwDoor
open Go.RowKit Go.Shelf
attribute [local go_sem] Oper.semAt_some

/-- The builtin append behind a name that the walk does not open. -/
def appendHeld (ts : Array TypeId) (ty : TypeId) (args : Array Value) : Sem Value := Builtin.append_ ts ty args
theorem append_held (ts : Array TypeId) (ty : TypeId) (args : Array Value) : Builtin.append_ ts ty args = appendHeld ts ty args := rfl
set_option linter.unusedVariables false

/-- The table in its variable. -/
def Tab (w : World) : Prop := ∀ j, j < 64 → w.cell? ⟨0, j, none⟩ = some (.int .u8 (Lib.deBruijn64tab.getD j 0))

theorem tz_core (x k idx : Nat) (w : World) (hx0 : ((x : Int) == 0) = false)
    (key : IntKind.u64.wrap (bits BinOp.and IntKind.u64 (x : Int) (IntKind.u64.wrap (-(x : Int))) * 285870213051353865) / 288230376151711744 = (idx : Int))
    (hi : idx < 64) (hk : k < 64) (hcell : w.cell? ⟨0, idx, none⟩ = some (.int .u8 k)) :
    Calls Ybad.prog 10 #[.int .u64 x] w fun e w' => e = .returned (.int .i64 k) ∧ w' = w := by
  go_enter Ybad.func10, Ybad.ntmps10
  go_wp2_with (simp only [key])
  go_ret
  exact ⟨rfl, rfl⟩

theorem tz_key (x a : Nat) (hx : x < 18446744073709551616) (hx0 : x ≠ 0) (hlow : x &&& (18446744073709551616 - x) = a) :
    IntKind.u64.wrap (bits BinOp.and IntKind.u64 (x : Int) (IntKind.u64.wrap (-(x : Int))) * 285870213051353865) / 288230376151711744 = ((a * 285870213051353865 % 18446744073709551616 / 288230376151711744 : Nat) : Int) := by
  have e1 : IntKind.u64.wrap (-(x : Int)) = ((18446744073709551616 - x : Nat) : Int) := by rw [IntKind.wrap_u64]; omega
  rw [e1, bits_and_u64_nat x _ hx (by omega), hlow, IntKind.wrap_u64]
  omega

theorem tz_any (x : Nat) (w : World) (h0 : x ≠ 0) (hx : x < 18446744073709551616) (hT : Tab w) :
    Calls Ybad.prog 10 #[.int .u64 x] w fun e w' => e = .returned (.int .i64 (Lib.ctz 64 x)) ∧ w' = w := by
  obtain ⟨hlow, hk⟩ := Lib.lowest_bit 64 x h0 hx
  obtain ⟨hi, htab⟩ := Lib.deBruijn64_at _ hk
  have hcell := hT _ hi
  rw [htab] at hcell
  exact tz_core x _ _ w (by simp; omega) (tz_key x _ hx h0 hlow) hi hk hcell

theorem Tab.below {n₀ : Nat} {w w' : World} (h : Tab w) (hb : Below n₀ w w') (h0 : 0 < n₀) : Tab w' := fun j hj => (hb.cell (p := ⟨0, j, none⟩) h0).trans (h j hj)

set_option maxRecDepth 100000 in
set_option maxHeartbeats 2000000 in
/-- columns's closure: FOR EVERY LOOP BODY THAT KEEPS WHAT LAY BELOW n₀. -/
theorem cols1_in (n : Nat) (hn : 1 ≤ n) (l Bs n₀ tb toff tl tc M : Nat) (ws : List Nat) (hws : ∀ i : Nat, ws[i]?.getD 0 < 18446744073709551616) (htl : tl ≤ 1024) (hb : tb < n₀) (hM : 64 * tl ≤ M) (J Jx : List { c : Nat // c < M } → World → Prop)
    (hY : ∀ pre x W, J pre W → pre.length < 64 * tl → YieldAt Fence.wide (n - 1) Ybad.prog l #[.int .i32 (x.1 : Int)] W fun e W' =>
      (e = .returned (.bool true) ∧ J (pre ++ [x]) W' ∧ Below n₀ W W') ∨ (e = .returned (.bool false) ∧ Jx (pre ++ [x]) W'))
    (W : World) (hBs : W.cell? ⟨Bs, 0, none⟩ = some (.slice (some ⟨tb, toff, none⟩) tl tc)) (hc : ∀ j, j < tl → W.cell? ⟨tb, toff + j, none⟩ = some (.int .u64 ((ws[j]?.getD 0 : Nat) : Int))) (hT : Tab W) (h0 : J [] W) :
    CallsIn Fence.wide n Ybad.prog 9 #[.func (.yield l) #[] #[], .pointer (some ⟨Bs, 0, none⟩)] W fun e W' => (∃ v, e = .returned v) ∧
      ((∃ ys, ys.map Subtype.val = cols ws tl ∧ J ys W') ∨ (∃ pre, True ∧ Jx pre W')) := by
  refine callsIn_of_wp Ybad.func9 rfl trivial ?_ rfl
  simp only [Ybad.ntmps9, List.size_toArray, List.length_cons, List.length_nil, Nat.reduceAdd, Nat.reduceSub, Array.replicate_succ, Array.replicate_zero, List.push_toArray, List.append_toArray, List.nil_append, List.cons_append]
  gi_wp2
  gi_loopw [7] (fun i wr => ∃ (k : Nat) (pre : List { c : Nat // c < M }), k ≤ tl ∧ i = .int .i64 k ∧ pre.map Subtype.val = cols ws k ∧ J pre wr ∧ Below n₀ W wr)
    (fun i _ => tl - (intOf i).toNat)
  case atStart => exact ⟨0, [], Nat.zero_le _, rfl, rfl, h0, Below.refl _ _⟩
  case round =>
    obtain ⟨k, pre, hk, rfl, hpre, hJs, hnx⟩ := hrel
    by_cases hlt : k < tl
    · have hlt' : (k : Int) < (tl : Int) := by omega
      have hcx : wr.cell? ⟨tb, toff + k, none⟩ = some (.int .u64 ((ws[k]?.getD 0 : Nat) : Int)) := (hnx.cell (p := ⟨tb, toff + k, none⟩) hb).trans (hc k hlt)
      obtain ⟨x, hx⟩ : ∃ x, ws[k]?.getD 0 = x := ⟨_, rfl⟩
      have hx64 := hws k
      rw [hx] at hcx hx64
      gi_wp2
      gi_loopw [4] (fun v wi => ∃ (y : Nat) (pre2 : List { c : Nat // c < M }), y < 18446744073709551616 ∧ v = .int .u64 y ∧ pre2.map Subtype.val ++ (bitsOf y).map (k * 64 + ·) = cols ws (k + 1) ∧ J pre2 wi ∧ Below n₀ W wi)
        (fun v _ => (intOf v).toNat)
      case atStart => exact ⟨x, pre, hx64, rfl, by rw [hpre, cols_succ, hx], hJs, hnx⟩
      case round =>
        rename World => w2
        obtain ⟨y, pre2, hy64, rfl, hpre2, hJ2, hn2⟩ := hrel
        by_cases hy0 : y = 0
        · subst hy0
          gi_wp2
          refine ⟨⟨k + 1, pre2, by omega, by go_num, by simpa [bits_zero] using hpre2, hJ2, hn2⟩, by simp [intOf]; omega⟩
        · have hy0' : ((y : Int) != 0) = true := by simpa using hy0
          obtain ⟨b1, b2, b3⟩ := bits_step y hy0 hy64
          have hT2 : Tab w2 := hT.below hn2 (by omega)
          have hw10 : Fence.wide.fn 10 := trivial
          have TZ := tz_any y w2 hy0 hy64 hT2
          obtain ⟨c, hcc⟩ : ∃ c, Lib.ctz 64 y = c := ⟨_, rfl⟩
          rw [hcc] at TZ b1 b3
          have HTZ : Hid (Calls Ybad.prog 10 #[.int .u64 y] w2 fun e w' => e = .returned (.int .i64 c) ∧ w' = w2) := TZ
          clear TZ hcc
          have hcl : k * 64 + c < M := by omega
          obtain ⟨fn, tmps, assign, body, hy, hR⟩ := hY pre2 ⟨k * 64 + c, hcl⟩ w2 hJ2 (by
            have e := congrArg List.length hpre2
            have := cols_len ws (k + 1)
            rw [b1] at e
            simp at e
            omega)
          dsimp only at hy
          rw [show ((k * 64 + c : Nat) : Int) = (k : Int) * 64 + (c : Int) from by omega] at hy
          have HP : Hid (pre2.map Subtype.val ++ (bitsOf y).map (k * 64 + ·) = cols ws (k + 1)) := hpre2
          have HB1 : Hid (bitsOf y = c :: bitsOf (y &&& (y - 1))) := b1
          clear hpre2 b1
          gi_wp2_with (gi_at_call 10; refine (callsIn_wide.2 HTZ.out).mono ?_; rintro e w' ⟨rfl, rfl⟩)
          refine hR.mono ?_
          rintro e W3 (⟨rfl, hJ3, hk3⟩ | ⟨rfl, hJx3⟩)
          · gi_wp2
            have eb : bits BinOp.and IntKind.u64 (y : Int) ((y : Int) - 1) = ((y &&& (y - 1) : Nat) : Int) := by
              rw [show ((y : Int) - 1) = ((y - 1 : Nat) : Int) from by omega]
              exact bits_and_u64_nat y (y - 1) hy64 (by omega)
            rw [eb]
            refine ⟨⟨y &&& (y - 1), pre2 ++ [⟨k * 64 + c, hcl⟩], by omega, rfl, ?_, hJ3, hn2.trans hk3⟩, by simp [intOf]; exact b2⟩
            have h := HP.out
            rw [HB1.out] at h
            simpa using h
          · gi_wp2
            refine bodyPost_ret (results_none rfl _ _ _) rfl ?_
            exact ⟨⟨_, rfl⟩, .inr ⟨_, trivial, hJx3⟩⟩
    · obtain rfl : k = tl := by omega
      gi_wp2
      go_end0
      exact ⟨⟨_, rfl⟩, .inl ⟨pre, hpre, hJs⟩⟩

theorem cols_stops (n : Nat) (hn : 1 ≤ n) (Bs n₀ tb toff tl tc M : Nat) (ws : List Nat) (hws : ∀ i : Nat, ws[i]?.getD 0 < 18446744073709551616) (htl : tl ≤ 1024) (hb : tb < n₀) (hM : 64 * tl ≤ M) (w : World) (hBw : Bs < w.heap.size) (hn₀ : n₀ ≤ w.heap.size)
    (hBs : w.cell? ⟨Bs, 0, none⟩ = some (.slice (some ⟨tb, toff, none⟩) tl tc)) (hc : ∀ j, j < tl → w.cell? ⟨tb, toff + j, none⟩ = some (.int .u64 ((ws[j]?.getD 0 : Nat) : Int))) (hT : Tab w) :
    SeqStopsK Fence.wide n Ybad.prog 9 #[.pointer (some ⟨Bs, 0, none⟩)] (fun x : { c : Nat // c < M } => #[Value.int .i32 (x.1 : Int)]) (Below n₀) (fun ys => ys.map Subtype.val = cols ws tl) (fun _ => True) (64 * tl) w := fun l J Jx W hW _ _ hY h0 =>
  cols1_in n hn l Bs n₀ tb toff tl tc M ws hws htl hb hM J Jx hY W ((hW.cell (p := ⟨Bs, 0, none⟩) hBw).trans hBs) (fun j hj => (hW.cell (p := ⟨tb, toff + j, none⟩) (by show tb < _; omega)).trans (hc j hj)) (hT.below hW (by omega)) h0

theorem columns_in (n : Nat) (a : Option Addr) (tl tc : Nat) (w : World) :
    CallsIn Fence.wide n Ybad.prog 8 #[.slice a tl tc] w fun e w' => e = .returned (.func (.func 9) #[] #[.pointer (some ⟨w.heap.size, 0, none⟩)]) ∧ w' = w.alloc (.cells #[.slice a tl tc] 24) := by
  refine callsIn_of_wp Ybad.func8 rfl trivial ?_ rfl
  simp only [Ybad.ntmps8, List.size_toArray, List.length_cons, List.length_nil, Nat.reduceAdd, Nat.reduceSub, Array.replicate_succ, Array.replicate_zero, List.push_toArray, List.append_toArray, List.nil_append, List.cons_append]
  gi_wp2
  go_ret
  exact ⟨rfl, rfl⟩

theorem Ybad.info26 : (Ybad.prog.info? 26).map (fun i => (i.zero, i.size, i.bytes)) = some (some (.int .i32 0), 1, 4) := by kernel_rfl

theorem owns_slice {w : World} {base : Nat} {e : TypeId} {size : Nat} {v : Value} {n : Nat} {xs : List Value} (h : w.ownsRow base e size v n xs) : ∃ a c, v = .slice a n c := by
  rcases h.2 with ⟨rfl, rfl⟩ | ⟨g, cap, cur, rfl, _⟩
  · exact ⟨_, _, rfl⟩
  · exact ⟨_, _, rfl⟩

attribute [local go_sem ↓] append_held

set_option maxRecDepth 100000 in
set_option maxHeartbeats 2000000 in
theorem members_in (n : Nat) (hn : 3 ≤ n) (tb toff tl tc cb coff M cc : Nat) (ws : List Nat) (col : Nat → Int) (hws : ∀ i : Nat, ws[i]?.getD 0 < 18446744073709551616) (htl : tl ≤ 1024) (hM : 64 * tl ≤ M) (hM2 : M ≤ 100000) (w : World)
    (hb : tb < w.heap.size) (hcb : cb < w.heap.size) (hc : ∀ j, j < tl → w.cell? ⟨tb, toff + j, none⟩ = some (.int .u64 ((ws[j]?.getD 0 : Nat) : Int))) (hcol : ∀ c, c < M → w.cell? ⟨cb, coff + c, none⟩ = some (.int .i32 (col c))) (hT : Tab w) :
    CallsIn Fence.wide n Ybad.prog 5 #[.slice (some ⟨tb, toff, none⟩) tl tc, .slice (some ⟨cb, coff, none⟩) M cc] w fun e W' => ∃ v, e = .returned v ∧ W'.ownsRow w.heap.size 26 1 v (cols ws tl).length ((cols ws tl).map fun c => .int .i32 (col c)) ∧ (v = .slice none 0 0 ↔ cols ws tl = []) ∧ Below w.heap.size w W' := by
  have h1 : 1 ≤ n := by omega
  obtain ⟨i0, hi, hz0, hz1, hz2⟩ := info_parts Ybad.info26
  have hw8 : Fence.wide.fn 8 := trivial
  refine callsIn_of_wp_marks Ybad.func5 rfl trivial ?_ rfl
  simp only [Ybad.ntmps5, List.size_toArray, List.length_cons, List.length_nil, Nat.reduceAdd, Nat.reduceSub, Array.replicate_succ, Array.replicate_zero, List.push_toArray, List.append_toArray, List.nil_append, List.cons_append]
  gi_wp2_with (gi_at_call 8; refine (columns_in (n - 1) _ _ _ _).mono ?_; rintro e w' ⟨rfl, rfl⟩)
  have bC := Boxed.new w 25 (.slice (some ⟨cb, coff, none⟩) M cc)
  have bX := Boxed.new (w.alloc (.cells #[.slice (some ⟨cb, coff, none⟩) M cc] 25)) 25 (.slice none 0 0)
  have bT := Boxed.new ((w.alloc (.cells #[.slice (some ⟨cb, coff, none⟩) M cc] 25)).alloc (.cells #[.slice none 0 0] 25)) 24 (.slice (some ⟨tb, toff, none⟩) tl tc)
  rw [World.size_alloc] at bX bT
  rw [World.size_alloc] at bT
  have hB0 : Below w.heap.size w (((w.alloc (.cells #[.slice (some ⟨cb, coff, none⟩) M cc] 25)).alloc (.cells #[.slice none 0 0] 25)).alloc (.cells #[.slice (some ⟨tb, toff, none⟩) tl tc] 24)) := (((Below.refl _ w).alloc (Nat.le_refl _) _).alloc (by simp) _).alloc (by simp; omega) _
  refine wpIn_rangeFunc_ownG rfl h1 (gf := 9) (lb := #[.pointer (some ⟨w.heap.size + 1 + 1, 0, none⟩)]) rfl trivial (enters_of Ybad.func9 (by kernel_rfl) rfl)
    (cols_stops (n - 1) (by omega) (w.heap.size + 1 + 1) w.heap.size tb toff tl tc M ws hws htl hb hM _ (by simp) (by simp; omega) bT.cell (fun j hj => (hB0.cell (p := ⟨tb, toff + j, none⟩) hb).trans (hc j hj)) (hT.below hB0 (by omega))) belowK_t (belowK_b (by simp; omega)) (Below.refl _ _) (fun _ => rfl)
    (fun pre W => (Boxed W w.heap.size 25 (.slice (some ⟨cb, coff, none⟩) M cc) ∧ ∃ v, Boxed W (w.heap.size + 1) 25 v ∧ W.ownsRow w.heap.size 26 1 v pre.length (pre.map fun x => .int .i32 (col x.1)) ∧ (v = .slice none 0 0 ↔ pre = [])) ∧ Below w.heap.size w W)
    (fun _ _ _ => False)
    (OwnFrom.and (OwnFrom.and (Own.from (boxed_own _ _ _) _) (Own.from (holdsRow_own (β := List { c : Nat // c < M }) w.heap.size (w.heap.size + 1) 25 26 1 (fun pre => pre.length) (fun pre => pre.map fun x => .int .i32 (col x.1)) (fun pre v => v = .slice none 0 0 ↔ pre = [])) _)) (ownFrom_below (Nat.le_refl _) (by simp; omega)))
    (fun _ _ _ _ _ hs _ _ => hs)
    ⟨⟨(bC.alloc _).alloc _, _, bX.alloc _, World.ownsRow_nil _ _ _ _, by simp⟩, hB0⟩
    (fun x => { tmps := #[.slice (some ⟨tb, toff, none⟩) tl tc, .slice (some ⟨cb, coff, none⟩) M cc, undef, .pointer (some ⟨w.heap.size, 0, none⟩), .slice none 0 0, .pointer (some ⟨w.heap.size + 1, 0, none⟩), .int .i32 (x.1 : Int), .slice (some ⟨tb, toff, none⟩) tl tc, .func (.func 9) #[] #[.pointer (some ⟨w.heap.size + 1 + 1, 0, none⟩)], .int .i32 (x.1 : Int), undef, undef, undef, undef, undef, undef, undef, undef], defers := [] }) ?assign ?body ?done ?stop
  case assign =>
    intro l x W K hK
    gi_wp2
    exact hK
  case body =>
    rintro l pre x W ⟨⟨hC, v, hv, hrow, hnil⟩, hB⟩ hlt
    have hsz := hB.size
    obtain ⟨v', w1, hrun, hown', hgrow, hnil', _⟩ := run_append_own_at (P := Ybad.prog) ((W.alloc (.cells #[.int .i32 (col x.1)] 26)).drew) w.heap.size 25 25 26 i0 (.int .i32 0) 1 4 Ybad.underlying25 hi hz0 hz1 hz2 rfl (by decide) v pre.length _ (hrow.alloc _).drew
      ⟨W.heap.size, 0, none⟩ 1 1 [.int .i32 (col x.1)] rfl (cell_one_new W _ _) (by simp [Value.oneCell']) (by unfold maxLen; omega) (by omega) (by simp; omega)
    have hrun' : Sem.run Ybad.prog (appendHeld #[25, 25] 25 #[v, .slice (some ⟨W.heap.size, 0, none⟩) 1 1]) ((W.alloc (.cells #[.int .i32 (col x.1)] 26)).drew) = .ok v' w1 := hrun
    obtain ⟨g', cap', rfl⟩ := ownsRow_succ hown'
    have hcC := hC.cell
    have hcX := hv.cell
    have hx : ((x.1 : Nat) : Int) < (M : Int) := by have := x.2; omega
    have hcx : W.cell? ⟨cb, coff + x.1, none⟩ = some (.int .i32 (col x.1)) := (hB.cell (p := ⟨cb, coff + x.1, none⟩) hcb).trans (hcol x.1 x.2)
    have hgrow2 : (W.alloc (.cells #[.int .i32 (col x.1)] 26)).grownBy w1 v.ownBlock := ⟨hgrow.os, hgrow.tape, hgrow.output, hgrow.size, hgrow.block⟩
    obtain ⟨hv1, hv2, hr2, hk2, hb2⟩ := hv.appended (by decide) hrow hB.size (by omega) hown' hgrow2
    have hC2 : Boxed (w1.setCell ⟨w.heap.size + 1, 0, none⟩ (.slice (some ⟨g', 0, none⟩) (pre.length + 1) cap')) w.heap.size 25 (.slice (some ⟨cb, coff, none⟩) M cc) := ((hC.alloc _).kept hgrow2 (hC.not_row (by decide) hrow)).other (by omega) _
    have FIN : Hid (KeepsFrom (((w.alloc (.cells #[.slice (some ⟨cb, coff, none⟩) M cc] 25)).alloc (.cells #[.slice none 0 0] 25)).alloc (.cells #[.slice (some ⟨tb, toff, none⟩) tl tc] 24)).heap.size W (w1.setCell ⟨w.heap.size + 1, 0, none⟩ (.slice (some ⟨g', 0, none⟩) (pre.length + 1) cap')) ∧ Below w.heap.size W (w1.setCell ⟨w.heap.size + 1, 0, none⟩ (.slice (some ⟨g', 0, none⟩) (pre.length + 1) cap')) ∧
        (Boxed (w1.setCell ⟨w.heap.size + 1, 0, none⟩ (.slice (some ⟨g', 0, none⟩) (pre.length + 1) cap')) w.heap.size 25 (.slice (some ⟨cb, coff, none⟩) M cc) ∧ ∃ v, Boxed (w1.setCell ⟨w.heap.size + 1, 0, none⟩ (.slice (some ⟨g', 0, none⟩) (pre.length + 1) cap')) (w.heap.size + 1) 25 v ∧
          (w1.setCell ⟨w.heap.size + 1, 0, none⟩ (.slice (some ⟨g', 0, none⟩) (pre.length + 1) cap')).ownsRow w.heap.size 26 1 v (pre ++ [x]).length ((pre ++ [x]).map fun x => .int .i32 (col x.1)) ∧ (v = .slice none 0 0 ↔ pre ++ [x] = [])) ∧
        Below w.heap.size w (w1.setCell ⟨w.heap.size + 1, 0, none⟩ (.slice (some ⟨g', 0, none⟩) (pre.length + 1) cap'))) :=
      ⟨hk2.from _, hb2, ⟨hC2, _, hv2, by simpa using hr2, by simp⟩, hB.trans hb2⟩
    obtain ⟨va, vc, hvf⟩ := owns_slice hrow
    rw [hvf] at hcX hrun'
    have hc1 := hv1.cell
    rw [hvf] at hc1
    have hf1 := hv1.frozen
    have hmix : Ybad.prog.follows .mixedOrders = true := by kernel_rfl
    have hXlt : w.heap.size + 1 < W.heap.size := hv.lt
    have hClt : w.heap.size < W.heap.size := hC.lt
    have hcbW : cb < W.heap.size := by omega
    have HV := (show Hid (v = .slice va pre.length vc) from hvf)
    clear hrun hown' hgrow hgrow2 hvf hC2 hk2 hr2 hb2
    gi_wp2
    gi_region_with_o fail
    all_goals (gi_wp2; exact FIN.out)
  case done =>
    rintro D ys W hD hys ⟨⟨hC, v, hv, hrow, hnil⟩, hB⟩ hK
    have e1 : (cols ws tl).length = ys.length := by rw [← hys]; simp
    have e2 : ((cols ws tl).map fun c => Value.int .i32 (col c)) = ys.map fun x => .int .i32 (col x.1) := by rw [← hys]; simp
    have e3 : cols ws tl = [] ↔ ys = [] := by rw [← hys]; exact List.map_eq_nil_iff
    obtain ⟨va, vc, hvf⟩ := owns_slice hrow
    subst hvf
    have hc := hv.cell
    gi_wp2
    refine ⟨by simp, .inl ⟨_, _, rfl, run_takeDeferred hK, ?_⟩⟩
    exact ⟨_, results_tmp rfl _ _ _, .slice va ys.length vc, rfl, by rw [e1, e2]; exact ownsRow_putObj hrow _ hK rfl, hnil.trans e3.symm, hB.trans (belowK_b (w := w) (Nat.le_refl _) W D _ _ (by simp at hD; omega) hK rfl rfl)⟩
  case stop =>
    rintro D c pre W _ _ h _
    exact h.elim

end Go.Proofs.YbulkcicwDoor
