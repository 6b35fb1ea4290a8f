import Derived.Test.YbulkciemGreatDoorKeepB
namespace Go.Proofs.YbulkciemGreatDoor
open Go.RowKit
set_option linter.unusedVariables false
set_option linter.unusedSimpArgs false

def lookHeld (t : TypeId) (x i : Value) (ok : Bool) : Sem Value := Instr.lookup t x i ok
theorem look_held (t : TypeId) (x i : Value) (ok : Bool) : Instr.lookup t x i ok = lookHeld t x i ok := rfl
def putHeld (t : TypeId) (m k v : Value) : Sem Unit := Instr.mapUpdate t m k v
theorem put_held (t : TypeId) (m k v : Value) : Instr.mapUpdate t m k v = putHeld t m k v := rfl
attribute [local go_sem ↓] append_held look_held put_held

theorem Ybaz.info115 : (Ybaz.prog.info? 115).map (fun i => (i.zero, i.size, i.bytes)) = some (some (.int .u64 0), 1, 8) := by kernel_rfl

/-- The hashes' row. -/
structure Hs (w : World) (HS n : Nat) : Prop where
  tag : Tag w HS 115
  cell : ∀ k, k < n → ∃ x, w.cell? ⟨HS, k, none⟩ = some (.int .u64 x)
theorem Hs.chg {S : List Nat} {w w' : World} {HS n : Nat} (h : Hs w HS n) (hc : Chg S w w') (hS : HS ∉ S) : Hs w' HS n :=
  ⟨h.tag.chg hc hS, fun k hk => by obtain ⟨x, hx⟩ := h.cell k hk; exact ⟨x, (cell_chg hc h.tag hS).trans hx⟩⟩
theorem Tag.frozen {w : World} {g i : Nat} {e : TypeId} (h : Tag w g e) : w.frozen? ⟨g, i, none⟩ = false := by
  obtain ⟨a, ha⟩ := h
  exact frozen_of_row w g i _ e ha
theorem Hs.put {w : World} {HS n i : Nat} (h : Hs w HS n) (x : Int) (hi : i < n) : Hs (w.setCell ⟨HS, i, none⟩ (.int .u64 x)) HS n := by
  refine ⟨h.tag.setCell _ _ _, fun k hk => ?_⟩
  by_cases hki : k = i
  · subst hki
    obtain ⟨y, hy⟩ := h.cell k hk
    exact ⟨x, World.cell?_setCell_same _ _ _ hy⟩
  · obtain ⟨y, hy⟩ := h.cell k hk
    exact ⟨y, by rw [World.cell?_setCell_other _ _ _ _ (by simp [hki])]; exact hy⟩
theorem made_hashes (w : World) (n : Nat) : Hs (w.alloc (.cells (madeCells #[.int .u64 0] n) 115)) w.heap.size n := by
  have hb : Blk (w.alloc (.cells (madeCells #[.int .u64 0] n) 115)) w.heap.size 115 (List.replicate n (.int .u64 0)) := by
    have := Blk.new w 115 (List.replicate n (.int .u64 0))
    rwa [show (List.replicate n (Value.int .u64 0)).toArray = madeCells #[.int .u64 0] n by rw [← toList_madeCells_one]] at this
  exact ⟨hb.tag, fun k hk => ⟨0, by rw [hb.cell k]; simp [hk]⟩⟩
theorem Ks.putFalse {w0 w : World} {b BT g c n i : Nat} {st : Nat → ByteArray} {v : Nat → Value} (h : Ks w0 w b BT g c n st v) (hi : i < n) : Ks w0 (w.setCell ⟨BT, i, none⟩ (.bool false)) b BT g c n st v := by
  have hc : Chg [BT] w (w.setCell ⟨BT, i, none⟩ (.bool false)) := chg_setCell (a := ⟨BT, i, none⟩) (by simp) _
  have hne : b ∉ [BT] := by simp; exact h.tb.ne h.tB (by decide)
  have lB := h.lB
  refine ⟨h.chg.trans' hc (fun s hs hlt => by simp at hs; omega), h.kr, (cell_chg hc h.tb hne).trans h.hb, h.tb.chg hc hne, h.tB.setCell _ _ _, fun k hk => ?_, h.lb, h.lB⟩
  by_cases hki : k = i
  · subst hki
    exact World.cell?_setCell_same _ _ _ (h.hB k hk)
  · rw [World.cell?_setCell_other _ _ _ _ (by simp [hki])]
    exact h.hB k hk

set_option maxRecDepth 1000000 in
set_option maxHeartbeats 3200000 in
theorem keep_many (F R g c n : Nat) (st : Nat → ByteArray) (v : Nat → Value) (x : Nat → Bool) (ops free cfgs done vis reached : Value) (charged : Int) (w : World) (hF : Blk w F 73 (fro F R ops free cfgs done vis reached charged)) (hk : Kr w g c n st v) (hT : ∀ i, i < n → TkOut w (x i) (v i)) (hS : ∀ i, i < n → (st i).size ≤ 1000) (h1 : 32 < n) (h2 : n ≤ 1000) :
    Calls Ybaz.prog 15 #[.pointer (some ⟨F, 0, none⟩), .slice (some ⟨g, 0, none⟩) n c] w fun e w' => e = .returned (.tuple #[]) ∧ Kept w w' F R n ops free done vis reached charged (rowsN st v n) := by
  have n1 : ¬ ((n : Int) ≤ 1) := by omega
  have n2 : ¬ ((n : Int) ≤ 32) := by omega
  have hmk := run_make_row' (P := Ybaz.prog) 112 4 (.bool false) 1 Ybaz.underlying112 Ybaz.info4 rfl .i64 .i64 n (by omega) (by omega)
  have hmk2 := run_make_row' (P := Ybaz.prog) 114 115 (.int .u64 0) 8 Ybaz.underlying114 Ybaz.info115 rfl .i64 .i64 n (by omega) (by omega)
  have hmm := @run_makeMap Ybaz.prog
  have hks := kq_start w g c n st v hk
  obtain ⟨W, hW⟩ : ∃ W, W = (((w.alloc (.cells #[.slice (some ⟨g, 0, none⟩) n c] 27)).alloc (.cells #[beatsF w.heap.size] 111)).alloc (.cells (madeCells #[.bool false] n) 4)) := ⟨_, rfl⟩
  rw [← hW] at hks
  have hWs : W.heap.size = w.heap.size + 3 := by rw [hW]; simp
  have hks2 : Kq w ((W.alloc (.map #[] 0)).alloc (.cells (madeCells #[.int .u64 0] n) 115)) w.heap.size (w.heap.size + 1) (w.heap.size + 2) g c n st v := hks.step (((Chg.refl [] W).alloc _).alloc _) (by simp) (by simp) (by simp) (by simp)
  have hH : Hs ((W.alloc (.map #[] 0)).alloc (.cells (madeCells #[.int .u64 0] n) 115)) (w.heap.size + 4) n := by
    have := made_hashes (W.alloc (.map #[] 0)) n
    rwa [World.size_alloc, hWs] at this
  have hM : MInv ((W.alloc (.map #[] 0)).alloc (.cells (madeCells #[.int .u64 0] n) 115)) (w.heap.size + 3) w.heap.size n 0 [] := by
    refine ⟨?_, by simp, by simp⟩
    have hm : MB (W.alloc (.map #[] 0)) (w.heap.size + 3) [] := by
      have := heap_alloc_new W (.map #[] 0)
      rwa [hWs] at this
    exact hm.chg ((Chg.refl [] _).alloc _) (by simp)
  have hst := store_func w g c n
  have HF := hide hF
  have HK := hide (And.intro hks2 (And.intro hH hM))
  have HW := hide hW
  have HT := hide hT
  have HSz := hide hS
  clear hF hks hW hk hks2 hH hM hWs hT hS
  go_enter Ybaz.func15, Ybaz.ntmps15
  go_wp2_with fail
  rename_i K0 hK0 K1 hK1
  have HK0 := hide hK0
  have HK1 := hide hK1
  clear hK0 hK1 hmk hmk2 hmm hst
  obtain ⟨HS, hHS⟩ : ∃ HS, HS = w.heap.size + 1 + 1 + 1 + 1 := ⟨_, rfl⟩
  obtain ⟨M, hM⟩ : ∃ M, M = w.heap.size + 1 + 1 + 1 := ⟨_, rfl⟩
  obtain ⟨BT, hBT⟩ : ∃ BT, BT = w.heap.size + 1 + 1 := ⟨_, rfl⟩
  obtain ⟨q, hq⟩ : ∃ q, q = w.heap.size + 1 := ⟨_, rfl⟩
  have hstart : Kq w ((W.alloc (.map #[] 0)).alloc (.cells (madeCells #[.int .u64 0] n) 115)) w.heap.size q BT g c n st v ∧ Hs ((W.alloc (.map #[] 0)).alloc (.cells (madeCells #[.int .u64 0] n) 115)) HS n ∧ MInv ((W.alloc (.map #[] 0)).alloc (.cells (madeCells #[.int .u64 0] n) 115)) M w.heap.size n 0 [] := by
    rw [hHS, hM, hBT, hq]
    exact HK.out
  rw [HW.out] at hstart
  have lM : w.heap.size ≤ M := by omega
  have lHS : w.heap.size ≤ HS := by omega
  rw [← hHS, ← hM, ← hBT, ← hq]
  have H0 := hide hstart
  clear hHS hM hBT hq HK HW hstart
  go_loopg [56] n (fun g0 v56 wx => ∃ (i : Nat) (ps : Prs), i ≤ n ∧ g0 = n - i ∧ v56 = .int .i64 i ∧ Kq w wx w.heap.size q BT g c n st v ∧ Hs wx HS n ∧ MInv wx M w.heap.size n i ps)
  case atStart => go_light; exact ⟨0, [], by omega, rfl, rfl, H0.out⟩
  case round =>
    rename World => w2
    rename_i J2 K2 hJ2 hK2
    obtain ⟨i, ps, hi, rfl, rfl, hk2, hh2, hm2⟩ := hrel
    by_cases hlt : i < n
    · have hlt' : (i : Int) < (n : Int) := by omega
      have kr2 := hk2.ks.kr'
      have hglt := kr2.tag.lt
      have a0 : w2.cell? ⟨g, i * 6, none⟩ = some (.string (st i)) := kr2.cell i hlt 0 _ rfl
      have a1 : w2.cell? ⟨g, i * 6 + 1, none⟩ = some (.slice none 0 0) := kr2.cell i hlt 1 _ rfl
      have a2 : w2.cell? ⟨g, i * 6 + 2, none⟩ = some (v i) := kr2.cell i hlt 2 _ rfl
      have a3 : w2.cell? ⟨g, i * 6 + 3, none⟩ = some (.slice none 0 0) := kr2.cell i hlt 3 _ rfl
      have a4 : w2.cell? ⟨g, i * 6 + 4, none⟩ = some (.slice none 0 0) := kr2.cell i hlt 4 _ rfl
      have a5 : w2.cell? ⟨g, i * 6 + 5, none⟩ = some (.slice none 0 0) := kr2.cell i hlt 5 _ rfl
      have htk := ((HT.out i hlt).chg hk2.ks.chg (NoTk.nil _)).chg ((Chg.refl [] w2).alloc (.cells (cells6 (st i) (v i)).toArray 37)) (NoTk.nil _)
      obtain ⟨p1, p2, p3, hp⟩ := kr2.sl i hlt
      rw [hp] at a2 htk
      have HH := hide (hash29 (st i) _ (x i) _ (HSz.out i hlt) htk)
      simp only [cells6] at HH
      have H2 := hide (And.intro hk2 (And.intro hh2 hm2))
      clear hk2 hh2 hm2 kr2 htk hp
      go_wp2_with (go_at_call 29; refine HH.out.mono ?_; rintro e w3 ⟨hx, rfl, b3⟩; (have c3 : Chg [] w2 w3 := ((Chg.refl [] w2).alloc _).trans (Chg.ofBelow b3)); (have hh3 := H2.out.2.1.chg c3 (by simp)); obtain ⟨y, hy⟩ := hh3.cell i hlt; (have fy : w3.frozen? ⟨HS, i, none⟩ = false := hh3.tag.frozen); have C3 := hide c3; clear c3 b3 hh3)
      obtain ⟨w4, hw4⟩ : ∃ w4, w4 = w3.setCell ⟨HS, i, none⟩ (.int .u64 hx) := ⟨_, rfl⟩
      rw [← hw4]
      have c4 : Chg [HS] w3 w4 := by rw [hw4]; exact chg_setCell (a := ⟨HS, i, none⟩) (by simp) _
      have k4 : w4.cell? ⟨HS, i, none⟩ = some (.int .u64 hx) := by rw [hw4]; exact World.cell?_setCell_same _ _ _ hy
      have hk3 := H2.out.1.step C3.out (by simp) (by simp) (by simp) (by simp)
      have hh3 := H2.out.2.1.chg C3.out (by simp)
      have hm3 := H2.out.2.2.chg C3.out (by simp) (by simp)
      have hk4 := hk3.step c4 (by simp; exact lHS) (by simp; exact hk3.ks.tb.ne hh3.tag (by decide)) (by simp; exact hk3.ks.tB.ne hh3.tag (by decide)) (by simp; exact hk3.tq.ne hh3.tag (by decide))
      have hh4 : Hs w4 HS n := by rw [hw4]; exact hh3.put hx hlt
      have hm4 := hm3.chg c4 (by simp; exact (hm3.mb.ne hh3.tag).symm) (fun g' hg' _ => by simp; exact hg'.ne hh3.tag (by decide))
      have hHlt := hh4.tag.lt
      obtain ⟨m, xs, hmi, hol, hxs⟩ := hm4.look hx
      obtain ⟨t0, ht0, hz0, hz1, hz2⟩ := info_parts Ybaz.info3
      have hsz4 := hk4.ks.chg.size
      obtain ⟨v', w5, hrun, hown', hgrow, hnil', hblk⟩ := run_append_own_at (P := Ybaz.prog) ((w4.alloc (.cells #[.int .i64 i] 3)).drew) w.heap.size 34 34 3 t0 _ 1 8 Ybaz.underlying34 ht0 hz0 hz1 hz2 rfl (by decide) (lk ps hx) m xs ((hol.alloc _).drew) ⟨w4.heap.size, 0, none⟩ 1 1 [.int .i64 i] rfl
        (by
          intro j u hj
          rw [Addr.add_lit]
          have := (Blk.new w4 3 [.int .i64 i]).cell j
          rw [hj] at this
          simpa using this)
        (by intro u hu; simp at hu; subst hu; rfl) (by unfold maxLen; omega) (by omega) (by simp; omega)
      obtain ⟨g', c', rfl, hg', htag⟩ := owned_slice hown' (by omega)
      have cg : Chg (lk ps hx).ownBlock.toList w4 w5 := by
        refine Chg.trans ((Chg.refl _ w4).alloc _).drew (chg_grown hgrow ?_)
        intro k hk _
        simp [hk]
      have hMo : ∀ z, (lk ps hx).ownBlock = some z → z ≠ M := fun z hz => hm4.mb.ne (owned_block hol hz).2
      have hMn : M ∉ (lk ps hx).ownBlock.toList := by
        intro hz
        rw [Option.mem_toList] at hz
        exact hMo M hz rfl
      have hoff : ∀ z e, Tag w4 z e → e ≠ 3 → z ∉ (lk ps hx).ownBlock.toList := by
        intro z e hz he hm
        rw [Option.mem_toList] at hm
        exact hz.ne (owned_block hol hm).2 he rfl
      have hk5 := hk4.step cg (by
        intro s hs
        rw [Option.mem_toList] at hs
        exact (owned_block hol hs).1) (hoff _ _ hk4.ks.tb (by decide)) (hoff _ _ hk4.ks.tB (by decide)) (hoff _ _ hk4.tq (by decide))
      have hh5 := hh4.chg cg (hoff _ _ hh4.tag (by decide))
      have mb5 := hm4.mb.chg cg hMn
      have k5 : w5.cell? ⟨HS, i, none⟩ = some (.int .u64 hx) := (cell_chg cg hh4.tag (hoff _ _ hh4.tag (by decide))).trans k4
      have P5 := run_put mb5 hx (.slice (some ⟨g', 0, none⟩) (m + 1) c')
      have hm6 := hm4.put (B := w4.heap.size + 1) hmi hxs hlt hown' cg hMo (by omega) (by
        rcases hblk with h | h
        · exact .inl h
        · refine .inr ?_
          simpa using h) (by simp [Value.ownBlock])
      obtain ⟨w6, hw6⟩ : ∃ w6, w6 = ChangeMaps.setBlock w5 M (.map (entsF 0 (upd ps hx (.slice (some ⟨g', 0, none⟩) (m + 1) c'))).toArray (upd ps hx (.slice (some ⟨g', 0, none⟩) (m + 1) c')).length) := ⟨_, rfl⟩
      have c6 : Chg [M] w5 w6 := by rw [hw6]; exact chg_setBlock w5 M _
      rw [← hw6] at P5 hm6
      have hk6 := hk5.step c6 (by simp; exact lM) (by simp; exact mb5.ne hk5.ks.tb) (by simp; exact mb5.ne hk5.ks.tB) (by simp; exact mb5.ne hk5.tq)
      have hh6 := hh5.chg c6 (by simp; exact mb5.ne hh5.tag)
      have L1 : (lookHeld 113 (.map (some M)) (.int .u64 hx) false).run Ybaz.prog w4.drew = .ok (lk ps hx) w4.drew := run_look (ps := ps) (hm4.mb.chg (Chg.refl [] w4).drew (by simp)) hx
      have L2 : (lookHeld 113 (.map (some M)) (.int .u64 hx) false).run Ybaz.prog ((w4.alloc (.cells #[.int .i64 i] 3)).drew) = .ok (lk ps hx) ((w4.alloc (.cells #[.int .i64 i] 3)).drew) := run_look (ps := ps) (hm4.mb.chg ((Chg.refl [] w4).alloc _).drew (by simp)) hx
      have A5 : (appendHeld #[34, 34] 34 #[lk ps hx, .slice (some ⟨w4.heap.size, 0, none⟩) 1 1]).run Ybaz.prog ((w4.alloc (.cells #[.int .i64 i] 3)).drew) = .ok (.slice (some ⟨g', 0, none⟩) (m + 1) c') w5 := hrun
      rw [put_held] at P5
      have H6 := hide (And.intro hk6 (And.intro hh6 hm6))
      clear hw4 c4 hk3 hh3 hm3 hk4 hh4 hm4 hol hxs hgrow hown' hrun hblk cg hMo hMn hoff hk5 hh5 mb5 hm6 hw6 c6 hk6 hh6 htag hnil' a0 a1 a2 a3 a4 a5 hy fy HH H2 C3
      go_region
      go_wp2
      go_roundg (n - (i + 1))
      case measure => go_light; omega
      case rel => go_light; exact ⟨i + 1, _, by omega, rfl, by go_num, H6.out⟩
    · have hin : n = i := by omega
      subst hin
      have e0 := hk2.ks.hb
      have H2 := hide (And.intro hk2 (And.intro hh2 hm2))
      clear hk2 hh2 hm2 hJ2 hK2
      have hK1 := HK1.out
      clear HK1
      go_wp2_with fail
      go_loopg [83] n (fun g0 v83 wx => ∃ i : Nat, i ≤ n ∧ g0 = n - i ∧ v83 = .int .i64 i ∧ Kq w wx w.heap.size q BT g c n st v ∧ Hs wx HS n ∧ MInv wx M w.heap.size n n ps)
      case atStart => go_light; exact ⟨0, by omega, rfl, rfl, H2.out⟩
      case round =>
        rename World => w3
        rename_i J3 K3 hJ3 hK3
        obtain ⟨i, hi, rfl, rfl, hk3, hh3, hm3⟩ := hrel
        by_cases hlt : i < n
        · have hlt' : (i : Int) < (n : Int) := by omega
          obtain ⟨y, hy⟩ := hh3.cell i hlt
          have hHlt := hh3.tag.lt
          have hBlt := hk3.ks.tB.lt
          have hBi := hk3.ks.hB i hlt
          have fBi : w3.frozen? ⟨BT, i, none⟩ = false := hk3.ks.tB.frozen
          have cW : Chg [] w3 ((w3.alloc (.cells #[.int .i64 i] 3)).drew) := ((Chg.refl [] w3).alloc _).drew
          have hkW := hk3.step cW (by simp) (by simp) (by simp) (by simp)
          have hmW := hm3.chg cW (by simp) (by simp)
          have hhW := hh3.chg cW (by simp)
          have bp : Blk ((w3.alloc (.cells #[.int .i64 i] 3)).drew) w3.heap.size 3 [.int .i64 i] := (Blk.new w3 3 [.int .i64 i]).drew
          have hkb : Kb ((w3.alloc (.cells #[.int .i64 i] 3)).drew) w.heap.size q w3.heap.size g c n i st v := ⟨hkW.ks.kr', hkW.ks.hb, hkW.hq, bp.cell 0⟩
          have HC := hide (contains30 w.heap.size q w3.heap.size g c n i (lk ps y) st v _ hkb hlt (by omega) (hmW.ints (by omega) y))
          have L0 : ∀ k, (lookHeld 113 (.map (some M)) (.int .u64 k) false).run Ybaz.prog ((w3.alloc (.cells #[.int .i64 i] 3)).drew) = .ok (lk ps k) ((w3.alloc (.cells #[.int .i64 i] 3)).drew) := fun k => run_look (ps := ps) hmW.mb k
          have kBW : ((w3.alloc (.cells #[.int .i64 i] 3)).drew).cell? ⟨BT, i, none⟩ = some (.bool false) := hkW.ks.hB i hlt
          have kHW : ((w3.alloc (.cells #[.int .i64 i] 3)).drew).cell? ⟨HS, i, none⟩ = some (.int .u64 y) := (cell_chg cW hh3.tag (by simp)).trans hy
          have kpW : ((w3.alloc (.cells #[.int .i64 i] 3)).drew).cell? ⟨w3.heap.size, 0, none⟩ = some (.int .i64 i) := bp.cell 0
          have fBW : ((w3.alloc (.cells #[.int .i64 i] 3)).drew).frozen? ⟨BT, i, none⟩ = false := hkW.ks.tB.frozen
          have H3 := hide (And.intro hkW (And.intro hhW (And.intro hmW bp)))
          clear hk3 hh3 hm3 cW hkW hmW hhW bp hkb
          go_wp2
          go_region_held3 (fun w' => w'.cell? ⟨w3.heap.size, 0, none⟩ = some (.int .i64 i) ∧ w'.cell? ⟨HS, i, none⟩ = some (.int .u64 y) ∧ w'.cell? ⟨BT, i, none⟩ = some (.bool false) ∧ w'.frozen? ⟨BT, i, none⟩ = false ∧ (∀ k, (lookHeld 113 (.map (some M)) (.int .u64 k) false).run Ybaz.prog w' = .ok (lk ps k) w')) (first | exact ⟨by assumption, by assumption, by assumption, by assumption, by assumption⟩ | go_keep)
            ((go_at_call 30; refine HC.out.mono ?_; rintro e w5 ⟨rfl, b5⟩; (have c5 : Chg [] ((w3.alloc (.cells #[.int .i64 i] 3)).drew) w5 := Chg.ofBelow b5); (have hk5 := H3.out.1.step c5 (by simp) (by simp) (by simp) (by simp)); (have hh5 := H3.out.2.1.chg c5 (by simp)); (have hm5 := H3.out.2.2.1.chg c5 (by simp) (by simp)); (have bp5 := H3.out.2.2.2.chg c5 (by simp)); (have z1 : w5.cell? ⟨w3.heap.size, 0, none⟩ = some (.int .i64 i) := bp5.cell 0); (have z2 : w5.cell? ⟨HS, i, none⟩ = some (.int .u64 y) := (cell_chg c5 H3.out.2.1.tag (by simp)).trans kHW); (have z3 : w5.cell? ⟨BT, i, none⟩ = some (.bool false) := hk5.ks.hB i hlt); (have z4 : w5.frozen? ⟨BT, i, none⟩ = false := hk5.ks.tB.frozen); (have z5 : ∀ k, (lookHeld 113 (.map (some M)) (.int .u64 k) false).run Ybaz.prog w5 = .ok (lk ps k) w5 := fun k => run_look (ps := ps) hm5.mb k); (have c6 : Chg [BT] w5 (w5.setCell ⟨BT, i, none⟩ (.bool false)) := chg_setCell (a := ⟨BT, i, none⟩) (by simp) _); (have hk6 := hk5.ks.putFalse hlt); (have hh6 := hh5.chg c6 (by simp; exact hh5.tag.ne hk5.ks.tB (by decide))); (have hm6 := hm5.chg c6 (by simp; exact (hm5.mb.ne hk5.ks.tB).symm) (fun g' hg' _ => by simp; exact hg'.ne hk5.ks.tB (by decide))); (have u1 : (w5.setCell ⟨BT, i, none⟩ (.bool false)).cell? ⟨w3.heap.size, 0, none⟩ = some (.int .i64 i) := (bp5.chg c6 (by simp; exact bp5.tag.ne hk5.ks.tB (by decide))).cell 0); (have u2 : (w5.setCell ⟨BT, i, none⟩ (.bool false)).cell? ⟨HS, i, none⟩ = some (.int .u64 y) := (cell_chg c6 hh5.tag (by simp; exact hh5.tag.ne hk5.ks.tB (by decide))).trans z2); (have u3 : (w5.setCell ⟨BT, i, none⟩ (.bool false)).cell? ⟨BT, i, none⟩ = some (.bool false) := hk6.hB i hlt); (have u4 : (w5.setCell ⟨BT, i, none⟩ (.bool false)).frozen? ⟨BT, i, none⟩ = false := hk6.tB.frozen); (have u5 : ∀ k, (lookHeld 113 (.map (some M)) (.int .u64 k) false).run Ybaz.prog (w5.setCell ⟨BT, i, none⟩ (.bool false)) = .ok (lk ps k) (w5.setCell ⟨BT, i, none⟩ (.bool false)) := fun k => run_look (ps := ps) hm6.mb k); (have tq6 := (cell_chg c6 hk5.tq (by simp; exact hk5.tq.ne hk5.ks.tB (by decide))).trans hk5.hq); (have hq6 : Kq w (w5.setCell ⟨BT, i, none⟩ (.bool false)) w.heap.size q BT g c n st v := ⟨hk6, tq6, hk5.tq.setCell _ _ _, hk5.lq⟩); (have H6 := hide (And.intro hq6 (And.intro hh6 hm6))); clear hk5 hh5 hm5 bp5 c5 c6 hk6 hh6 hm6 tq6 hq6 b5))
          all_goals
            go_wp2
            go_roundg (n - (i + 1))
            case measure => go_light; omega
            case rel => go_light; exact ⟨i + 1, by omega, rfl, by go_num, H6.out⟩
        · have hin : i = n := by omega
          subst hin
          have HK3 := hide hk3
          clear hk3 hh3 hm3 hJ3 hK3
          go_wp2
          exact HK0.out _ _ (tail29 _ _ _ _ _ _ _ _ _ _ _ _ _ _ _ _ _ _ _ _ _ _ _ _ _ _ _ _ _ _ _ _ _ _ _ _ _ _ _ _ _ _ _ _ _ _ _ _ _ _ _ _ _ _ _ _ _ _ _ _ _ _ _ _ _ _ _ _ _ _ _ _ _ _ _ _ _ _ _ _ _ _ _ _ _ _ _ _ _ _ _ _ _ _ _ _ _ _ _ _ _ _ _ _ _ _ _ _ _ _ _ _ _ _ _ _ _ _ _ _ _ _ F R _ _ g c i st v ops free cfgs done vis reached charged w w3 HF.out HK3.out.ks (by omega))
end Go.Proofs.YbulkciemGreatDoor
