import Derived.Test.YbulkciemGreatDoorKeepA
namespace Go.Proofs.YbulkciemGreatDoor
open Go.RowKit
set_option linter.unusedVariables false
set_option linter.unusedSimpArgs false
attribute [local go_sem ↓] append_held

theorem Ybaz.info4 : (Ybaz.prog.info? 4).map (fun i => (i.zero, i.size, i.bytes)) = some (some (.bool false), 1, 1) := by kernel_rfl

/-- .. and the closure lies in block q. -/
structure Kq (w0 w : World) (b q BT g c n : Nat) (st : Nat → ByteArray) (v : Nat → Value) : Prop where
  ks : Ks w0 w b BT g c n st v
  hq : w.cell? ⟨q, 0, none⟩ = some (beatsF b)
  tq : Tag w q 111
  lq : w0.heap.size ≤ q
theorem Kq.step {w0 w w' : World} {b q BT g c n : Nat} {st : Nat → ByteArray} {v : Nat → Value} {S : List Nat} (h : Kq w0 w b q BT g c n st v) (hc : Chg S w w') (hS : ∀ s ∈ S, w0.heap.size ≤ s) (h1 : b ∉ S) (h2 : BT ∉ S) (h3 : q ∉ S) : Kq w0 w' b q BT g c n st v :=
  ⟨h.ks.step hc hS h1 h2, (cell_chg hc h.tq h3).trans h.hq, h.tq.chg hc h3, h.lq⟩
theorem made_false (w : World) (n : Nat) : Blk (w.alloc (.cells (madeCells #[.bool false] n) 4)) w.heap.size 4 (List.replicate n (.bool false)) := by
  have := Blk.new w 4 (List.replicate n (.bool false))
  rwa [show (List.replicate n (Value.bool false)).toArray = madeCells #[.bool false] n by rw [← toList_madeCells_one]] at this

theorem kq_start (w : World) (g c n : Nat) (st : Nat → ByteArray) (v : Nat → Value) (hk : Kr w g c n st v) :
    Kq w (((w.alloc (.cells #[.slice (some ⟨g, 0, none⟩) n c] 27)).alloc (.cells #[beatsF w.heap.size] 111)).alloc (.cells (madeCells #[.bool false] n) 4)) w.heap.size (w.heap.size + 1) (w.heap.size + 2) g c n st v := by
  have b0 : Blk (((w.alloc (.cells #[.slice (some ⟨g, 0, none⟩) n c] 27)).alloc (.cells #[beatsF w.heap.size] 111)).alloc (.cells (madeCells #[.bool false] n) 4)) w.heap.size 27 [.slice (some ⟨g, 0, none⟩) n c] := ((Blk.new w 27 [_]).alloc _).alloc _
  have b1 : Blk (((w.alloc (.cells #[.slice (some ⟨g, 0, none⟩) n c] 27)).alloc (.cells #[beatsF w.heap.size] 111)).alloc (.cells (madeCells #[.bool false] n) 4)) (w.heap.size + 1) 111 [beatsF w.heap.size] := by
    have := Blk.new (w.alloc (.cells #[.slice (some ⟨g, 0, none⟩) n c] 27)) 111 [beatsF w.heap.size]
    rw [World.size_alloc] at this
    exact this.alloc _
  have b2 : Blk (((w.alloc (.cells #[.slice (some ⟨g, 0, none⟩) n c] 27)).alloc (.cells #[beatsF w.heap.size] 111)).alloc (.cells (madeCells #[.bool false] n) 4)) (w.heap.size + 2) 4 (List.replicate n (.bool false)) := by
    have := made_false ((w.alloc (.cells #[.slice (some ⟨g, 0, none⟩) n c] 27)).alloc (.cells #[beatsF w.heap.size] 111)) n
    rwa [World.size_alloc, World.size_alloc] at this
  refine ⟨⟨(((Chg.refl [] w).alloc _).alloc _).alloc _, hk, b0.cell 0, b0.tag, b2.tag, ?_, Nat.le_refl _, by omega⟩, b1.cell 0, b1.tag, by omega⟩
  intro i hi
  rw [b2.cell i]
  simp [hi]

theorem store_func (w : World) (g c n : Nat) : (store ⟨w.heap.size + 1, 0, none⟩ (.func (.func 26) #[] #[.pointer (some ⟨w.heap.size, 0, none⟩)])).run Ybaz.prog ((w.alloc (.cells #[.slice (some ⟨g, 0, none⟩) n c] 27)).alloc (.cells #[.nilFunc] 111)) = .ok () ((w.alloc (.cells #[.slice (some ⟨g, 0, none⟩) n c] 27)).alloc (.cells #[.func (.func 26) #[] #[.pointer (some ⟨w.heap.size, 0, none⟩)]] 111)) := by
  have hb : Blk ((w.alloc (.cells #[.slice (some ⟨g, 0, none⟩) n c] 27)).alloc (.cells #[.nilFunc] 111)) (w.heap.size + 1) 111 [.nilFunc] := by
    have := Blk.new (w.alloc (.cells #[.slice (some ⟨g, 0, none⟩) n c] 27)) 111 [.nilFunc]
    rwa [World.size_alloc] at this
  have hc : ((w.alloc (.cells #[.slice (some ⟨g, 0, none⟩) n c] 27)).alloc (.cells #[.nilFunc] 111)).cell? ⟨w.heap.size + 1, 0, none⟩ = some .nilFunc := hb.cell 0
  have hf := hb.frozen 0
  rw [run_store Ybaz.prog _ _ _ _ (by simp [Value.oneCell'])]
  simp only [hc, hf]
  rw [World.setCell_alloc_at _ _ _ _ _ (by simp)]
  simp

set_option maxRecDepth 1000000 in
set_option maxHeartbeats 3200000 in
theorem keep_few (F R g c n : Nat) (st : Nat → ByteArray) (v : Nat → Value) (ops free cfgs done vis reached : Value) (charged : Int) (w : World) (hF : Blk w F 73 (fro F R ops free cfgs done vis reached charged)) (hk : Kr w g c n st v) (h1 : 2 ≤ n) (h2 : n ≤ 32) :
    Calls Ybaz.prog 15 #[.pointer (some ⟨F, 0, none⟩), .slice (some ⟨g, 0, none⟩) n c] w fun e w' => e = .returned (.tuple #[]) ∧ Kept w w' F R n ops free done vis reached charged (rowsN st v n) := by
  have n1 : ¬ ((n : Int) ≤ 1) := by omega
  have n2 : (n : Int) ≤ 32 := by omega
  have hmk := run_make_row' (P := Ybaz.prog) 112 4 (.bool false) 1 Ybaz.underlying112 Ybaz.info4 rfl .i64 .i64 n (by omega) (by omega)
  have hks := kq_start w g c n st v hk
  obtain ⟨W, hW⟩ : ∃ W, W = (((w.alloc (.cells #[.slice (some ⟨g, 0, none⟩) n c] 27)).alloc (.cells #[beatsF w.heap.size] 111)).alloc (.cells (madeCells #[.bool false] n) 4)) := ⟨_, rfl⟩
  rw [← hW] at hks
  have hst := store_func w g c n
  have HF := hide hF
  have HK := hide hks
  have HW := hide hW
  have HR := hide hk
  clear hF hks hW hk
  go_enter Ybaz.func15, Ybaz.ntmps15
  go_wp2_with fail
  rename_i K0 hK0
  have HK0 := hide hK0
  clear hK0
  clear hmk
  go_loopg [33] n (fun g0 v33 wx => ∃ i : Nat, i ≤ n ∧ g0 = n - i ∧ v33 = .int .i64 i ∧ Kq w wx w.heap.size (w.heap.size + 1) (w.heap.size + 2) g c n st v)
  case atStart => go_light; exact ⟨0, by omega, rfl, rfl, HW.out ▸ HK.out⟩
  case round =>
    rename World => w2
    rename_i J2 K2 hJ2 hK2
    obtain ⟨i, hi, rfl, rfl, hk2⟩ := hrel
    by_cases hlt : i < n
    · have hlt' : (i : Int) < (n : Int) := by omega
      have e0 := hk2.ks.hb
      have HK2 := hide hk2
      clear hk2
      go_wp2_with fail
      rename_i K3 hK3
      have HK3 := hide hK3
      clear hK3
      go_loopg [38] n (fun g0 v38 wx => ∃ j : Nat, j ≤ n ∧ g0 = n - j ∧ v38 = .int .i64 j ∧ Kq w wx w.heap.size (w.heap.size + 1) (w.heap.size + 2) g c n st v)
      case atStart => go_light; exact ⟨0, by omega, rfl, rfl, HK2.out⟩
      case round =>
        rename World => w4
        rename_i J4 K4 hJ4 hK4
        obtain ⟨j, hj, rfl, rfl, hk4⟩ := hrel
        by_cases hlj : j < n
        · have hlj' : (j : Int) < (n : Int) := by omega
          have e1 := hk4.hq
          have HB := hide (beats26 w.heap.size g c n i j st v w4 hk4.ks.kr' hk4.ks.hb hlt hlj (by omega))
          have HK4 := hide hk4
          clear hk4
          go_wp2_with (go_at_call 26; refine HB.out.mono ?_; rintro e w5 ⟨rfl, b5⟩; have B5 := hide b5; clear b5)
          go_roundg (n - (j + 1))
          case measure => go_light; omega
          case rel => go_light; exact ⟨j + 1, by omega, rfl, by go_num, HK4.out.step (Chg.ofBelow (S := []) B5.out) (by simp) (by simp) (by simp) (by simp)⟩
        · have hjn : j = n := by omega
          subst hjn
          have HK4 := hide hk4
          clear hk4 hJ4 hK4
          have hK3 := HK3.out
          clear HK3
          go_wp2
          go_roundg (j - (i + 1))
          case measure => go_light; omega
          case rel => go_light; exact ⟨i + 1, by omega, rfl, by go_num, HK4.out⟩
    · have hin : i = n := by omega
      subst hin
      have HK2 := hide hk2
      clear hk2 hJ2 hK2
      go_wp2
      exact HK0.out _ _ (tail29 _ _ _ _ _ _ _ _ _ _ _ _ _ _ _ _ _ _ _ _ _ _ _ _ _ _ _ _ _ _ _ _ _ _ _ _ _ _ _ _ _ _ _ _ _ _ _ _ _ _ _ _ _ _ _ _ _ _ _ _ _ _ _ _ _ _ _ _ _ _ _ _ _ _ _ _ _ _ _ _ _ _ _ _ _ _ _ _ _ _ _ _ _ _ _ _ _ _ _ _ _ _ _ _ _ _ _ _ _ _ _ _ _ _ _ _ _ _ _ _ _ _ F R _ _ g c i st v ops free cfgs done vis reached charged w w2 HF.out HK2.out.ks (by omega))
end Go.Proofs.YbulkciemGreatDoor
