import Derived.Test.YbulkciemGreatDoorReach
namespace Go.Proofs.YbulkciemGreatDoor
open Go.RowKit
set_option linter.unusedVariables false
set_option linter.unusedSimpArgs false
attribute [local go_sem ↓] append_held

theorem Ybaz.info9 : (Ybaz.prog.info? 9).map (fun i => (i.zero, i.size, i.bytes)) = some (some (.string ⟨#[]⟩), 1, 16) := by kernel_rfl

theorem Chg.drewN {S : List Nat} {w w' : World} (h : Chg S w w') (n : Nat) : Chg S w (w'.drewN n) := ⟨h.os, h.tape, h.output, h.size, h.block⟩
theorem tbl_at (j : Int) (b : ByteArray) (w : World) (h0 : 0 ≤ j) (h1 : j ≤ 255) (h : tbl (j % 4) = b) : Calls Ybaz.prog 5 #[.int .u8 j] w fun e w' => e = .returned (.string b) ∧ w' = w := by
  have := tbl5 j w h0 h1
  rwa [h] at this

/-- Whether bit k of a is set, as the walk spells it. -/
def accb (a : Int) (k : Nat) : Bool :=
  match k with
  | 0 => bits .and .u8 a 1 == 1
  | 1 => bits .and .u8 (a / 2) 1 == 1
  | 2 => bits .and .u8 (a / 4) 1 == 1
  | _ => bits .and .u8 (a / 8) 1 == 1

set_option maxRecDepth 6000 in
set_option maxHeartbeats 1600000 in
theorem done4 (k LP AC n base : Nat) (hk : k < 4) (a : Int) (logv : Value) (strs : List Value) (w : World)
    (hL : Blk w LP 23 [logv]) (hA : w.cell? ⟨AC, 0, none⟩ = some (.int .u8 a)) (hAt : Tag w AC 5) (ha0 : 0 ≤ a) (ha1 : a ≤ 255)
    (ho : w.ownsRow base 9 1 logv n strs) (hn : n ≤ 1000) (hbase : base ≤ w.heap.size) :
    Calls Ybaz.prog 4 #[.string (tbl k), .pointer (some ⟨LP, 0, none⟩), .pointer (some ⟨AC, 0, none⟩)] w fun e w' => ∃ (t : ByteArray) (logv' : Value), e = .returned (.tuple #[.string t, .bool (accb a k)]) ∧ Blk w' LP 23 [logv'] ∧
      w'.ownsRow base 9 1 logv' (n + 1) (strs ++ [.string (tbl k)]) ∧ Chg (LP :: logv.ownBlock.toList) w w' := by
  have e0 : w.cell? ⟨LP, 0, none⟩ = some logv := hL.cell 0
  have f0 := hL.frozen 0
  have hlt := hL.lt
  obtain ⟨s, hs⟩ : ∃ s, tbl (k : Int) = s := ⟨_, rfl⟩
  obtain ⟨t0, ht0, hz0, hz1, hz2⟩ := info_parts Ybaz.info9
  rw [hs]
  obtain ⟨v', w1, hrun, hown', hgrow, hnil', hblk⟩ := run_append_own_at (P := Ybaz.prog) (w.alloc (.cells #[.string s] 9)) base 23 23 9 t0 _ 1 16 Ybaz.underlying23 ht0 hz0 hz1 hz2 rfl (by decide) logv n strs (ho.alloc _) ⟨w.heap.size, 0, none⟩ 1 1 [.string s] rfl
    (by
      intro j u hj
      rw [Addr.add_lit]
      have := (Blk.new w 9 [.string s]).cell j
      rw [hj] at this
      simpa using this)
    (by intro u hu; simp at hu; subst hu; rfl) (by unfold maxLen; omega) (by omega) (by simp; omega)
  obtain ⟨g', c', rfl, hg', htag⟩ := owned_slice hown' (by omega)
  have hLr : LP ∉ logv.ownBlock.toList := by
    intro hm
    rw [Option.mem_toList] at hm
    exact hL.tag.ne (owned_block ho hm).2 (by decide) rfl
  have cg : Chg logv.ownBlock.toList w w1 := by
    refine Chg.trans ((Chg.refl _ w).alloc _) (chg_grown hgrow ?_)
    intro k hk _
    simp [hk]
  have hAr : AC ∉ logv.ownBlock.toList := by
    intro hm
    rw [Option.mem_toList] at hm
    exact hAt.ne (owned_block ho hm).2 (by decide) rfl
  have hL1 := hL.chg cg hLr
  have hA1 : w1.cell? ⟨AC, 0, none⟩ = some (.int .u8 a) := (cell_chg cg hAt hAr).trans hA
  have hALP : AC ≠ LP := hAt.ne hL.tag (by decide)
  have x0 : w1.cell? ⟨LP, 0, none⟩ = some logv := hL1.cell 0
  have y0 := hL1.frozen 0
  have hrun' : Sem.run Ybaz.prog (appendHeld #[23, 23] 23 #[logv, .slice (some ⟨w.heap.size, 0, none⟩) 1 1]) (w.alloc (.cells #[.string s] 9)) = .ok (.slice (some ⟨g', 0, none⟩) (n + 1) c') w1 := hrun
  have hL2 : Blk (w1.setCell ⟨LP, 0, none⟩ (.slice (some ⟨g', 0, none⟩) (n + 1) c')) LP 23 [.slice (some ⟨g', 0, none⟩) (n + 1) c'] := hL1.put 0 _
  have c2 : Chg [LP] w1 (w1.setCell ⟨LP, 0, none⟩ (.slice (some ⟨g', 0, none⟩) (n + 1) c')) := chg_setCell (a := ⟨LP, 0, none⟩) (by simp) _
  have hgL : g' ≠ LP := htag.ne hL1.tag (by decide)
  have hown2 := owns_chg hown' c2 (by intro k hk; simp [Value.ownBlock] at hk; subst hk; simpa using hgL)
  have c3 : Chg (LP :: logv.ownBlock.toList) w (w1.setCell ⟨LP, 0, none⟩ (.slice (some ⟨g', 0, none⟩) (n + 1) c')) := (cg.mono (by intro s hs _; simp; exact .inr (by simpa using hs))).trans (c2.mono (by intro s hs _; simp at hs; subst hs; simp))
  have H := hide (And.intro hL2 (And.intro hown2 c3))
  clear hL hA ho hown' hgrow hrun hL1 hL2 c2 c3 cg hown2 hblk hLr hAr hAt
  have HS := hide hs
  clear hs
  go_enter Ybaz.func4, Ybaz.ntmps4
  go_wp2_with fail
  rename_i K0 hK0
  have HK0 := hide hK0
  clear hK0
  go_loopg [6] 4 (fun g0 v6 wx => ∃ j : Nat, j ≤ k ∧ g0 = 4 - j ∧ v6 = .int .u8 j ∧ wx = w1.setCell ⟨LP, 0, none⟩ (.slice (some ⟨g', 0, none⟩) (n + 1) c'))
  case atStart => go_light; exact ⟨0, by omega, rfl, rfl, rfl⟩
  case round =>
    rename World => w2
    rename_i J2 K2 hJ2 hK2
    obtain ⟨j, hj, rfl, rfl, rfl⟩ := hrel
    have hjk : (k = 0 ∧ j = 0) ∨ (k = 1 ∧ j = 1) ∨ (k = 2 ∧ j = 2) ∨ (k = 3 ∧ j = 3) ∨ (k = 1 ∧ j = 0) ∨ (k = 2 ∧ j = 0) ∨ (k = 2 ∧ j = 1) ∨ (k = 3 ∧ j = 0) ∨ (k = 3 ∧ j = 1) ∨ (k = 3 ∧ j = 2) := by omega
    have hs := HS.out
    clear HS
    rcases hjk with ⟨rfl, rfl⟩ | ⟨rfl, rfl⟩ | ⟨rfl, rfl⟩ | ⟨rfl, rfl⟩ | ⟨rfl, rfl⟩ | ⟨rfl, rfl⟩ | ⟨rfl, rfl⟩ | ⟨rfl, rfl⟩ | ⟨rfl, rfl⟩ | ⟨rfl, rfl⟩
    · simp [tbl] at hs
      subst hs
      clear hJ2 hK2
      go_wp2_with (go_at_call 5; refine (tbl_at _ ⟨#[]⟩ _ (by omega) (by omega) rfl).mono ?_; rintro e w3 ⟨rfl, rfl⟩)
      go_quiet (fail)
      go_wp2
      go_ret2
      exact ⟨_, _, rfl, H.out.1, H.out.2.1, H.out.2.2.drewN _⟩
    · simp [tbl] at hs
      subst hs
      clear hJ2 hK2
      go_wp2_with (go_at_call 5; refine (tbl_at _ ⟨#[97]⟩ _ (by omega) (by omega) rfl).mono ?_; rintro e w3 ⟨rfl, rfl⟩)
      go_quiet (fail)
      go_wp2
      go_ret2
      exact ⟨_, _, rfl, H.out.1, H.out.2.1, H.out.2.2.drewN _⟩
    · simp [tbl] at hs
      subst hs
      clear hJ2 hK2
      go_wp2_with (go_at_call 5; refine (tbl_at _ ⟨#[98]⟩ _ (by omega) (by omega) rfl).mono ?_; rintro e w3 ⟨rfl, rfl⟩)
      go_quiet (fail)
      go_wp2
      go_ret2
      exact ⟨_, _, rfl, H.out.1, H.out.2.1, H.out.2.2.drewN _⟩
    · simp [tbl] at hs
      subst hs
      clear hJ2 hK2
      go_wp2_with (go_at_call 5; refine (tbl_at _ ⟨#[97, 98]⟩ _ (by omega) (by omega) rfl).mono ?_; rintro e w3 ⟨rfl, rfl⟩)
      go_quiet (fail)
      go_wp2
      go_ret2
      exact ⟨_, _, rfl, H.out.1, H.out.2.1, H.out.2.2.drewN _⟩
    · simp [tbl] at hs
      subst hs
      go_wp2_with (go_at_call 5; refine (tbl_at _ ⟨#[]⟩ _ (by omega) (by omega) rfl).mono ?_; rintro e w3 ⟨rfl, rfl⟩)
      go_roundg 3
      case measure => go_light; omega
      case rel => go_light; exact ⟨1, by omega, by omega, rfl, rfl⟩
    · simp [tbl] at hs
      subst hs
      go_wp2_with (go_at_call 5; refine (tbl_at _ ⟨#[]⟩ _ (by omega) (by omega) rfl).mono ?_; rintro e w3 ⟨rfl, rfl⟩)
      go_roundg 3
      case measure => go_light; omega
      case rel => go_light; exact ⟨1, by omega, by omega, rfl, rfl⟩
    · simp [tbl] at hs
      subst hs
      go_wp2_with (go_at_call 5; refine (tbl_at _ ⟨#[97]⟩ _ (by omega) (by omega) rfl).mono ?_; rintro e w3 ⟨rfl, rfl⟩)
      go_roundg 2
      case measure => go_light; omega
      case rel => go_light; exact ⟨2, by omega, by omega, rfl, rfl⟩
    · simp [tbl] at hs
      subst hs
      go_wp2_with (go_at_call 5; refine (tbl_at _ ⟨#[]⟩ _ (by omega) (by omega) rfl).mono ?_; rintro e w3 ⟨rfl, rfl⟩)
      go_roundg 3
      case measure => go_light; omega
      case rel => go_light; exact ⟨1, by omega, by omega, rfl, rfl⟩
    · simp [tbl] at hs
      subst hs
      go_wp2_with (go_at_call 5; refine (tbl_at _ ⟨#[97]⟩ _ (by omega) (by omega) rfl).mono ?_; rintro e w3 ⟨rfl, rfl⟩)
      go_roundg 2
      case measure => go_light; omega
      case rel => go_light; exact ⟨2, by omega, by omega, rfl, rfl⟩
    · simp [tbl] at hs
      subst hs
      go_wp2_with (go_at_call 5; refine (tbl_at _ ⟨#[98]⟩ _ (by omega) (by omega) rfl).mono ?_; rintro e w3 ⟨rfl, rfl⟩)
      go_roundg 1
      case measure => go_light; omega
      case rel => go_light; exact ⟨3, by omega, by omega, rfl, rfl⟩
end Go.Proofs.YbulkciemGreatDoor
