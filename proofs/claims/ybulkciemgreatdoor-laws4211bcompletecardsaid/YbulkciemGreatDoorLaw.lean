import Derived.Test.YbulkciemGreatDoorMid
namespace Go.Proofs.YbulkciemGreatDoor
open Go.RowKit
set_option linter.unusedVariables false
set_option linter.unusedSimpArgs false
attribute [local go_sem ↓] append_held

set_option maxRecDepth 1000000 in
set_option maxHeartbeats 3200000 in
theorem law_few (n icap : Nat) (ia : Option Addr) (bf : Nat → Int) (ex : Nat → Bool) (a : Int) (w : World) (hI : Inp w ia n bf ex) (hT : Tab10 w) (hn : n ≤ 300) (ha0 : 0 ≤ a) (ha1 : a ≤ 255) :
    Calls Ybaz.prog 3 #[.slice ia n icap, .int .u8 a] w fun e w' => e = .returned (.bool true) ∧ Below w.heap.size w w' := by
  have hn' : ¬ ((300 : Int) < (n : Int)) := by omega
  obtain ⟨t0, ht0, hz0, hz1, hz2⟩ := info_parts Ybaz.info37
  obtain ⟨w1, hmk, hmo, hmg⟩ := run_make_own (P := Ybaz.prog) ((w.alloc (.cells #[.int .u8 a] 5)).alloc (.cells #[.slice none 0 0] 23)) w.heap.size 27 37 t0 _ 6 Ybaz.underlying27 ht0 hz0 hz1 .i64 .i64 n (by rw [hz2]; omega) (by unfold maxLen; omega) (by simp; omega)
  have c1 : Chg [] ((w.alloc (.cells #[.int .u8 a] 5)).alloc (.cells #[.slice none 0 0] 23)) w1 := chg_grown hmg (by simp)
  have bA : Blk w1 w.heap.size 5 [.int .u8 a] := ((Blk.new w 5 [.int .u8 a]).alloc _).chg c1 (by simp)
  have bL : Blk w1 (w.heap.size + 1) 23 [.slice none 0 0] := by
    have := Blk.new (w.alloc (.cells #[.int .u8 a] 5)) 23 [.slice none 0 0]
    rw [World.size_alloc] at this
    exact this.chg c1 (by simp)
  have h0 : Hd w w1 0 w.heap.size (w.heap.size + 1) a (.slice (some ⟨((w.alloc (.cells #[.int .u8 a] 5)).alloc (.cells #[.slice none 0 0] 23)).heap.size, 0, none⟩) 0 n) (fun _ => .bool true) (kOf bf) ex := ⟨((((Chg.refl [] w).alloc _).alloc _).trans c1).below (by simp) (Nat.le_refl _), bA, bL, hmo, fun j hj => by omega⟩
  simp only [World.size_alloc] at h0
  have H0 := hide h0
  have HI := hide hI
  have HT := hide hT
  clear h0 hI hT c1 bA bL hmo hmg
  go_enter Ybaz.func3, Ybaz.ntmps3
  go_wp2_with fail
  rename_i K0 hK0
  have HK0 := hide hK0
  clear hK0 hmk
  go_loopg [7, 28] n (fun g0 v7 v28 wx => ∃ (i G c : Nat) (tk : Nat → Value), i ≤ n ∧ g0 = n - i ∧ v28 = .int .i64 i ∧ v7 = .slice (some ⟨G, 0, none⟩) i c ∧ Hd w wx i w.heap.size (w.heap.size + 1) a v7 tk (kOf bf) ex)
  case atStart => go_light; exact ⟨0, _, _, _, by omega, rfl, rfl, rfl, H0.out⟩
  case round =>
    rename World => w2
    rename_i J2 K2 hJ2 hK2
    obtain ⟨i, G, c, tk, hi, rfl, rfl, rfl, hd⟩ := hrel
    by_cases hlt : i < n
    · have hlt' : (i : Int) < (n : Int) := by omega
      rcases HI.out.below hd.below with hz | ⟨b, off, hia, hblt, hin⟩
      · omega
      obtain ⟨h1, h2, h3, h4⟩ := hin i hlt
      have htb : tbl (kOf bf i) = tbl (bf i % 4) := by
        unfold kOf
        rw [Int.toNat_of_nonneg (by omega)]
      have HB := fun w => hide (tbl5 (bf i) w h3 h4)
      obtain ⟨sx, hsx⟩ : ∃ sx, tbl (bf i % 4) = sx := ⟨_, rfl⟩
      rw [hsx] at htb HB
      have HTB := hide htb
      have HD := hide hd
      have hlw := hd.below.size
      subst hia
      clear hsx htb hin hd
      cases hex : ex i with
      | false =>
        rw [hex] at h2
        obtain ⟨g1, q1, w4, hr1, ho1, hc1⟩ := appT (w2.alloc (.cells #[.int .u8 (bf i), .bool false] 29)) w.heap.size 0 (.slice none 0 0) [] 1 sx ⟨rfl, .inl ⟨rfl, rfl⟩⟩ (by omega) (by simp; omega)
        have c24 : Chg [] w2 w4 := ((Chg.refl [] w2).alloc _).trans (by simpa [Value.ownBlock] using hc1)
        have htk : TkIn w4 (ex i) (tbl (kOf bf i)) (.slice (some ⟨g1, 0, none⟩) 1 q1) := by rw [hex, HTB.out]; exact tk_one ho1
        rw [World.size_alloc] at hr1
        have b24 : Below w.heap.size w w4 := HD.out.below.trans (c24.below (by simp) hlw)
        have HIt := hide (itoa6 i (by omega) w4 (tab_below HT.out b24))
        have hsum := sum_num i (by omega)
        have H4 := hide (And.intro c24 (And.intro htk b24))
        clear c24 htk b24 ho1 hc1
        go_wp2_with (first | (go_at_call 5; refine (HB _).out.mono ?_; rintro e w3 ⟨rfl, rfl⟩) | (go_at_call 6; refine HIt.out.mono ?_; rintro e w5 ⟨rfl, b5⟩; refine Hid.out ?_))
        refine hide ?_
        have c25 : Chg [] w2 w5 := H4.out.1.trans (Chg.ofBelow b5)
        have ho5 := owns_chg HD.out.own c25 (by simp)
        obtain ⟨g6, c6, w6, hr6, ho6, hc6⟩ := appC w5 w.heap.size i (.slice (some ⟨G, 0, none⟩) i c) _ (⟨#[115]⟩ ++ num i) g1 1 q1 ho5 (by omega) (Nat.le_trans hlw c25.size)
        have h6 : Hd w w6 (i + 1) w.heap.size (w.heap.size + 1) a (.slice (some ⟨g6, 0, none⟩) (i + 1) c6) _ (kOf bf) ex := HD.out.step H4.out.1 H4.out.2.1 b5 ho6 (by simpa [Value.ownBlock] using hc6)
        have H6 := hide h6
        clear h6 ho6 hc6 ho5 c25 b5
        go_wp2
        go_roundg (n - (i + 1))
        case measure => go_light; omega
        case rel => go_light; exact ⟨i + 1, g6, c6, _, by omega, rfl, by go_num, rfl, H6.out⟩
      | true =>
        rw [hex] at h2
        obtain ⟨g1, q1, w3, hr1, ho1, hc1⟩ := appT (w2.alloc (.cells #[.int .u8 (bf i), .bool true] 29)) w2.heap.size 0 (.slice none 0 0) [] 0 ⟨#[113]⟩ ⟨rfl, .inl ⟨rfl, rfl⟩⟩ (by omega) (by simp)
        have c23 : Chg [] w2 w3 := ((Chg.refl [] w2).alloc _).trans (by simpa [Value.ownBlock] using hc1)
        have bx3 : Blk w3 w2.heap.size 29 [.int .u8 (bf i), .bool true] := (Blk.new w2 29 [.int .u8 (bf i), .bool true]).chg (by simpa [Value.ownBlock] using hc1) (by simp)
        have hfr : w2.heap.size ≤ g1 := (owned_block ho1 (g := g1) rfl).1
        have y0 : w3.cell? ⟨w2.heap.size, 0, none⟩ = some (.int .u8 (bf i)) := bx3.cell 0
        obtain ⟨g2, q2, w4, hr2, ho2, hc2⟩ := appT w3 w2.heap.size 1 (.slice (some ⟨g1, 0, none⟩) 1 q1) _ 1 sx ho1 (by omega) c23.size
        have c24 : Chg [] w2 w4 := c23.trans' hc2 (by intro s hs hl; simp [Value.ownBlock] at hs; omega)
        have htk : TkIn w4 (ex i) (tbl (kOf bf i)) (.slice (some ⟨g2, 0, none⟩) 2 q2) := by rw [hex, HTB.out]; exact tk_two ho2
        rw [World.size_alloc] at hr1
        have b24 : Below w.heap.size w w4 := HD.out.below.trans (c24.below (by simp) hlw)
        have HIt := hide (itoa6 i (by omega) w4 (tab_below HT.out b24))
        have hsum := sum_num i (by omega)
        have H4 := hide (And.intro c24 (And.intro htk b24))
        clear c24 htk b24 ho1 hc1 ho2 hc2 bx3 hfr c23
        go_wp2_with (first | (go_at_call 5; refine (HB _).out.mono ?_; rintro e w3 ⟨rfl, rfl⟩) | (go_at_call 6; refine HIt.out.mono ?_; rintro e w5 ⟨rfl, b5⟩; refine Hid.out ?_))
        refine hide ?_
        have c25 : Chg [] w2 w5 := H4.out.1.trans (Chg.ofBelow b5)
        have ho5 := owns_chg HD.out.own c25 (by simp)
        obtain ⟨g6, c6, w6, hr6, ho6, hc6⟩ := appC w5 w.heap.size i (.slice (some ⟨G, 0, none⟩) i c) _ (⟨#[115]⟩ ++ num i) g2 2 q2 ho5 (by omega) (Nat.le_trans hlw c25.size)
        have h6 : Hd w w6 (i + 1) w.heap.size (w.heap.size + 1) a (.slice (some ⟨g6, 0, none⟩) (i + 1) c6) _ (kOf bf) ex := HD.out.step H4.out.1 H4.out.2.1 b5 ho6 (by simpa [Value.ownBlock] using hc6)
        have H6 := hide h6
        clear h6 ho6 hc6 ho5 c25 b5
        go_wp2
        go_roundg (n - (i + 1))
        case measure => go_light; omega
        case rel => go_light; exact ⟨i + 1, g6, c6, _, by omega, rfl, by go_num, rfl, H6.out⟩
    · have hin : n = i := by omega
      subst hin
      have he := ent_of hd hn ha0 ha1
      have hAt := he.hAt
      have hAc := he.hA
      have hAS : w.heap.size ∉ [w2.heap.size + 1, w2.heap.size, w.heap.size + 1, w2.heap.size + 1 + 1 + 1] := by
        have h1 := hd.bL.lt
        simp
        omega
      have hS : ∀ s ∈ [w2.heap.size + 1, w2.heap.size, w.heap.size + 1, w2.heap.size + 1 + 1 + 1], w.heap.size ≤ s := by
        have h1 := hd.bL.lt
        simp
        omega
      have hb8 : Below w.heap.size w (handed w2 G n c) := hd.below.trans ((chg_handed w2 G n c).below (by simp) hd.below.size)
      have HC := hide (complete8 _ _ _ _ _ _ _ _ _ _ _ _ _ _ _ _ he)
      have HP := hide (fun w9 (hp : Cpl (handed w2 G n c) w9 (w2.heap.size + 1) w2.heap.size (w.heap.size + 1) (w2.heap.size + 1 + 1 + 1) n 2 stN ex (kOf bf) a (doneF (w.heap.size + 1) w.heap.size)) => aft_of hp hb8 hS HI.out HT.out hAc hAt hAS)
      have HW : Hid (handed w2 G n c = (((w2.alloc (.cells (roo 1099511627776).toArray 44)).alloc (.cells (fr0 w2.heap.size (.slice (some ⟨w2.heap.size + 1 + 1 + 1, 0, none⟩) 2 2) (.slice (some ⟨G, 0, none⟩) n c)).toArray 73)).alloc (.cells mon.toArray 80)).alloc (.cells #[.pointer none, .pointer (some ⟨w2.heap.size + 1 + 1, 0, none⟩)] 74)) := rfl
      obtain ⟨PW, hPW⟩ : ∃ PW, PW = handed w2 G n c := ⟨_, rfl⟩
      rw [← hPW] at HP HC HW
      rw [HW.out] at HC HP
      simp only [roo, fr0] at HC HP
      clear hd he hAt hAc hAS hS hb8 hJ2 hK2 hPW HW
      have hK0 := HK0.out
      clear HK0
      go_upto_region 18 with (go_at_call 7; refine (bg7 _).mono ?_; rintro e w3 ⟨rfl, hw3⟩; have hw4 := hw3.symm; subst hw4)
      rename_i K1 hK1
      have HK1 := hide hK1
      clear hK1
      go_wp2_with (go_at_call 8; refine HC.out.mono ?_; rintro e w9 ⟨rfl, hp⟩; refine Hid.out ?_)
      obtain ⟨gf, cf, cn, vc, lc, va, la, v, hA, hb9⟩ := HP.out w9 hp
      have HA := hide (And.intro hA hb9)
      clear hp hA hb9
      refine hide ?_
      go_wp2
      exact HK1.out _ _ (tail19 _ _ _ _ _ _ _ _ _ _ _ _ _ _ _ _ _ _ _ _ _ _ _ _ _ _ _ _ _ _ _ _ _ _ _ _ _ _ _ _ _ _ _ _ _ _ _ _ _ _ _ _ _ _ _ _ _ _ _ _ _ _ _ _ _ _ _ _ _ _ _ _ _ _ _ _ _ _ _ _ _ _ _ _ _ _ _ _ _ _ _ _ _ _ _ _ _ _ _ _ _ _ _ _ _ _ _ _ _ _ _ _ _ _ _ _ _ _ _ _ _ _ _ _ _ _ _ _ _ _ _ _ _ _ _ _ _ _ _ _ _ _ _ _ _ _ _ _ _ _ _ _ _ _ _ _ _ _ _ _ _ _ _ _ _ _ _ _ _ _ _ _ _ _ _ _ _ _ _ _ _ _ _ _ _ _ _ _ _ _ _ _ _ _ _ _ _ _ _ _ _ _ _ _ _ _ _ _ _ _ _ _ _ _ _ _ _ _ _ _ _ _ _ _ _ _ _ _ 2 gf cf n cn vc lc icap ia va la bf ex v a w w9 HA.out.1 HA.out.2 hn ha0 ha1)
end Go.Proofs.YbulkciemGreatDoor
