import Derived.Test.YbulkciemGreatDoorDone
import Derived.Deep.RegionHeld3
namespace Go.Proofs.YbulkciemGreatDoor
open Go.RowKit
set_option linter.unusedVariables false
set_option linter.unusedSimpArgs false

abbrev doneF (LP AC : Nat) : Value := .func (.func 4) #[] #[.pointer (some ⟨LP, 0, none⟩), .pointer (some ⟨AC, 0, none⟩)]

/-- Where slot 1 stands among the taken, and what was before it. -/
theorem taken_at (x : Bool) (b : ByteArray) (tk : Value) (w : World) (h : TkIn w x b tk) :
    ∃ g c m i : Nat, tk = .slice (some ⟨g, 0, none⟩) m c ∧ i < m ∧ m ≤ 2 ∧ w.cell? ⟨g, i * 2 + 1, none⟩ = some (.string b) ∧ Tag w g 32 ∧
      (∀ (st : ByteArray) (w' : World), TkIn w' x b tk → Calls Ybaz.prog 17 #[cfg st tk, .int .i64 1] w' fun e w'' => e = .returned (.int .i64 i) ∧ Below w'.heap.size w' w'') := by
  obtain ⟨g, c, ht, ⟨rfl, rfl, h0, h1⟩ | ⟨rfl, rfl, h0, h1, h2, h3⟩⟩ := h
  · refine ⟨g, c, 1, 0, rfl, by omega, by omega, h1, ht, ?_⟩
    rintro st w' ⟨g', c', ht', ⟨_, he, h0, h1⟩ | ⟨h, _⟩⟩
    · simp at he
      obtain ⟨rfl, rfl⟩ := he
      exact index_one st b g 0 c w' _ _ _ _ rfl rfl rfl rfl ht'.lt h0 h1
    · cases h
  · refine ⟨g, c, 2, 1, rfl, by omega, by omega, h3, ht, ?_⟩
    rintro st w' ⟨g', c', ht', ⟨h, _⟩ | ⟨_, he, h0, h1, h2, h3⟩⟩
    · cases h
    · simp at he
      obtain ⟨rfl, rfl⟩ := he
      exact index_two st b ⟨#[113]⟩ g 0 c w' _ _ _ _ rfl rfl rfl rfl ht'.lt h0 h1 h2 h3

/-- What stands in memory while the chain goes over the configurations. -/
structure Stt (w : World) (F R LP AC n m base : Nat) (ops free cfgs vis reached logv : Value) (cs strs : List Value) (charged left a : Int) : Prop where
  hF : Blk w F 73 (fro F R ops free cfgs (doneF LP AC) vis reached charged)
  hR : Blk w R 44 (roo left)
  ho : w.ownsRow base 37 6 reached n cs
  hL : Blk w LP 23 [logv]
  hA : w.cell? ⟨AC, 0, none⟩ = some (.int .u8 a)
  hAt : Tag w AC 5
  hol : w.ownsRow base 9 1 logv m strs
section
variable {w w' : World} {F R LP AC n m base : Nat} {ops free cfgs vis reached logv : Value} {cs strs : List Value} {charged left a : Int}
theorem Stt.chg (h : Stt w F R LP AC n m base ops free cfgs vis reached logv cs strs charged left a) (hc : Chg [] w w') : Stt w' F R LP AC n m base ops free cfgs vis reached logv cs strs charged left a :=
  ⟨h.hF.chg hc (by simp), h.hR.chg hc (by simp), owns_chg h.ho hc (by simp), h.hL.chg hc (by simp), (cell_chg hc h.hAt (by simp)).trans h.hA, h.hAt.chg hc (by simp), owns_chg h.hol hc (by simp)⟩
theorem Stt.offLog (h : Stt w F R LP AC n m base ops free cfgs vis reached logv cs strs charged left a) {g : Nat} {e : TypeId} (ht : Tag w g e) (h1 : e ≠ 23) (h2 : e ≠ 9) : g ∉ LP :: logv.ownBlock.toList := by
  intro hm
  rcases List.mem_cons.1 hm with rfl | hm
  · exact ht.ne h.hL.tag h1 rfl
  · rw [Option.mem_toList] at hm
    exact ht.ne (owned_block h.hol hm).2 h2 rfl
theorem Stt.noTkLog (h : Stt w F R LP AC n m base ops free cfgs vis reached logv cs strs charged left a) : NoTk w (LP :: logv.ownBlock.toList) := by
  intro s hs arr ha
  exact h.offLog ⟨arr, ha⟩ (by decide) (by decide) hs
theorem Stt.logged {logv2 : Value} {m2 : Nat} {strs2 : List Value} (h : Stt w F R LP AC n m base ops free cfgs vis reached logv cs strs charged left a) (hc : Chg (LP :: logv.ownBlock.toList) w w') (hl : Blk w' LP 23 [logv2]) (hol : w'.ownsRow base 9 1 logv2 m2 strs2) :
    Stt w' F R LP AC n m2 base ops free cfgs vis reached logv2 cs strs2 charged left a :=
  ⟨h.hF.chg hc (h.offLog h.hF.tag (by decide) (by decide)), h.hR.chg hc (h.offLog h.hR.tag (by decide) (by decide)), owns_chg h.ho hc (fun k hk => h.offLog (owned_block h.ho hk).2 (by decide) (by decide)), hl, (cell_chg hc h.hAt (h.offLog h.hAt (by decide) (by decide))).trans h.hA, h.hAt.chg hc (h.offLog h.hAt (by decide) (by decide)), hol⟩
theorem Stt.off (h : Stt w F R LP AC n m base ops free cfgs vis reached logv cs strs charged left a) {b : Nat} (hc : Chg [b] w w') (hb : Tag w b 37) (hr : ∀ k, reached.ownBlock = some k → k ≠ b) :
    Stt w' F R LP AC n m base ops free cfgs vis reached logv cs strs charged left a :=
  ⟨h.hF.chg hc (by simp; exact h.hF.tag.ne hb (by decide)), h.hR.chg hc (by simp; exact h.hR.tag.ne hb (by decide)), owns_chg h.ho hc (fun k hk => by simpa using hr k hk), h.hL.chg hc (by simp; exact h.hL.tag.ne hb (by decide)),
    (cell_chg hc h.hAt (by simp; exact h.hAt.ne hb (by decide))).trans h.hA, h.hAt.chg hc (by simp; exact h.hAt.ne hb (by decide)), owns_chg h.hol hc (fun k hk => by simp; exact (owned_block h.hol hk).2.ne hb (by decide))⟩
theorem Stt.offReach (h : Stt w F R LP AC n m base ops free cfgs vis reached logv cs strs charged left a) {g : Nat} {e : TypeId} (ht : Tag w g e) (h1 : e ≠ 73) (h2 : e ≠ 44) (h3 : e ≠ 37) : g ∉ F :: R :: reached.ownBlock.toList := by
  intro hm
  rcases List.mem_cons.1 hm with rfl | hm
  · exact ht.ne h.hF.tag h1 rfl
  rcases List.mem_cons.1 hm with rfl | hm
  · exact ht.ne h.hR.tag h2 rfl
  · rw [Option.mem_toList] at hm
    exact ht.ne (owned_block h.ho hm).2 h3 rfl
theorem Stt.reachd {reached2 : Value} {n2 : Nat} {cs2 : List Value} {charged2 left2 : Int} (h : Stt w F R LP AC n m base ops free cfgs vis reached logv cs strs charged left a) (hc : Chg (F :: R :: reached.ownBlock.toList) w w')
    (hF : Blk w' F 73 (fro F R ops free cfgs (doneF LP AC) vis reached2 charged2)) (hR : Blk w' R 44 (roo left2)) (ho : w'.ownsRow base 37 6 reached2 n2 cs2) :
    Stt w' F R LP AC n2 m base ops free cfgs vis reached2 logv cs2 strs charged2 left2 a :=
  ⟨hF, hR, ho, h.hL.chg hc (h.offReach h.hL.tag (by decide) (by decide) (by decide)), (cell_chg hc h.hAt (h.offReach h.hAt (by decide) (by decide) (by decide))).trans h.hA, h.hAt.chg hc (h.offReach h.hAt (by decide) (by decide) (by decide)), owns_chg h.hol hc (fun k hk => h.offReach (owned_block h.hol hk).2 (by decide) (by decide) (by decide))⟩
theorem TkOut.slice {w : World} {x : Bool} {v : Value} (h : TkOut w x v) : ∃ g l c, v = .slice (some ⟨g, 0, none⟩) l c := by
  obtain ⟨g, c, ⟨_, rfl⟩ | ⟨_, rfl, _⟩⟩ := h
  · exact ⟨g, 0, c, rfl⟩
  · exact ⟨g, 1, c, rfl⟩
end

set_option maxRecDepth 6000 in
set_option maxHeartbeats 1600000 in
theorem from11 (k F R LP AC n m base : Nat) (hk : k < 4) (st : ByteArray) (x : Bool) (a : Int) (tk ops free cfgs vis reached logv : Value) (cs strs : List Value) (charged left : Int) (w : World)
    (hs : Stt w F R LP AC n m base ops free cfgs vis reached logv cs strs charged left a) (h1 : 0 < st.size) (h2 : st.size ≤ 1000) (hv : TkIn w x (tbl k) tk)
    (hn : n ≤ 1000) (hbase : base ≤ w.heap.size) (ha0 : 0 ≤ a) (ha1 : a ≤ 255) (hm : m ≤ 1000)
    (h3 : 1000000 ≤ left) (h4 : left ≤ 1099511627776) (h5 : 0 ≤ charged) (h6 : charged ≤ 1000000000) :
    Calls Ybaz.prog 11 #[.pointer (some ⟨F, 16, none⟩), cfg st tk] w fun e w' => ∃ (reached' logv' v' : Value) (q n' : Nat) (cs' : List Value), e = .returned (.tuple #[]) ∧ q ≤ 200000 ∧
      Stt w' F R LP AC n' (m + 1) base ops free cfgs vis reached' logv' cs' (strs ++ [.string (tbl k)]) (charged + q) (left - q) a ∧
      ((accb a k = true ∧ TkOut w' x v' ∧ n' = n + 1 ∧ cs' = cs ++ cells6 st v') ∨ (accb a k = false ∧ n' = n ∧ cs' = cs)) ∧
      Chg ([F, R, LP] ++ reached.ownBlock.toList ++ logv.ownBlock.toList) w w' := by
  obtain ⟨g, c, mm, i, rfl, him, hmm, hcell, htg, hix⟩ := taken_at x (tbl k) tk w hv
  have him' : (i : Int) < (mm : Int) := by omega
  have e18 : w.cell? ⟨F, 18, none⟩ = some (.int .i64 1) := hs.hF.cell 18
  have hFlt := hs.hF.lt
  have HRB := hide (fun k (hk : reached.ownBlock = some k) => (owned_block hs.ho hk).2.lt)
  have c1 : Chg [] w ((w.alloc (.cells (cells6 st (.slice (some ⟨g, 0, none⟩) mm c)).toArray 37)).drew) := ((Chg.refl _ w).alloc _).drew
  have HI := hide (hix st _ (hv.chg c1 (NoTk.nil _)))
  simp only [cells6] at HI
  have BX : Hid (Blk ((w.alloc (.cells (cells6 st (.slice (some ⟨g, 0, none⟩) mm c)).toArray 37)).drew) w.heap.size 37 (cells6 st (.slice (some ⟨g, 0, none⟩) mm c))) := hide (Blk.new w 37 _).drew
  have HS := hide hs
  have HV := hide hv
  have HC := hide (And.intro hcell htg)
  have C1 := hide c1
  clear hs hv hix hcell htg c1
  go_enter Ybaz.func11, Ybaz.ntmps11
  go_wp2
  go_region_held3 (fun w' => w'.cell? ⟨F, 18, none⟩ = some (.int .i64 1) ∧ w'.cell? ⟨w.heap.size, 0, none⟩ = some (.string st) ∧ w'.cell? ⟨w.heap.size, 1, none⟩ = some (.slice none 0 0) ∧ w'.cell? ⟨w.heap.size, 2, none⟩ = some (.slice (some ⟨g, 0, none⟩) mm c) ∧ w'.cell? ⟨w.heap.size, 3, none⟩ = some (.slice none 0 0) ∧ w'.cell? ⟨w.heap.size, 4, none⟩ = some (.slice none 0 0) ∧ w'.cell? ⟨w.heap.size, 5, none⟩ = some (.slice none 0 0)) (first | exact ⟨by assumption, by assumption, by assumption, by assumption, by assumption, by assumption, by assumption⟩ | go_keep)
    ((go_at_call 17; refine HI.out.mono ?_; rintro e w1 ⟨rfl, b1⟩; (have hx1 := BX.out.below b1 (by simp)); (have q0 : w1.cell? ⟨F, 18, none⟩ = some (.int .i64 1) := (cell_later b1 (cell_later ((Below.refl w.heap.size w).alloc (Nat.le_refl _) _).drew e18))); (have q1 : w1.cell? ⟨w.heap.size, 0, none⟩ = some (.string st) := hx1.cell 0); (have q2 : w1.cell? ⟨w.heap.size, 1, none⟩ = some (.slice none 0 0) := hx1.cell 1); (have q3 : w1.cell? ⟨w.heap.size, 2, none⟩ = some (.slice (some ⟨g, 0, none⟩) mm c) := hx1.cell 2); (have q4 : w1.cell? ⟨w.heap.size, 3, none⟩ = some (.slice none 0 0) := hx1.cell 3); (have q5 : w1.cell? ⟨w.heap.size, 4, none⟩ = some (.slice none 0 0) := hx1.cell 4); (have q6 : w1.cell? ⟨w.heap.size, 5, none⟩ = some (.slice none 0 0) := hx1.cell 5)))
  have c2 : Chg [] w w1 := C1.out.trans (Chg.ofBelow b1)
  have hs1 := HS.out.chg c2
  have hv1 := HV.out.chg c2 (NoTk.nil _)
  have p1 : w1.cell? ⟨g, i * 2 + 1, none⟩ = some (.string (tbl k)) := (cell_chg c2 HC.out.2 (by simp)).trans HC.out.1
  have p20 : w1.cell? ⟨F, 20, none⟩ = some (doneF LP AC) := hs1.hF.cell 20
  have hsz1 := c2.size
  have HG := HC.out.2.chg c2 (by simp)
  have HD := hide (done4 k LP AC m base hk a logv strs w1.drew hs1.hL.drew hs1.hA hs1.hAt ha0 ha1 hs1.hol.drew hm (Nat.le_trans hbase hsz1))
  have HS1 := hide hs1
  have HV1 := hide hv1
  have C2 := hide c2
  have HX1 := hide hx1
  clear hx1 c2 hs1 hv1 b1 e18 C1 HS HV HC BX HI
  have T1 := hide ((HS1.out.noTkLog).not HG)
  go_wp2
  go_region_held3 (fun w' => w'.cell? ⟨F, 20, none⟩ = some (doneF LP AC) ∧ w'.cell? ⟨w.heap.size, 2, none⟩ = some (.slice (some ⟨g, 0, none⟩) mm c) ∧ w'.cell? ⟨g, i * 2 + 1, none⟩ = some (.string (tbl k))) (first | exact ⟨by assumption, by assumption, by assumption⟩ | go_keep)
    ((go_at_call 4; refine HD.out.mono ?_; rintro e w2 ⟨t2, logv2, rfl, l2, o2, d2⟩; (have r0 : w2.cell? ⟨F, 20, none⟩ = some (doneF LP AC) := (cell_chg d2 HS1.out.hF.tag (HS1.out.offLog HS1.out.hF.tag (by decide) (by decide))).trans p20); (have r1 : w2.cell? ⟨w.heap.size, 2, none⟩ = some (.slice (some ⟨g, 0, none⟩) mm c) := (cell_chg d2 HX1.out.tag (HS1.out.offLog HX1.out.tag (by decide) (by decide))).trans q3); (have r2 : w2.cell? ⟨g, i * 2 + 1, none⟩ = some (.string (tbl k)) := (cell_chg d2 HG T1.out).trans p1)))
  have hs1d : Stt w1.drew F R LP AC n m base ops free cfgs vis reached logv cs strs charged left a := HS1.out.chg (Chg.refl _ w1).drew
  have hs2 := hs1d.logged d2 l2 o2
  have hv2 : TkIn w2 x (tbl k) (.slice (some ⟨g, 0, none⟩) mm c) := (HV1.out.chg (Chg.refl [] w1).drew (NoTk.nil _)).chg d2 hs1d.noTkLog
  have hx2 : Blk w2 w.heap.size 37 (cells6 st (.slice (some ⟨g, 0, none⟩) mm c)) := (HX1.out.drew).chg d2 (HS1.out.offLog HX1.out.tag (by decide) (by decide))
  have hc2 : Chg ([F, R, LP] ++ reached.ownBlock.toList ++ logv.ownBlock.toList) w w2 := by
    refine Chg.trans' ((C2.out.drew).mono (by simp)) d2 ?_
    intro s hs _
    rcases List.mem_cons.1 hs with rfl | hs
    · simp
    · simp only [List.mem_append]
      exact .inr hs
  clear d2 l2 o2 hs1d p1 p20 q0 q1 q2 q3 q4 q5 q6 r0 r2 HD HS1 HV1 HX1 HG T1
  cases hacc : accb a k
  · have H2 := hide (And.intro hs2 hc2)
    clear hs2 hc2 hv2 hx2
    go_wp2
    refine bodyPost_ret (results_none rfl _ _ _) rfl ?_
    exact ⟨reached, logv2, .bool true, 0, n, cs, rfl, by omega, by simpa using H2.out.1, .inr ⟨hacc, rfl, rfl⟩, H2.out.2⟩
  · have s0 : w2.cell? ⟨F, 18, none⟩ = some (.int .i64 1) := hs2.hF.cell 18
    have s2 := hx2.frozen 2
    have HW := hide (without18 x (tbl k) _ w2.drew hv2)
    have H2 := hide (And.intro hs2 hc2)
    have HX2 := hide hx2
    clear hs2 hc2 hv2 hx2
    go_wp2
    have hFb : F ≠ w.heap.size := by omega
    have hFb' : w.heap.size ≠ F := by omega
    go_region_with
      ((go_at_call 18; refine HW.out.mono ?_; rintro e w3 ⟨v3, rfl, t3, b3⟩; obtain ⟨g3, l3, c3, rfl⟩ := t3.slice; (have hx3 := HX2.out.drew.below b3 HX2.out.lt); (have s3 : w3.cell? ⟨F, 18, none⟩ = some (.int .i64 1) := (b3.cell (p := ⟨F, 18, none⟩) (World.block_lt_of_cell? _ _ s0)).trans s0); (have s4 : w3.cell? ⟨w.heap.size, 2, none⟩ = some (.slice (some ⟨g, 0, none⟩) mm c) := hx3.cell 2); (have s5 := hx3.frozen 2)))
    all_goals
      have u0 : w3.cell? ⟨w.heap.size, 0, none⟩ = some (.string st) := hx3.cell 0
      have u1 : w3.cell? ⟨w.heap.size, 1, none⟩ = some (.slice none 0 0) := hx3.cell 1
      have u3 : w3.cell? ⟨w.heap.size, 3, none⟩ = some (.slice none 0 0) := hx3.cell 3
      have u4 : w3.cell? ⟨w.heap.size, 4, none⟩ = some (.slice none 0 0) := hx3.cell 4
      have u5 : w3.cell? ⟨w.heap.size, 5, none⟩ = some (.slice none 0 0) := hx3.cell 5
      have cb3 : Chg [] w2 w3 := (Chg.refl _ w2).drew.trans (Chg.ofBelow b3)
      have c4 : Chg [w.heap.size] w3 (w3.setCell ⟨w.heap.size, 2, none⟩ (.slice (some ⟨g3, 0, none⟩) l3 c3)) := chg_setCell (a := ⟨w.heap.size, 2, none⟩) (by simp) _
      have hs4 := (H2.out.1.chg cb3).off c4 hx3.tag (fun k hk => Nat.ne_of_lt (HRB.out k hk))
      have t4 := t3.chg c4 (NoTk.cons hx3.tag (by decide) (NoTk.nil _))
      have hc4 : Chg ([F, R, LP] ++ reached.ownBlock.toList ++ logv.ownBlock.toList) w (w3.setCell ⟨w.heap.size, 2, none⟩ (.slice (some ⟨g3, 0, none⟩) l3 c3)) := by
        refine Chg.trans' (H2.out.2.trans (cb3.mono (by simp))) c4 ?_
        intro s hs hlt
        simp at hs
        omega
      have HR9 := hide (reach19 F R n base st x _ ops free cfgs (doneF LP AC) vis reached cs charged left _ hs4.hF hs4.hR h1 h2 t4 hs4.ho hn (Nat.le_trans hbase hc4.size) h3 h4 h5 h6)
      have H4 := hide (And.intro hs4 (And.intro t4 hc4))
      clear hs4 t4 hc4 hx3 t3 b3 cb3 c4 HW H2 HX2
      go_wp2_with (go_at_call 19; refine HR9.out.mono ?_; rintro e w5 ⟨reached5, q5, rfl, hq5, F5, R5, o5, d5⟩; have H5 := hide (And.intro F5 (And.intro R5 (And.intro o5 d5))); clear F5 R5 o5 d5)
      refine bodyPost_ret (results_none rfl _ _ _) rfl ?_
      have hn5 : NoTk _ (F :: R :: reached.ownBlock.toList) := fun s hs arr ha => H4.out.1.offReach ⟨arr, ha⟩ (by decide) (by decide) (by decide) hs
      refine ⟨reached5, logv2, .slice (some ⟨g3, 0, none⟩) l3 c3, q5, n + 1, _, rfl, hq5, H4.out.1.reachd H5.out.2.2.2 H5.out.1 H5.out.2.1 H5.out.2.2.1, .inl ⟨hacc, H4.out.2.1.chg H5.out.2.2.2 hn5, rfl, rfl⟩, ?_⟩
      refine H4.out.2.2.trans (H5.out.2.2.2.mono ?_)
      intro s hs _
      simp only [List.mem_cons] at hs
      rcases hs with rfl | rfl | hs
      · simp
      · simp
      · simp only [List.mem_append]
        exact .inl (.inr hs)
end Go.Proofs.YbulkciemGreatDoor
