import Derived.Test.YbulkciemGreatDoorKeepD
namespace Go.Proofs.YbulkciemGreatDoor
open Go.RowKit
set_option linter.unusedVariables false
set_option linter.unusedSimpArgs false

/-- The numbers below n that are accepted. -/
def accs (acc : Nat → Bool) (n : Nat) : List Nat := (List.range n).filter acc
theorem accs_succ (acc : Nat → Bool) (n : Nat) : accs acc (n + 1) = accs acc n ++ (if acc n then [n] else []) := by
  unfold accs
  rw [List.range_succ, List.filter_append]
  congr 1
  cases h : acc n <;> simp [h]
theorem accs_pre (acc : Nat → Bool) (i : Nat) : ∀ n, i ≤ n → ∃ r, accs acc n = accs acc i ++ r
  | 0, h => by have : i = 0 := by omega
               subst this; exact ⟨[], by simp⟩
  | n + 1, h => by
    by_cases hi : i = n + 1
    · subst hi; exact ⟨[], by simp⟩
    · obtain ⟨r, hr⟩ := accs_pre acc i n (by omega)
      exact ⟨r ++ (if acc n then [n] else []), by rw [accs_succ, hr, List.append_assoc]⟩
theorem accs_at (acc : Nat → Bool) (i n : Nat) (h : i < n) (ha : acc i = true) : (accs acc n)[(accs acc i).length]? = some i := by
  obtain ⟨r, hr⟩ := accs_pre acc (i + 1) n h
  rw [hr, accs_succ, ha]
  simp
theorem accs_le (acc : Nat → Bool) (n : Nat) : (accs acc n).length ≤ n := by
  unfold accs
  have := List.length_filter_le acc (List.range n)
  simpa using this
theorem accs_mono (acc : Nat → Bool) (i n : Nat) (h : i ≤ n) : (accs acc i).length ≤ (accs acc n).length := by
  obtain ⟨r, hr⟩ := accs_pre acc i n h
  rw [hr]
  simp
theorem accs_mem (acc : Nat → Bool) (n m : Nat) (h : m < (accs acc n).length) : (accs acc n).getD m 0 < n ∧ acc ((accs acc n).getD m 0) = true := by
  have hm : (accs acc n).getD m 0 ∈ accs acc n := by
    rw [List.getD_eq_getElem?_getD, List.getElem?_eq_getElem h]
    exact List.getElem_mem h
  unfold accs at hm
  rw [List.mem_filter, List.mem_range] at hm
  exact hm
theorem accs_inj (acc : Nat → Bool) (n i j : Nat) (hi : i < (accs acc n).length) (hj : j < (accs acc n).length) (hij : i ≠ j) : (accs acc n).getD i 0 ≠ (accs acc n).getD j 0 := by
  have hnd : (accs acc n).Nodup := List.Pairwise.filter _ List.nodup_range
  rw [List.getD_eq_getElem?_getD, List.getD_eq_getElem?_getD, List.getElem?_eq_getElem hi, List.getElem?_eq_getElem hj]
  intro he
  exact hij ((List.getElem_inj hnd).1 he)

theorem rowsN_congr (st : Nat → ByteArray) (v v' : Nat → Value) : ∀ n, (∀ m, m < n → v m = v' m) → rowsN st v n = rowsN st v' n
  | 0, _ => rfl
  | n + 1, h => by
    simp only [rowsN]
    rw [rowsN_congr st v v' n (fun m hm => h m (by omega)), h n (by omega)]

/-- What the law hands to complete. -/
structure Ent (w : World) (F R LP AC O M N c g cg : Nat) (stI : Nat → ByteArray) (x : Nat → Bool) (k : Nat → Nat) (tk : Nat → Value) (a : Int) : Prop where
  hF : Blk w F 73 (fr0 R (.slice (some ⟨O, 0, none⟩) 2 c) (.slice (some ⟨g, 0, none⟩) N cg))
  hO : Blk w O 74 [.pointer none, .pointer (some ⟨M, 0, none⟩)]
  hM : Tag w M 80
  m6 : w.cell? ⟨M, 6, none⟩ = some (.int .i64 3)
  m9 : w.cell? ⟨M, 9, none⟩ = some (.bool false)
  hR : Blk w R 44 (roo 1099511627776)
  hL : Blk w LP 23 [.slice none 0 0]
  hA : w.cell? ⟨AC, 0, none⟩ = some (.int .u8 a)
  hAt : Tag w AC 5
  ha0 : 0 ≤ a
  ha1 : a ≤ 255
  hg : Tag w g 37
  hc : ∀ i, i < N → ∀ j u, (cells6 (stI i) (tk i))[j]? = some u → w.cell? ⟨g, i * 6 + j, none⟩ = some u
  hk : ∀ i, i < N → k i < 4
  ht : ∀ i, i < N → TkIn w (x i) (tbl (k i)) (tk i)
  hN : N ≤ 300
  hs : ∀ i, i < N → 0 < (stI i).size ∧ (stI i).size ≤ 1000
  hne : ∀ i j, i < N → j < N → i ≠ j → stI i ≠ stI j

/-- What complete leaves. -/
def Cpl (w w' : World) (F R LP O N c : Nat) (stI : Nat → ByteArray) (x : Nat → Bool) (k : Nat → Nat) (a : Int) (done : Value) : Prop :=
  ∃ (gf cf base : Nat) (v' vis reached logv : Value) (v : Nat → Value),
    Blk w' F 73 (fro F R (.slice (some ⟨O, 0, none⟩) 2 c) (.slice (some ⟨gf, 0, none⟩) 1 cf) v' done vis reached 0) ∧
    w'.cell? ⟨gf, 0, none⟩ = some (.int .i64 1) ∧ Tag w' gf 3 ∧
    w'.ownsRow 0 37 6 v' (accs (fun i => accb a (k i)) N).length (rowsN (fun m => stI ((accs (fun i => accb a (k i)) N).getD m 0)) v (accs (fun i => accb a (k i)) N).length) ∧
    (∀ m, m < (accs (fun i => accb a (k i)) N).length → TkOut w' (x ((accs (fun i => accb a (k i)) N).getD m 0)) (v m)) ∧
    Blk w' R 44 (roo 1099511627776) ∧ Blk w' LP 23 [logv] ∧ w'.ownsRow base 9 1 logv N ((List.range N).map fun i => .string (tbl (k i))) ∧
    Blk w' O 74 [.pointer none, .pointer none] ∧ Chg [F, R, LP, O] w w'

/-- Behind i configurations. -/
def Lp (w1 wx : World) (i F R LP AC N base : Nat) (ops cfgs vis : Value) (stI : Nat → ByteArray) (x : Nat → Bool) (k : Nat → Nat) (a : Int) : Prop :=
  ∃ (reached logv : Value) (v : Nat → Value) (charged left : Int),
    Stt wx F R LP AC (accs (fun i => accb a (k i)) i).length i base ops (.slice none 0 0) cfgs vis reached logv (rowsN (fun m => stI ((accs (fun i => accb a (k i)) N).getD m 0)) v (accs (fun i => accb a (k i)) i).length) ((List.range i).map fun i => .string (tbl (k i))) charged left a ∧
    (∀ m, m < (accs (fun i => accb a (k i)) i).length → TkOut wx (x ((accs (fun i => accb a (k i)) N).getD m 0)) (v m)) ∧
    Chg [F, R, LP] w1 wx ∧ left + charged = 1099511627776 ∧ 0 ≤ charged ∧ charged ≤ i * 200000

theorem Stt.noTk {w : World} {F R LP AC n m base : Nat} {ops free cfgs vis reached logv : Value} {cs strs : List Value} {charged left a : Int} (h : Stt w F R LP AC n m base ops free cfgs vis reached logv cs strs charged left a) : NoTk w ([F, R, LP] ++ reached.ownBlock.toList ++ logv.ownBlock.toList) := by
  intro s hs arr ha
  simp only [List.mem_append, List.mem_cons, List.not_mem_nil, or_false, Option.mem_toList] at hs
  have ht : Tag w s 32 := ⟨arr, ha⟩
  rcases hs with ((rfl | rfl | rfl) | hs) | hs
  · exact ht.ne h.hF.tag (by decide) rfl
  · exact ht.ne h.hR.tag (by decide) rfl
  · exact ht.ne h.hL.tag (by decide) rfl
  · exact ht.ne (owned_block h.ho hs).2 (by decide) rfl
  · exact ht.ne (owned_block h.hol hs).2 (by decide) rfl

theorem Lp.step {w1 w4 w5 w6 : World} {i F R LP AC N base : Nat} {ops cfgs vis : Value} {stI : Nat → ByteArray} {x : Nat → Bool} {k : Nat → Nat} {a : Int} {reached logv reached' logv' v' : Value} {v : Nat → Value} {charged left : Int} {q n' : Nat} {cs' : List Value} (hi : i < N) (hb : base = w1.heap.size)
    (hS : Stt w4 F R LP AC (accs (fun i => accb a (k i)) i).length i base ops (.slice none 0 0) cfgs vis reached logv (rowsN (fun m => stI ((accs (fun i => accb a (k i)) N).getD m 0)) v (accs (fun i => accb a (k i)) i).length) ((List.range i).map fun i => .string (tbl (k i))) charged left a)
    (hT : ∀ m, m < (accs (fun i => accb a (k i)) i).length → TkOut w4 (x ((accs (fun i => accb a (k i)) N).getD m 0)) (v m))
    (hC : Chg [F, R, LP] w1 w4) (hsum : left + charged = 1099511627776) (h0 : 0 ≤ charged) (h1 : charged ≤ i * 200000) (c45 : Chg [] w4 w5) (hq : q ≤ 200000)
    (hS' : Stt w6 F R LP AC n' (i + 1) base ops (.slice none 0 0) cfgs vis reached' logv' cs' (((List.range i).map fun i => .string (tbl (k i))) ++ [.string (tbl (k i))]) (charged + q) (left - q) a)
    (hor : (accb a (k i) = true ∧ TkOut w6 (x i) v' ∧ n' = (accs (fun i => accb a (k i)) i).length + 1 ∧ cs' = rowsN (fun m => stI ((accs (fun i => accb a (k i)) N).getD m 0)) v (accs (fun i => accb a (k i)) i).length ++ cells6 (stI i) v') ∨ (accb a (k i) = false ∧ n' = (accs (fun i => accb a (k i)) i).length ∧ cs' = rowsN (fun m => stI ((accs (fun i => accb a (k i)) N).getD m 0)) v (accs (fun i => accb a (k i)) i).length))
    (c56 : Chg ([F, R, LP] ++ reached.ownBlock.toList ++ logv.ownBlock.toList) w5 w6) : Lp w1 w6 (i + 1) F R LP AC N base ops cfgs vis stI x k a := by
  have hS5 := hS.chg c45
  have c16 : Chg [F, R, LP] w1 w6 := by
    refine (hC.trans (c45.mono (by simp))).trans' c56 ?_
    intro s hs hlt
    simp only [List.mem_append, Option.mem_toList] at hs
    rcases hs with (hs | hs) | hs
    · exact hs
    · have := (owned_block hS.ho hs).1; omega
    · have := (owned_block hS.hol hs).1; omega
  have hT6 : ∀ m, m < (accs (fun i => accb a (k i)) i).length → TkOut w6 (x ((accs (fun i => accb a (k i)) N).getD m 0)) (v m) := fun m hm => ((hT m hm).chg c45 (NoTk.nil _)).chg c56 hS5.noTk
  have hstr : ((List.range (i + 1)).map fun i => Value.string (tbl (k i))) = ((List.range i).map fun i => .string (tbl (k i))) ++ [.string (tbl (k i))] := by
    rw [List.range_succ, List.map_append]
    rfl
  rcases hor with ⟨ha, ht, rfl, rfl⟩ | ⟨ha, rfl, rfl⟩
  · have hsu : accs (fun i => accb a (k i)) (i + 1) = accs (fun i => accb a (k i)) i ++ [i] := by rw [accs_succ]; simp [ha]
    have hat : (accs (fun i => accb a (k i)) N).getD (accs (fun i => accb a (k i)) i).length 0 = i := by
      rw [List.getD_eq_getElem?_getD, accs_at (fun i => accb a (k i)) i N hi ha]
      rfl
    obtain ⟨n, hn⟩ : ∃ n, n = (accs (fun i => accb a (k i)) i).length := ⟨_, rfl⟩
    have hlen : (accs (fun i => accb a (k i)) (i + 1)).length = n + 1 := by rw [hsu, hn]; simp
    rw [← hn] at hT6 hat hS'
    refine ⟨reached', logv', fun m => if m = n then v' else v m, charged + q, left - q, ?_, ?_, c16, by omega, by omega, by push_cast; omega⟩
    · rw [hlen, hstr]
      have hr : rowsN (fun m => stI ((accs (fun i => accb a (k i)) N).getD m 0)) (fun m => if m = n then v' else v m) (n + 1) = rowsN (fun m => stI ((accs (fun i => accb a (k i)) N).getD m 0)) v n ++ cells6 (stI i) v' := by
        simp only [rowsN]
        rw [hat, rowsN_congr _ _ v n (fun m hm => by simp [Nat.ne_of_lt hm])]
        simp
      rw [hr]
      exact hS'
    · intro m hm
      rw [hlen] at hm
      by_cases hmn : m = n
      · subst hmn
        simp only [if_true]
        rw [hat]
        exact ht
      · simp only [if_neg hmn]
        exact hT6 m (by omega)
  · have hsu : accs (fun i => accb a (k i)) (i + 1) = accs (fun i => accb a (k i)) i := by rw [accs_succ]; simp [ha]
    refine ⟨reached', logv', v, charged + q, left - q, ?_, ?_, c16, by omega, by omega, by push_cast; omega⟩
    · rw [hsu, hstr]
      exact hS'
    · rw [hsu]
      exact hT6

set_option maxRecDepth 6000 in
set_option maxHeartbeats 3200000 in
theorem complete8 (F R LP AC O M N c g cg : Nat) (stI : Nat → ByteArray) (x : Nat → Bool) (k : Nat → Nat) (tk : Nat → Value) (a : Int) (w : World) (he : Ent w F R LP AC O M N c g cg stI x k tk a) :
    Calls Ybaz.prog 8 #[.pointer (some ⟨F, 0, none⟩), evt LP AC] w fun e w' => e = .returned (.tuple #[]) ∧ Cpl w w' F R LP O N c stI x k a (doneF LP AC) := by
  have e3 : w.cell? ⟨F, 3, none⟩ = some (.slice (some ⟨O, 0, none⟩) 2 c) := he.hF.cell 3
  have o1 : w.cell? ⟨O, 1, none⟩ = some (.pointer (some ⟨M, 0, none⟩)) := he.hO.cell 1
  have hFlt := he.hF.lt
  have hOlt := he.hO.lt
  obtain ⟨W, hW⟩ : ∃ W, W = (w.alloc (.cells #[.int .i64 0, .int .i64 0, .string ⟨#[]⟩, .string ⟨#[]⟩, .string ⟨#[]⟩, .string ⟨#[]⟩, .int .i64 0, .int .i64 0, .int .i64 7, .int .i64 1, doneF LP AC] 84)) := ⟨_, rfl⟩
  have cW : Chg [] w W := by rw [hW]; exact (Chg.refl [] w).alloc _
  have bx : Blk W w.heap.size 84 [.int .i64 0, .int .i64 0, .string ⟨#[]⟩, .string ⟨#[]⟩, .string ⟨#[]⟩, .string ⟨#[]⟩, .int .i64 0, .int .i64 0, .int .i64 7, .int .i64 1, doneF LP AC] := by rw [hW]; exact Blk.new w 84 _
  have HS := hide (start10 F R M LP AC _ _ W.drew (he.hF.chg cW (by simp)).drew (he.hM.ne he.hF.tag (by decide)) ((cell_chg cW he.hM (by simp)).trans he.m6) ((cell_chg cW he.hM (by simp)).trans he.m9))
  have E3 : W.cell? ⟨F, 3, none⟩ = some (.slice (some ⟨O, 0, none⟩) 2 c) := (cell_chg cW he.hF.tag (by simp)).trans e3
  have O1 : W.cell? ⟨O, 1, none⟩ = some (.pointer (some ⟨M, 0, none⟩)) := (cell_chg cW he.hO.tag (by simp)).trans o1
  have x0 : W.cell? ⟨w.heap.size, 0, none⟩ = some (.int .i64 0) := bx.cell 0
  have x1 : W.cell? ⟨w.heap.size, 1, none⟩ = some (.int .i64 0) := bx.cell 1
  have x2 : W.cell? ⟨w.heap.size, 2, none⟩ = some (.string ⟨#[]⟩) := bx.cell 2
  have x3 : W.cell? ⟨w.heap.size, 3, none⟩ = some (.string ⟨#[]⟩) := bx.cell 3
  have x4 : W.cell? ⟨w.heap.size, 4, none⟩ = some (.string ⟨#[]⟩) := bx.cell 4
  have x5 : W.cell? ⟨w.heap.size, 5, none⟩ = some (.string ⟨#[]⟩) := bx.cell 5
  have x6 : W.cell? ⟨w.heap.size, 6, none⟩ = some (.int .i64 0) := bx.cell 6
  have x7 : W.cell? ⟨w.heap.size, 7, none⟩ = some (.int .i64 0) := bx.cell 7
  have x8 : W.cell? ⟨w.heap.size, 8, none⟩ = some (.int .i64 7) := bx.cell 8
  have x9 : W.cell? ⟨w.heap.size, 9, none⟩ = some (.int .i64 1) := bx.cell 9
  have x10 : W.cell? ⟨w.heap.size, 10, none⟩ = some (doneF LP AC) := bx.cell 10
  have HE := hide he
  have HX := hide (And.intro bx cW)
  have HW := hide hW
  have hOF : O ≠ F := he.hO.tag.ne he.hF.tag (by decide)
  have hXF : w.heap.size ≠ F := by omega
  clear he cW bx e3 o1 hW
  go_enter Ybaz.func8, Ybaz.ntmps8
  have hW' := HW.out.symm
  go_wp2
  go_region_held3 (fun w' => w'.cell? ⟨F, 3, none⟩ = some (.slice (some ⟨O, 0, none⟩) 2 c) ∧ w'.cell? ⟨O, 1, none⟩ = some (.pointer (some ⟨M, 0, none⟩)) ∧ w'.cell? ⟨w.heap.size, 0, none⟩ = some (.int .i64 0) ∧ w'.cell? ⟨w.heap.size, 1, none⟩ = some (.int .i64 0) ∧ w'.cell? ⟨w.heap.size, 2, none⟩ = some (.string ⟨#[]⟩) ∧ w'.cell? ⟨w.heap.size, 3, none⟩ = some (.string ⟨#[]⟩) ∧ w'.cell? ⟨w.heap.size, 4, none⟩ = some (.string ⟨#[]⟩) ∧ w'.cell? ⟨w.heap.size, 5, none⟩ = some (.string ⟨#[]⟩) ∧ w'.cell? ⟨w.heap.size, 6, none⟩ = some (.int .i64 0) ∧ w'.cell? ⟨w.heap.size, 7, none⟩ = some (.int .i64 0) ∧ w'.cell? ⟨w.heap.size, 8, none⟩ = some (.int .i64 7) ∧ w'.cell? ⟨w.heap.size, 9, none⟩ = some (.int .i64 1) ∧ w'.cell? ⟨w.heap.size, 10, none⟩ = some (doneF LP AC)) (first | exact ⟨by assumption, by assumption, by assumption, by assumption, by assumption, by assumption, by assumption, by assumption, by assumption, by assumption, by assumption, by assumption, by assumption⟩ | go_keep)
    ((go_at_call 10; refine HS.out.mono ?_; rintro e w2 ⟨vis, rfl, F2, d2⟩; (have b2 := HX.out.1.drew.chg d2 (by simpa using hXF)); (have z3 : w2.cell? ⟨F, 3, none⟩ = some (.slice (some ⟨O, 0, none⟩) 2 c) := F2.cell 3); (have z1 : w2.cell? ⟨O, 1, none⟩ = some (.pointer (some ⟨M, 0, none⟩)) := (World.cell?_of_block (a := ⟨O, 1, none⟩) (d2.block O (World.block_lt_of_cell? _ _ O1) (by simpa using hOF))).trans O1); (have y0 : w2.cell? ⟨w.heap.size, 0, none⟩ = some (.int .i64 0) := b2.cell 0); (have y1 : w2.cell? ⟨w.heap.size, 1, none⟩ = some (.int .i64 0) := b2.cell 1); (have y2 : w2.cell? ⟨w.heap.size, 2, none⟩ = some (.string ⟨#[]⟩) := b2.cell 2); (have y3 : w2.cell? ⟨w.heap.size, 3, none⟩ = some (.string ⟨#[]⟩) := b2.cell 3); (have y4 : w2.cell? ⟨w.heap.size, 4, none⟩ = some (.string ⟨#[]⟩) := b2.cell 4); (have y5 : w2.cell? ⟨w.heap.size, 5, none⟩ = some (.string ⟨#[]⟩) := b2.cell 5); (have y6 : w2.cell? ⟨w.heap.size, 6, none⟩ = some (.int .i64 0) := b2.cell 6); (have y7 : w2.cell? ⟨w.heap.size, 7, none⟩ = some (.int .i64 0) := b2.cell 7); (have y8 : w2.cell? ⟨w.heap.size, 8, none⟩ = some (.int .i64 7) := b2.cell 8); (have y9 : w2.cell? ⟨w.heap.size, 9, none⟩ = some (.int .i64 1) := b2.cell 9); (have y10 : w2.cell? ⟨w.heap.size, 10, none⟩ = some (doneF LP AC) := b2.cell 10)))
  have cw2 : Chg [F] w w2 := (HX.out.2.drew.mono (T := [F]) (by simp)).trans d2
  have he := HE.out
  have hRF : R ≠ F := he.hR.tag.ne he.hF.tag (by decide)
  have hLF : LP ≠ F := he.hL.tag.ne he.hF.tag (by decide)
  have hAF : AC ≠ F := he.hAt.ne he.hF.tag (by decide)
  have hgF : g ≠ F := he.hg.ne he.hF.tag (by decide)
  have hL0 : Lp w2 w2 0 F R LP AC N w2.heap.size (.slice (some ⟨O, 0, none⟩) 2 c) (.slice (some ⟨g, 0, none⟩) N cg) vis stI x k a :=
    ⟨.slice none 0 0, .slice none 0 0, fun _ => .bool true, 0, 1099511627776, ⟨F2, he.hR.chg cw2 (by simpa using hRF), ⟨rfl, .inl ⟨rfl, rfl⟩⟩, he.hL.chg cw2 (by simpa using hLF), (cell_chg cw2 he.hAt (by simpa using hAF)).trans he.hA, he.hAt.chg cw2 (by simpa using hAF), ⟨rfl, .inl ⟨rfl, rfl⟩⟩⟩, fun m hm => by simp [accs] at hm, Chg.refl _ _, by omega, by omega, by omega⟩
  have z6 : w2.cell? ⟨F, 6, none⟩ = some (.slice (some ⟨g, 0, none⟩) N cg) := F2.cell 6
  have hg2 : Tag w2 g 37 := he.hg.chg cw2 (by simpa using hgF)
  have hc2 : ∀ i, i < N → ∀ j u, (cells6 (stI i) (tk i))[j]? = some u → w2.cell? ⟨g, i * 6 + j, none⟩ = some u := fun i hi j u hu => (cell_chg cw2 he.hg (by simpa using hgF)).trans (he.hc i hi j u hu)
  have ht2 : ∀ i, i < N → TkIn w2 (x i) (tbl (k i)) (tk i) := fun i hi => (he.ht i hi).chg cw2 (NoTk.cons he.hF.tag (by decide) (NoTk.nil _))
  have hO2 := he.hO.chg cw2 (by simpa using hOF)
  have hL0tags := (hide (by obtain ⟨_, _, _, _, _, hS, _⟩ := hL0; exact NoTk.cons hS.hF.tag (by decide) (NoTk.cons hS.hR.tag (by decide) (NoTk.cons hS.hL.tag (by decide) (NoTk.nil _)))) : Hid (NoTk w2 [F, R, LP]))
  have HL0 := hide hL0
  have H2 := hide (And.intro hg2 (And.intro hc2 (And.intro ht2 (And.intro hO2 cw2))))
  have hN := he.hN
  clear d2 F2 b2 cw2 he hRF hLF hAF hgF hL0 hg2 hc2 ht2 hO2 E3 O1 x0 x1 x2 x3 x4 x5 x6 x7 x8 x9 x10 z3 z1 y0 y1 y2 y3 y4 y5 y6 y7 y8 y9 y10 HS HX HW hW' W
  go_wp2_with fail
  rename_i K0 hK0
  have HK0 := hide hK0
  clear hK0
  go_loopg [32] N (fun g0 v32 wx => ∃ i : Nat, i ≤ N ∧ g0 = N - i ∧ v32 = .int .i64 i ∧ Lp w2 wx i F R LP AC N w2.heap.size (.slice (some ⟨O, 0, none⟩) 2 c) (.slice (some ⟨g, 0, none⟩) N cg) vis stI x k a)
  case atStart => go_light; exact ⟨0, by omega, rfl, rfl, HL0.out⟩
  case round =>
    rename World => w4
    rename_i J2 K2 hJ2 hK2
    obtain ⟨i, hi, rfl, rfl, hlp⟩ := hrel
    obtain ⟨hg2, hc2, ht2, hO2, cw2⟩ := H2.out
    by_cases hlt : i < N
    · have hlt' : (i : Int) < (N : Int) := by omega
      obtain ⟨reached, logv, v, charged, left, hS, hT, hC, hsum, hch0, hch1⟩ := hlp
      have hgS : g ∉ [F, R, LP] := by
        have h1 := HE.out.hg.ne HE.out.hF.tag (by decide)
        have h2 := HE.out.hg.ne HE.out.hR.tag (by decide)
        have h3 := HE.out.hg.ne HE.out.hL.tag (by decide)
        simp [h1, h2, h3]
      have cl : ∀ j u, (cells6 (stI i) (tk i))[j]? = some u → w4.cell? ⟨g, i * 6 + j, none⟩ = some u := fun j u hu => (cell_chg hC hg2 hgS).trans (hc2 i hlt j u hu)
      have hglt : g < w4.heap.size := (hg2.chg hC hgS).lt
      have a0 : w4.cell? ⟨g, i * 6, none⟩ = some (.string (stI i)) := cl 0 _ rfl
      have a1 : w4.cell? ⟨g, i * 6 + 1, none⟩ = some (.slice none 0 0) := cl 1 _ rfl
      have a2 : w4.cell? ⟨g, i * 6 + 2, none⟩ = some (tk i) := cl 2 _ rfl
      have a3 : w4.cell? ⟨g, i * 6 + 3, none⟩ = some (.slice none 0 0) := cl 3 _ rfl
      have a4 : w4.cell? ⟨g, i * 6 + 4, none⟩ = some (.slice none 0 0) := cl 4 _ rfl
      have a5 : w4.cell? ⟨g, i * 6 + 5, none⟩ = some (.slice none 0 0) := cl 5 _ rfl
      have htk : TkIn w4 (x i) (tbl (k i)) (tk i) := (ht2 i hlt).chg hC hL0tags.out
      obtain ⟨p1, p2, p3, hp⟩ : ∃ p1 p2 p3, tk i = .slice (some ⟨p1, 0, none⟩) p2 p3 := by
        obtain ⟨g, c, _, ⟨_, h, _⟩ | ⟨_, h, _⟩⟩ := htk
        · exact ⟨_, _, _, h⟩
        · exact ⟨_, _, _, h⟩
      rw [hp] at a2 htk
      have c45 : Chg [] w4 (w4.alloc (.cells (cells6 (stI i) (.slice (some ⟨p1, 0, none⟩) p2 p3)).toArray 37)) := (Chg.refl [] w4).alloc _
      have hn1 := accs_le (fun i => accb a (k i)) i
      have HF := hide (from11 (k i) F R LP AC (accs (fun i => accb a (k i)) i).length i w2.heap.size (HE.out.hk i hlt) (stI i) (x i) a (.slice (some ⟨p1, 0, none⟩) p2 p3) (.slice (some ⟨O, 0, none⟩) 2 c) (.slice none 0 0) (.slice (some ⟨g, 0, none⟩) N cg) vis reached logv _ _ charged left _ (hS.chg c45) (HE.out.hs i hlt).1 (HE.out.hs i hlt).2 (htk.chg c45 (NoTk.nil _)) (by omega) (Nat.le_trans hC.size c45.size) HE.out.ha0 HE.out.ha1 (by omega) (by omega) (by omega) hch0 (by omega))
      simp only [cells6] at HF
      have H4 := hide (And.intro hS (And.intro hT (And.intro hC (And.intro hsum (And.intro hch0 (And.intro hch1 c45))))))
      clear hS hT hC hsum hch0 hch1 c45 htk hp cl hg2 hc2 ht2 hO2 cw2 z6 hn1
      go_wp2_with (go_at_call 11; refine HF.out.mono ?_; rintro e w6 ⟨reached', logv', v', q, n', cs', rfl, hq, hS', hor, c56⟩; (have z32 : w6.cell? ⟨F, 32, none⟩ = some (.bool false) := hS'.hF.cell 32); (have H6 := hide (Lp.step hlt rfl H4.out.1 H4.out.2.1 H4.out.2.2.1 H4.out.2.2.2.1 H4.out.2.2.2.2.1 H4.out.2.2.2.2.2.1 H4.out.2.2.2.2.2.2 hq hS' hor c56)); clear hS' hor c56 hq)
      go_roundg (N - (i + 1))
      case measure => go_light; omega
      case rel => go_light; exact ⟨i + 1, by omega, rfl, by go_num, H6.out⟩
    · have hin : N = i := by omega
      subst hin
      obtain ⟨reached, logv, v, charged, left, hS, hT, hC, hsum, hch0, hch1⟩ := hlp
      have hO4 : Blk w4 O 74 [.pointer none, .pointer (some ⟨M, 0, none⟩)] := hO2.chg hC (by
        have h1 := HE.out.hO.tag.ne HE.out.hF.tag (by decide)
        have h2 := HE.out.hO.tag.ne HE.out.hR.tag (by decide)
        have h3 := HE.out.hO.tag.ne HE.out.hL.tag (by decide)
        simp [h1, h2, h3])
      have HR := hide (release12 F R (.slice (some ⟨O, 0, none⟩) 2 c) (.slice none 0 0) (.slice (some ⟨g, 0, none⟩) N cg) (doneF LP AC) vis reached charged left w4 hS.hF hS.hR (by omega) (by omega) hch0 (by omega))
      rw [hsum] at HR
      have hC4 : Chg [F, R, LP, O] w w4 := (cw2.mono (T := [F, R, LP, O]) (by simp)).trans (hC.mono (by intro s hs _; simp at hs ⊢; omega))
      have H4 := hide (And.intro hS (And.intro hT (And.intro hC4 hO4)))
      clear hS hT hC hsum hch0 hch1 hO4 hg2 hc2 ht2 hO2 cw2 hC4 z6 hJ2 hK2
      have hK0 := HK0.out
      clear HK0
      go_wp2_with (go_at_call 12; refine HR.out.mono ?_; rintro e w5 ⟨rfl, F5, R5, c5⟩; have H5 := hide (And.intro F5 (And.intro R5 c5)); clear F5 R5 c5)
      obtain ⟨F5, R5, c5⟩ := H5.out
      have tO : O ∉ [F, R] := by
        have h1 := H4.out.2.2.2.tag.ne H4.out.1.hF.tag (by decide)
        have h2 := H4.out.2.2.2.tag.ne H4.out.1.hR.tag (by decide)
        simp [h1, h2]
      have HC := hide (close14 F R O c _ _ (.slice (some ⟨g, 0, none⟩) N cg) (doneF LP AC) vis reached 0 w5 F5 (H4.out.2.2.2.chg c5 tO))
      clear F5 R5 c5
      go_wp2_with (go_at_call 14; refine HC.out.mono ?_; rintro e w6 ⟨rfl, gf, cf, F6, O6, f6, t6, c6⟩; (have z28 : w6.cell? ⟨F, 28, none⟩ = some reached := F6.cell 28); have H6 := hide (And.intro F6 (And.intro O6 (And.intro f6 (And.intro t6 c6)))); clear F6 O6 f6 t6 c6)
      obtain ⟨F6, O6, f6, t6, c6⟩ := H6.out
      obtain ⟨F5, R5, c5⟩ := H5.out
      obtain ⟨hS, hT, hC4, hO4⟩ := H4.out
      have own : ∀ z, reached.ownBlock = some z → Tag w4 z 37 := fun z hz => (owned_block hS.ho hz).2
      have ho5 := owns_chg hS.ho c5 (fun z hz => by
        have h1 := (own z hz).ne hS.hF.tag (by decide)
        have h2 := (own z hz).ne hS.hR.tag (by decide)
        simp [h1, h2])
      have hO5 := hO4.chg c5 tO
      have ho6 := owns_chg ho5 c6 (fun z hz => by
        have h1 := (owned_block ho5 hz).2.ne F5.tag (by decide)
        have h2 := (owned_block ho5 hz).2.ne hO5.tag (by decide)
        simp [h1, h2])
      have nt4 : NoTk w4 [F, R] := NoTk.cons hS.hF.tag (by decide) (NoTk.cons hS.hR.tag (by decide) (NoTk.nil _))
      have nt5 : NoTk w5 [F, O] := NoTk.cons F5.tag (by decide) (NoTk.cons hO5.tag (by decide) (NoTk.nil _))
      have hT6 : ∀ m, m < (accs (fun i => accb a (k i)) N).length → TkOut w6 (x ((accs (fun i => accb a (k i)) N).getD m 0)) (v m) := fun m hm => ((hT m hm).chg c5 nt4).chg c6 nt5
      have hcn := accs_le (fun i => accb a (k i)) N
      have HK := hide (keep15 F R _ w2.heap.size reached _ v _ (.slice (some ⟨O, 0, none⟩) 2 c) (.slice (some ⟨gf, 0, none⟩) 1 cf) (.slice (some ⟨g, 0, none⟩) N cg) (doneF LP AC) vis reached 0 w6 F6 ho6 hT6 (fun m hm => (HE.out.hs _ (accs_mem _ N m hm).1).2) (fun p q hp hq hpq => HE.out.hne _ _ (accs_mem _ N p hp).1 (accs_mem _ N q hq).1 (accs_inj _ N p q hp hq hpq)) (by omega))
      clear F6 O6 f6 t6 c6 F5 R5 c5 hS hT hC4 hO4 own ho5 hO5 ho6 nt4 nt5 hT6 hcn tO
      go_wp2_with (go_at_call 15; refine HK.out.mono ?_; rintro e w7 ⟨rfl, v7, F7, o7, c7⟩; have H7 := hide (And.intro F7 (And.intro o7 c7)); clear F7 o7 c7)
      refine bodyPost_end (results_none rfl _ _ _) rfl ?_
      obtain ⟨F7, o7, c7⟩ := H7.out
      obtain ⟨F6, O6, f6, t6, c6⟩ := H6.out
      obtain ⟨F5, R5, c5⟩ := H5.out
      obtain ⟨hS, hT, hC4, hO4⟩ := H4.out
      -- a block of another type than the written ones stays
      have off4 : ∀ z e, Tag w4 z e → e ≠ 73 → e ≠ 44 → z ∉ [F, R] := fun z e hz h1 h2 => by
        have h1 := hz.ne hS.hF.tag h1
        have h2 := hz.ne hS.hR.tag h2
        simp [h1, h2]
      have hO5 := hO4.chg c5 (off4 _ _ hO4.tag (by decide) (by decide))
      have off5 : ∀ z e, Tag w5 z e → e ≠ 73 → e ≠ 74 → z ∉ [F, O] := fun z e hz h1 h2 => by
        have h1 := hz.ne F5.tag h1
        have h2 := hz.ne hO5.tag h2
        simp [h1, h2]
      have off6 : ∀ z e, Tag w6 z e → e ≠ 73 → z ∉ [F] := fun z e hz h1 => by
        have h1 := hz.ne F6.tag h1
        simp [h1]
      have nt4 : NoTk w4 [F, R] := NoTk.cons hS.hF.tag (by decide) (NoTk.cons hS.hR.tag (by decide) (NoTk.nil _))
      have nt5 : NoTk w5 [F, O] := NoTk.cons F5.tag (by decide) (NoTk.cons hO5.tag (by decide) (NoTk.nil _))
      have nt6 : NoTk w6 [F] := NoTk.cons F6.tag (by decide) (NoTk.nil _)
      have L5 := hS.hL.chg c5 (off4 _ _ hS.hL.tag (by decide) (by decide))
      have L6 := L5.chg c6 (off5 _ _ L5.tag (by decide) (by decide))
      have L7 := L6.chg c7 (off6 _ _ L6.tag (by decide))
      have R6 := R5.chg c6 (off5 _ _ R5.tag (by decide) (by decide))
      have R7 := R6.chg c7 (off6 _ _ R6.tag (by decide))
      have l5 := owns_chg hS.hol c5 (fun z hz => off4 _ _ (owned_block hS.hol hz).2 (by decide) (by decide))
      have l6 := owns_chg l5 c6 (fun z hz => off5 _ _ (owned_block l5 hz).2 (by decide) (by decide))
      have l7 := owns_chg l6 c7 (fun z hz => off6 _ _ (owned_block l6 hz).2 (by decide))
      have O7 := O6.chg c7 (off6 _ _ O6.tag (by decide))
      have g7 := off6 _ _ t6 (by decide)
      refine ⟨rfl, gf, cf, w2.heap.size, v7, vis, reached, logv, v, F7, (cell_chg c7 t6 g7).trans f6, t6.chg c7 g7, o7, fun m hm => (((hT m hm).chg c5 nt4).chg c6 nt5).chg c7 nt6, R7, L7, l7, O7, ?_⟩
      refine ((hC4.trans (c5.mono ?_)).trans (c6.mono ?_)).trans (c7.mono ?_)
      · intro s hs _; simp at hs ⊢; omega
      · intro s hs _; simp at hs ⊢; omega
      · intro s hs _; simp at hs ⊢; omega
end Go.Proofs.YbulkciemGreatDoor
