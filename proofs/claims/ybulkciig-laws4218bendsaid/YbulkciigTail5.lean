import Derived.Test.YbulkciigTail14
namespace Go.Proofs.Ybulkciig
open Go.RowKit Go.MuLone Go.Conc.Locks
set_option linter.unusedVariables false
attribute [local go_sem ↓] look_held put_held len_held

theorem get_step (f : Nat → ByteArray) (m : Nat) (g : Nat → Int) (i : Nat) (ps : Pairs) (hq : ∀ k, lk ps k = get f m g k i) (k : ByteArray) : lk (upd ps (f i) (val m g i)) k = get f m g k (i + 1) := by
  rw [lk_upd, hq k]
  simp only [get]
  by_cases e : k = f i
  · subst e
    rw [(MapKept.bytes_beq _ _).2 rfl, list_yes.2 rfl]
  · rw [beq_no e, list_no (fun h => e h.symm)]

theorem len_step (ps : Pairs) (k : ByteArray) (v : Int) (i : Nat) (h : ps.length ≤ i) : (upd ps k v).length ≤ i + 1 := by
  rw [length_upd]
  split <;> omega

set_option maxHeartbeats 1600000 in
set_option maxRecDepth 1000000 in
theorem tail5 (c1 c2 c7 c8 c9 c10 c11 c12 c13 c14 c15 c16 c17 c18 c19 c20 c21 c22 c23 c24 c25 c26 c27 c28 c29 c30 c31 c32 c33 c34 c35 c36 c37 c38 c39 c40 c41 c42 c43 c44 c45 c46 c47 c48 c49 c50 c51 c52 c53 c54 c55 c56 c57 c58 c59 c60 c61 c62 c63 c64 c65 c66 c67 c68 c69 c70 c71 c72 c73 c74 c75 c76 c77 c78 c79 c80 c81 c82 c83 c84 c85 c86 c87 c88 c89 c90 c91 c92 c93 c94 c95 c96 c97 c98 c99 c100 c101 c102 c103 c104 c105 c106 c107 c108 c109 c110 c111 c112 c113 c114 c115 c116 c117 c118 c119 c120 c121 c122 c123 c124 c125 c126 c127 c128 c129 c130 c131 c132 c133 c134 c135 c136 c137 c138 c139 c140 c141 c142 c143 c144 c145 c146 c147 c148 c149 c150 c151 c152 c153 c154 c155 c156 c157 c158 c159 c160 c161 c162 c163 c164 c165 c166 c167 c168 c169 c170 c171 c172 c173 c174 c175 c176 c177 c178 c179 c180 c181 c182 c183 c184 c185 c186 c187 : Value) (a3 a4 : Option Addr) (n cc3 m cc4 : Nat) (c : ByteArray) (f : Nat → ByteArray) (g : Nat → Int) (w : World) (sd : Bool) (fl : Int) (hn : n ≤ 1024) (hm : m ≤ 1024) (h3 : Rk w a3 n f) (h4 : Rn w a4 m g) :
    Code.wp Yba.prog (tailAt 5 (Yba.f3.body.getD .skip)) (bodyPost Yba.prog Yba.f3 fun e w' => e = .returned (.bool true) ∧ Below w.heap.size w w') ⟨#[.string c, c1, c2, .slice a3 n cc3, .slice a4 m cc4, .bool sd, .int .i64 fl, c7, c8, c9, c10, c11, c12, c13, c14, c15, c16, c17, c18, c19, c20, c21, c22, c23, c24, c25, c26, c27, c28, c29, c30, c31, c32, c33, c34, c35, c36, c37, c38, c39, c40, c41, c42, c43, c44, c45, c46, c47, c48, c49, c50, c51, c52, c53, c54, c55, c56, c57, c58, c59, c60, c61, c62, c63, c64, c65, c66, c67, c68, c69, c70, c71, c72, c73, c74, c75, c76, c77, c78, c79, c80, c81, c82, c83, c84, c85, c86, c87, c88, c89, c90, c91, c92, c93, c94, c95, c96, c97, c98, c99, c100, c101, c102, c103, c104, c105, c106, c107, c108, c109, c110, c111, c112, c113, c114, c115, c116, c117, c118, c119, c120, c121, c122, c123, c124, c125, c126, c127, c128, c129, c130, c131, c132, c133, c134, c135, c136, c137, c138, c139, c140, c141, c142, c143, c144, c145, c146, c147, c148, c149, c150, c151, c152, c153, c154, c155, c156, c157, c158, c159, c160, c161, c162, c163, c164, c165, c166, c167, c168, c169, c170, c171, c172, c173, c174, c175, c176, c177, c178, c179, c180, c181, c182, c183, c184, c185, c186, c187], []⟩ w := by
  conv => arg 2; whnf
  have hmm := @run_makeMap Yba.prog
  go_wp2_with fail
  rename_i K0 hK0
  have HK0 := hide hK0
  clear hK0 hmm
  have M0 : MB (w.alloc (.map #[] 0)) w.heap.size [] := MB.new w
  have B0 : Below w.heap.size w (w.alloc (.map #[] 0)) := (Below.refl _ _).alloc (Nat.le_refl _) _
  obtain ⟨M, hMe⟩ : ∃ M, w.heap.size = M := ⟨_, rfl⟩
  rw [hMe] at M0 ⊢
  generalize w.alloc (.map #[] 0) = w1 at *
  go_loopg [56] n (fun g0 v wx => ∃ (i : Nat) (ps : Pairs), i ≤ n ∧ g0 = n - i ∧ v = .int .i64 i ∧ MB wx M ps ∧ Below w.heap.size w wx ∧ ps.length ≤ i ∧ ∀ k, lk ps k = get f m g k i)
  case atStart => go_light; exact ⟨0, [], by omega, rfl, rfl, M0, B0, by simp, fun k => rfl⟩
  case round =>
    rename World => w2
    rename_i J2 K2 hJ2 hK2
    clear M0 B0
    obtain ⟨i, ps, hi, rfl, rfl, hM, hb, hl, hq⟩ := hrel
    by_cases hlt : i < n
    · have hlt' : (i : Int) < (n : Int) := by omega
      rcases h3 with h3 | ⟨b3, off3, rfl, hb3, hc3⟩
      · omega
      have e1 := hc3 i hlt
      rw [← hb.cell (p := ⟨b3, off3 + i, none⟩) hb3] at e1
      obtain ⟨x, hx⟩ : ∃ x, f i = x := ⟨_, rfl⟩
      rw [hx] at e1
      have HE := hide hMe
      clear hc3
      by_cases hlm : i < m
      · rcases h4 with h4 | ⟨b4, off4, rfl, hb4, hc4⟩
        · omega
        have hvm : val m g i = g i := by simp [val, hlm]
        have e2 := hc4 i hlm
        rw [← hb.cell (p := ⟨b4, off4 + i, none⟩) hb4] at e2
        obtain ⟨v, hv⟩ : ∃ v, g i = v := ⟨_, rfl⟩
        rw [hv] at e2 hvm
        have hlm' : (i : Int) < (m : Int) := by omega
        have U := run_put hM x v
        simp only [put_held] at U
        have R1 : MB (ChangeMaps.setBlock w2 M (.map (entsF 0 (upd ps x v)).toArray (upd ps x v).length)) M (upd ps x v) := MB.put hM.lt _
        have R2 : Below w.heap.size w (ChangeMaps.setBlock w2 M (.map (entsF 0 (upd ps x v)).toArray (upd ps x v).length)) := hb.trans ((chg_setBlock (S := [M]) (by simp) _).below (by simp; omega) hb.size)
        have R3 := len_step ps x v i hl
        have R4 : ∀ k, lk (upd ps x v) k = get f m g k (i + 1) := by
          intro k
          have := get_step f m g i ps hq k
          rw [hx, hvm] at this
          exact this
        have T1 := hide R1
        have T2 := hide R2
        have T3 := hide R3
        have T4 := hide R4
        clear R1 R2 R3 R4 hM hb hl hq hvm hx
        go_wp2
        go_roundg (n - (i + 1))
        case measure => go_light; omega
        case rel => go_light; exact ⟨i + 1, _, by omega, rfl, by go_num, T1.out, T2.out, T3.out, T4.out⟩
      · have hvm : val m g i = 0 := by simp [val, hlm]
        obtain ⟨v, hv⟩ : ∃ v : Int, v = 0 := ⟨_, rfl⟩
        rw [← hv] at hvm
        have hlm' : ¬ (i : Int) < (m : Int) := by omega
        have U := run_put hM x v
        simp only [put_held] at U
        have R1 : MB (ChangeMaps.setBlock w2 M (.map (entsF 0 (upd ps x v)).toArray (upd ps x v).length)) M (upd ps x v) := MB.put hM.lt _
        have R2 : Below w.heap.size w (ChangeMaps.setBlock w2 M (.map (entsF 0 (upd ps x v)).toArray (upd ps x v).length)) := hb.trans ((chg_setBlock (S := [M]) (by simp) _).below (by simp; omega) hb.size)
        have R3 := len_step ps x v i hl
        have R4 : ∀ k, lk (upd ps x v) k = get f m g k (i + 1) := by
          intro k
          have := get_step f m g i ps hq k
          rw [hx, hvm] at this
          exact this
        have T1 := hide R1
        have T2 := hide R2
        have T3 := hide R3
        have T4 := hide R4
        clear R1 R2 R3 R4 hM hb hl hq hvm hx
        subst hv
        go_wp2
        go_roundg (n - (i + 1))
        case measure => go_light; omega
        case rel => go_light; exact ⟨i + 1, _, by omega, rfl, by go_num, T1.out, T2.out, T3.out, T4.out⟩
    · clear hJ2 hK2
      obtain rfl : i = n := by omega
      go_wp2
      exact HK0.out _ _ (tail14 _ _ _ _ _ _ _ _ _ _ _ _ _ _ _ _ _ _ _ _ _ _ _ _ _ _ _ _ _ _ _ _ _ _ _ _ _ _ _ _ _ _ _ _ _ _ _ _ _ _ _ _ _ _ _ _ _ _ _ _ _ _ _ _ _ _ _ _ _ _ _ _ _ _ _ _ _ _ _ _ _ _ _ _ _ _ _ _ _ _ _ _ _ _ _ _ _ _ _ _ _ _ _ _ _ _ _ _ _ _ _ _ _ _ _ _ _ _ _ _ _ _ _ _ _ _ _ _ _ _ _ _ _ _ _ _ _ _ _ _ _ _ _ _ _ _ _ _ _ _ _ _ _ _ _ _ _ _ _ _ _ _ _ _ _ _ _ _ _ _ _ _ _ _ _ _ _ _ _ _ _ _ a3 a4 i cc3 m cc4 M c f g w w2 sd fl ps hn hm h3 h4 hM (by omega) hl hq hb)

end Go.Proofs.Ybulkciig
