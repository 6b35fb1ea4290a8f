import Derived.Test.YbulkciemGreatDoorItoa
namespace Go.Proofs.YbulkciemGreatDoor
open Go.RowKit
set_option linter.unusedVariables false
set_option linter.unusedSimpArgs false

/-- The input row: for each i a byte and a bool. -/
def Inp (w : World) (ia : Option Addr) (n : Nat) (bf : Nat → Int) (ex : Nat → Bool) : Prop :=
  n = 0 ∨ ∃ b off, ia = some ⟨b, off, none⟩ ∧ b < w.heap.size ∧ ∀ i, i < n → w.cell? ⟨b, off + i * 2, none⟩ = some (.int .u8 (bf i)) ∧ w.cell? ⟨b, off + i * 2 + 1, none⟩ = some (.bool (ex i)) ∧ 0 ≤ bf i ∧ bf i ≤ 255
theorem Inp.below {w w' : World} {ia : Option Addr} {n : Nat} {bf : Nat → Int} {ex : Nat → Bool} (h : Inp w ia n bf ex) (hb : Below w.heap.size w w') : Inp w' ia n bf ex := by
  rcases h with h | ⟨b, off, rfl, hlt, h⟩
  · exact .inl h
  · refine .inr ⟨b, off, rfl, Nat.lt_of_lt_of_le hlt hb.size, fun i hi => ?_⟩
    obtain ⟨h1, h2, h3⟩ := h i hi
    exact ⟨cell_later hb h1, cell_later hb h2, h3⟩

/-- What the byte stands for. -/
def kOf (bf : Nat → Int) (i : Nat) : Nat := (bf i % 4).toNat
abbrev accOf (a : Int) (bf : Nat → Int) (n : Nat) : List Nat := accs (fun i => accb a (kOf bf i)) n

/-- The world behind complete, as the law reads it. -/
structure Aft (w : World) (F R LP AC O c gf cf n cn vc lc : Nat) (ia va la : Option Addr) (bf : Nat → Int) (ex : Nat → Bool) (v : Nat → Value) (a : Int) : Prop where
  f3 : w.cell? ⟨F, 3, none⟩ = some (.slice (some ⟨O, 0, none⟩) 2 c)
  o1 : w.cell? ⟨O, 1, none⟩ = some (.pointer none)
  f4 : w.cell? ⟨F, 4, none⟩ = some (.slice (some ⟨gf, 0, none⟩) 1 cf)
  g0 : w.cell? ⟨gf, 0, none⟩ = some (.int .i64 1)
  f6 : w.cell? ⟨F, 6, none⟩ = some (.slice va cn vc)
  f54 : w.cell? ⟨F, 54, none⟩ = some (.bool false)
  r2 : w.cell? ⟨R, 2, none⟩ = some (.int .i64 1099511627776)
  lp : w.cell? ⟨LP, 0, none⟩ = some (.slice la n lc)
  ac : w.cell? ⟨AC, 0, none⟩ = some (.int .u8 a)
  hcn : cn = (accOf a bf n).length
  log : n = 0 ∨ ∃ lg, la = some ⟨lg, 0, none⟩ ∧ ∀ i, i < n → w.cell? ⟨lg, i, none⟩ = some (.string (tbl (kOf bf i)))
  kept : cn = 0 ∨ ∃ vg, va = some ⟨vg, 0, none⟩ ∧ ∀ m, m < cn → (∀ j u, (cells6 (stN ((accOf a bf n).getD m 0)) (v m))[j]? = some u → w.cell? ⟨vg, m * 6 + j, none⟩ = some u) ∧ TkOut w (ex ((accOf a bf n).getD m 0)) (v m)
  inp : Inp w ia n bf ex
  tab : Tab10 w
theorem Aft.below {w w' : World} {F R LP AC O c gf cf n cn vc lc : Nat} {ia va la : Option Addr} {bf : Nat → Int} {ex : Nat → Bool} {v : Nat → Value} {a : Int} (h : Aft w F R LP AC O c gf cf n cn vc lc ia va la bf ex v a) (hb : Below w.heap.size w w') : Aft w' F R LP AC O c gf cf n cn vc lc ia va la bf ex v a := by
  refine ⟨cell_later hb h.f3, cell_later hb h.o1, cell_later hb h.f4, cell_later hb h.g0, cell_later hb h.f6, cell_later hb h.f54, cell_later hb h.r2, cell_later hb h.lp, cell_later hb h.ac, h.hcn, ?_, ?_, h.inp.below hb, tab_below h.tab hb⟩
  · rcases h.log with h0 | ⟨lg, hl, hc⟩
    · exact .inl h0
    · exact .inr ⟨lg, hl, fun i hi => cell_later hb (hc i hi)⟩
  · rcases h.kept with h0 | ⟨vg, hl, hc⟩
    · exact .inl h0
    · exact .inr ⟨vg, hl, fun m hm => ⟨fun j u hu => cell_later hb ((hc m hm).1 j u hu), ((hc m hm).2).chg (Chg.ofBelow (S := []) hb) (NoTk.nil _)⟩⟩

theorem sum_num (i : Nat) (h : i ≤ 1000) (wx : World) : (Op.stringOp .add ⟨#[115]⟩ (num i)).run Ybaz.prog wx = .ok (.string (⟨#[115]⟩ ++ num i)) wx := run_string_add_sum (w := wx) ⟨#[115]⟩ (num i) (by
  have h1 : (⟨#[115]⟩ : ByteArray).size = 1 := rfl
  have h2 := Lib.itoa_length_le (i : Int) (by omega) (by omega)
  have h3 : (num i).size = (Lib.itoa (i : Int)).length := rfl
  omega)
theorem Ybaz.ptr_nil (w : World) : (binOp .neq 74 (.pointer none) (.pointer none)).run Ybaz.prog w = .ok (.bool false) w := by kernel_rfl

set_option maxRecDepth 1000000 in
set_option maxHeartbeats 3200000 in
theorem tail31 (c1 c2 c4 c6 c7 c8 c9 c10 c13 c14 c15 c16 c17 c18 c19 c20 c21 c22 c23 c24 c25 c26 c27 c28 c29 c30 c31 c32 c33 c34 c35 c36 c37 c38 c39 c40 c41 c42 c43 c44 c45 c46 c47 c48 c49 c50 c51 c52 c53 c54 c55 c56 c57 c58 c59 c60 c61 c62 c63 c64 c65 c66 c67 c68 c69 c70 c71 c72 c73 c74 c75 c76 c77 c78 c79 c80 c81 c82 c83 c84 c85 c86 c87 c88 c89 c90 c91 c92 c93 c94 c95 c96 c97 c98 c99 c100 c101 c102 c103 c104 c105 c106 c107 c108 c109 c110 c111 c112 c113 c114 c115 c116 c117 c118 c119 c120 c121 c122 c123 c124 c125 c126 c127 c128 c129 c130 c131 c132 c133 c134 c135 c136 c137 c138 c139 c140 c141 c142 c143 c144 c145 c146 c147 c148 c149 c150 c151 c152 c153 c154 c155 c156 c157 c158 c159 c160 c161 c162 c163 c164 c165 c166 c167 c168 c169 c170 c171 c172 c173 c174 c175 c176 c177 c178 c179 c180 c181 c182 c183 c184 c185 c186 c187 c188 c189 c190 c191 c192 c193 c194 c195 c196 c197 c198 c199 c200 c201 c202 c203 c204 c205 c206 c207 c208 c209 c210 c211 c212 c213 c214 c215 c216 c217 c218 c219 c220 c221 c222 c223 c224 c225 c226 c227 : Value) (F R LP AC O c gf cf n cn vc lc icap : Nat) (ia va la : Option Addr) (bf : Nat → Int) (ex : Nat → Bool) (v : Nat → Value) (a : Int) (w0 w : World) (hA : Aft w F R LP AC O c gf cf n cn vc lc ia va la bf ex v a) (hb : Below w0.heap.size w0 w) (hn : n ≤ 300) (ha0 : 0 ≤ a) (ha1 : a ≤ 255) :
    Code.wp Ybaz.prog (tailAt 31 (Ybaz.f3.body.getD .skip)) (bodyPost Ybaz.prog Ybaz.f3 fun e w' => e = .returned (.bool true) ∧ Below w0.heap.size w0 w') ⟨#[.slice ia n icap, c1, c2, .pointer (some ⟨AC, 0, none⟩), c4, .pointer (some ⟨LP, 0, none⟩), c6, c7, c8, c9, c10, .pointer (some ⟨R, 0, none⟩), .pointer (some ⟨F, 0, none⟩), c13, c14, c15, c16, c17, c18, c19, c20, c21, c22, c23, c24, c25, c26, c27, c28, c29, c30, c31, c32, c33, c34, c35, c36, c37, c38, c39, c40, c41, c42, c43, c44, c45, c46, c47, c48, c49, c50, c51, c52, c53, c54, c55, c56, c57, c58, c59, c60, c61, c62, c63, c64, c65, c66, c67, c68, c69, c70, c71, c72, c73, c74, c75, c76, c77, c78, c79, c80, c81, c82, c83, c84, c85, c86, c87, c88, c89, c90, c91, c92, c93, c94, c95, c96, c97, c98, c99, c100, c101, c102, c103, c104, c105, c106, c107, c108, c109, c110, c111, c112, c113, c114, c115, c116, c117, c118, c119, c120, c121, c122, c123, c124, c125, c126, c127, c128, c129, c130, c131, c132, c133, c134, c135, c136, c137, c138, c139, c140, c141, c142, c143, c144, c145, c146, c147, c148, c149, c150, c151, c152, c153, c154, c155, c156, c157, c158, c159, c160, c161, c162, c163, c164, c165, c166, c167, c168, c169, c170, c171, c172, c173, c174, c175, c176, c177, c178, c179, c180, c181, c182, c183, c184, c185, c186, c187, c188, c189, c190, c191, c192, c193, c194, c195, c196, c197, c198, c199, c200, c201, c202, c203, c204, c205, c206, c207, c208, c209, c210, c211, c212, c213, c214, c215, c216, c217, c218, c219, c220, c221, c222, c223, c224, c225, c226, c227], []⟩ w := by
  conv => arg 2; whnf
  have f3 := hA.f3
  have o1 := hA.o1
  have f4 := hA.f4
  have g0 := hA.g0
  have hpn := Ybaz.ptr_nil
  have HA := hide hA
  have HB := hide hb
  clear hA hb
  go_wp2_with fail
  rename_i K0 hK0
  have HK0 := hide hK0
  clear hK0 f3 o1 f4 g0
  go_loopg [15, 157] n (fun g0 v15 v157 wx => ∃ i : Nat, i ≤ n ∧ g0 = n - i ∧ v157 = .int .i64 i ∧ v15 = .int .i64 ((accOf a bf i).length : Int) ∧ Aft wx F R LP AC O c gf cf n cn vc lc ia va la bf ex v a ∧ Below w0.heap.size w0 wx)
  case atStart => go_light; exact ⟨0, by omega, rfl, rfl, rfl, HA.out, HB.out⟩
  case round =>
    rename World => w2
    rename_i J2 K2 hJ2 hK2
    obtain ⟨i, hi, rfl, rfl, rfl, hA2, hb2⟩ := hrel
    by_cases hlt : i < n
    · have hlt' : (i : Int) < (n : Int) := by omega
      rcases hA2.inp with hz | ⟨b, off, hia, hblt, hin⟩
      · omega
      obtain ⟨h1, h2, h3, h4⟩ := hin i hlt
      have hac := hA2.ac
      have haclt := World.block_lt_of_cell? _ _ hac
      have HA2 := hide hA2
      have HB2 := hide hb2
      have hk4 : bf i % 4 = 0 ∨ bf i % 4 = 1 ∨ bf i % 4 = 2 ∨ bf i % 4 = 3 := by omega
      subst hia
      clear hA2 hb2 hin HA HB
      rcases hk4 with hk | hk | hk | hk
      · have hkk : kOf bf i = 0 := by unfold kOf; omega
        cases hacc : accb a (kOf bf i) with
        | false =>
          have hbit : ¬ (bits .and .u8 a 1 = 1) := by
            rw [hkk] at hacc
            simpa [accb] using hacc
          have hsu : accOf a bf (i + 1) = accOf a bf i := by unfold accOf; rw [accs_succ]; simp [hacc]
          clear hacc
          go_wp2
          go_roundg (n - (i + 1))
          case measure => go_light; omega
          case rel => go_light; exact ⟨i + 1, by omega, rfl, by go_num, by rw [hsu], HA2.out.below ((Below.refl _ _).alloc (Nat.le_refl _) _), HB2.out.alloc HB2.out.size _⟩
        | true =>
          have hbit : bits .and .u8 a 1 = 1 := by
            rw [hkk] at hacc
            simpa [accb] using hacc
          have hj : (accOf a bf i).length < cn := by
            rw [HA2.out.hcn]
            have h1 := accs_mono (fun i => accb a (kOf bf i)) (i + 1) n hlt
            have h2 : accOf a bf (i + 1) = accOf a bf i ++ [i] := by unfold accOf; rw [accs_succ]; simp [hacc]
            have h3 : (accOf a bf (i + 1)).length = (accOf a bf i).length + 1 := by rw [h2]; simp
            unfold accOf at *
            omega
          have hat : (accOf a bf n).getD (accOf a bf i).length 0 = i := by
            unfold accOf
            rw [List.getD_eq_getElem?_getD, accs_at (fun i => accb a (kOf bf i)) i n hlt hacc]
            rfl
          have hsu : (accOf a bf (i + 1)).length = (accOf a bf i).length + 1 := by unfold accOf; rw [accs_succ]; simp [hacc]
          rcases HA2.out.kept with hz | ⟨vg, hva, hkp⟩
          · omega
          obtain ⟨hcl, htk⟩ := hkp _ hj
          rw [hat] at hcl htk
          have hcnb : cn ≤ 300 := by
            rw [HA2.out.hcn]
            have := accs_le (fun i => accb a (kOf bf i)) n
            unfold accOf
            omega
          obtain ⟨m, hm⟩ : ∃ m, m = (accOf a bf i).length := ⟨_, rfl⟩
          rw [← hm] at hj hcl htk hsu ⊢
          have hj' : (m : Int) < (cn : Int) := by omega
          have hj2 : ¬ ((cn : Int) ≤ (m : Int)) := by omega
          have f6 := HA2.out.f6
          rw [hva] at f6
          have hFlt := World.block_lt_of_cell? _ _ f6
          have a0 : w2.cell? ⟨vg, m * 6, none⟩ = some (.string (⟨#[115]⟩ ++ num i)) := hcl 0 _ rfl
          have a1 : w2.cell? ⟨vg, m * 6 + 1, none⟩ = some (.slice none 0 0) := hcl 1 _ rfl
          have a2 : w2.cell? ⟨vg, m * 6 + 2, none⟩ = some (v m) := hcl 2 _ rfl
          have a3 : w2.cell? ⟨vg, m * 6 + 3, none⟩ = some (.slice none 0 0) := hcl 3 _ rfl
          have a4 : w2.cell? ⟨vg, m * 6 + 4, none⟩ = some (.slice none 0 0) := hcl 4 _ rfl
          have a5 : w2.cell? ⟨vg, m * 6 + 5, none⟩ = some (.slice none 0 0) := hcl 5 _ rfl
          have hvlt := World.block_lt_of_cell? _ _ a0
          have hsum := sum_num i (by omega)
          have HM := hide hm
          clear hcl hkp hat hacc hva HK0 hm
          cases hex : ex i with
          | false =>
            rw [hex] at h2 htk
            obtain ⟨tg, tc, ⟨_, hvm⟩ | ⟨hx, _⟩⟩ := htk
            · rw [hvm] at a2
              clear hvm
              have HI := hide (itoa6 i (by omega) (((w2.alloc (.cells #[.int .u8 (bf i), .bool false] 29)).alloc (.cells #[.string (⟨#[115]⟩ ++ num i), .slice none 0 0, .slice (some ⟨tg, 0, none⟩) 0 tc, .slice none 0 0, .slice none 0 0, .slice none 0 0] 37)).drew) (tab_below HA2.out.tab (((Below.refl _ _).alloc (Nat.le_refl _) _).alloc (by simp) _).drew))
              have hbb : Below w2.heap.size w2 (((w2.alloc (.cells #[.int .u8 (bf i), .bool false] 29)).alloc (.cells #[.string (⟨#[115]⟩ ++ num i), .slice none 0 0, .slice (some ⟨tg, 0, none⟩) 0 tc, .slice none 0 0, .slice none 0 0, .slice none 0 0] 37)).drew) := (((Below.refl _ _).alloc (Nat.le_refl _) _).alloc (by simp) _).drew
              have bx : Blk (((w2.alloc (.cells #[.int .u8 (bf i), .bool false] 29)).alloc (.cells #[.string (⟨#[115]⟩ ++ num i), .slice none 0 0, .slice (some ⟨tg, 0, none⟩) 0 tc, .slice none 0 0, .slice none 0 0, .slice none 0 0] 37)).drew) (w2.heap.size + 1) 37 [.string (⟨#[115]⟩ ++ num i), .slice none 0 0, .slice (some ⟨tg, 0, none⟩) 0 tc, .slice none 0 0, .slice none 0 0, .slice none 0 0] := by
                have := (Blk.new (w2.alloc (.cells #[.int .u8 (bf i), .bool false] 29)) 37 [.string (⟨#[115]⟩ ++ num i), .slice none 0 0, .slice (some ⟨tg, 0, none⟩) 0 tc, .slice none 0 0, .slice none 0 0, .slice none 0 0]).drew
                rwa [World.size_alloc] at this
              have bc : Blk (((w2.alloc (.cells #[.int .u8 (bf i), .bool false] 29)).alloc (.cells #[.string (⟨#[115]⟩ ++ num i), .slice none 0 0, .slice (some ⟨tg, 0, none⟩) 0 tc, .slice none 0 0, .slice none 0 0, .slice none 0 0] 37)).drew) w2.heap.size 29 [.int .u8 (bf i), .bool false] := ((Blk.new w2 29 _).alloc _).drew
              have HX := hide (And.intro bx (And.intro bc hbb))
              clear bx bc hbb
              go_wp2
              go_region_held3 (fun w' => w'.cell? ⟨w2.heap.size + 1, 0, none⟩ = some (.string (⟨#[115]⟩ ++ num i))) (first | assumption | go_keep)
                ((go_at_call 6; refine HI.out.mono ?_; rintro e w5 ⟨rfl, b5⟩; (have bx5 := HX.out.1.below b5 HX.out.1.lt); (have bc5 := HX.out.2.1.below b5 HX.out.2.1.lt); (have z0 : w5.cell? ⟨w2.heap.size + 1, 0, none⟩ = some (.string (⟨#[115]⟩ ++ num i)) := bx5.cell 0); (have z2 : w5.cell? ⟨w2.heap.size + 1, 2, none⟩ = some (.slice (some ⟨tg, 0, none⟩) 0 tc) := bx5.cell 2); (have y1 : w5.cell? ⟨w2.heap.size, 1, none⟩ = some (.bool false) := bc5.cell 1); (have hb5 : Below w2.heap.size w2 w5 := HX.out.2.2.trans (b5.mono HX.out.2.2.size));  have HB5 := hide hb5; clear hb5 b5 bx5 bc5))
              go_wp2
              go_roundg (n - (i + 1))
              case measure => go_light; omega
              case rel => go_light; exact ⟨i + 1, by omega, rfl, by go_num, by rw [hsu]; simp, HA2.out.below HB5.out, HB2.out.trans (HB5.out.mono HB2.out.size)⟩
            · cases hx
          | true =>
            rw [hex] at h2 htk
            obtain ⟨tg, tc, ⟨hx, _⟩ | ⟨_, hvm, htt, t0, t1⟩⟩ := htk
            · cases hx
            · rw [hvm] at a2
              have htlt := htt.lt
              clear hvm htt
              have HI := hide (itoa6 i (by omega) (((w2.alloc (.cells #[.int .u8 (bf i), .bool true] 29)).alloc (.cells #[.string (⟨#[115]⟩ ++ num i), .slice none 0 0, .slice (some ⟨tg, 0, none⟩) 1 tc, .slice none 0 0, .slice none 0 0, .slice none 0 0] 37)).drew) (tab_below HA2.out.tab (((Below.refl _ _).alloc (Nat.le_refl _) _).alloc (by simp) _).drew))
              have hbb : Below w2.heap.size w2 (((w2.alloc (.cells #[.int .u8 (bf i), .bool true] 29)).alloc (.cells #[.string (⟨#[115]⟩ ++ num i), .slice none 0 0, .slice (some ⟨tg, 0, none⟩) 1 tc, .slice none 0 0, .slice none 0 0, .slice none 0 0] 37)).drew) := (((Below.refl _ _).alloc (Nat.le_refl _) _).alloc (by simp) _).drew
              have bx : Blk (((w2.alloc (.cells #[.int .u8 (bf i), .bool true] 29)).alloc (.cells #[.string (⟨#[115]⟩ ++ num i), .slice none 0 0, .slice (some ⟨tg, 0, none⟩) 1 tc, .slice none 0 0, .slice none 0 0, .slice none 0 0] 37)).drew) (w2.heap.size + 1) 37 [.string (⟨#[115]⟩ ++ num i), .slice none 0 0, .slice (some ⟨tg, 0, none⟩) 1 tc, .slice none 0 0, .slice none 0 0, .slice none 0 0] := by
                have := (Blk.new (w2.alloc (.cells #[.int .u8 (bf i), .bool true] 29)) 37 [.string (⟨#[115]⟩ ++ num i), .slice none 0 0, .slice (some ⟨tg, 0, none⟩) 1 tc, .slice none 0 0, .slice none 0 0, .slice none 0 0]).drew
                rwa [World.size_alloc] at this
              have bc : Blk (((w2.alloc (.cells #[.int .u8 (bf i), .bool true] 29)).alloc (.cells #[.string (⟨#[115]⟩ ++ num i), .slice none 0 0, .slice (some ⟨tg, 0, none⟩) 1 tc, .slice none 0 0, .slice none 0 0, .slice none 0 0] 37)).drew) w2.heap.size 29 [.int .u8 (bf i), .bool true] := ((Blk.new w2 29 _).alloc _).drew
              have HX := hide (And.intro bx (And.intro bc hbb))
              clear bx bc hbb
              go_wp2
              go_region_held3 (fun w' => w'.cell? ⟨w2.heap.size + 1, 0, none⟩ = some (.string (⟨#[115]⟩ ++ num i))) (first | assumption | go_keep)
                ((go_at_call 6; refine HI.out.mono ?_; rintro e w5 ⟨rfl, b5⟩; (have bx5 := HX.out.1.below b5 HX.out.1.lt); (have bc5 := HX.out.2.1.below b5 HX.out.2.1.lt); (have z0 : w5.cell? ⟨w2.heap.size + 1, 0, none⟩ = some (.string (⟨#[115]⟩ ++ num i)) := bx5.cell 0); (have z2 : w5.cell? ⟨w2.heap.size + 1, 2, none⟩ = some (.slice (some ⟨tg, 0, none⟩) 1 tc) := bx5.cell 2); (have y1 : w5.cell? ⟨w2.heap.size, 1, none⟩ = some (.bool true) := bc5.cell 1); (have hb5 : Below w2.heap.size w2 w5 := HX.out.2.2.trans (b5.mono HX.out.2.2.size)); (have q0 := cell_later hb5 t0); (have q1 := cell_later hb5 t1); have HB5 := hide hb5; clear hb5 b5 bx5 bc5))
              go_wp2
              go_roundg (n - (i + 1))
              case measure => go_light; omega
              case rel => go_light; exact ⟨i + 1, by omega, rfl, by go_num, by rw [hsu]; simp, HA2.out.below HB5.out, HB2.out.trans (HB5.out.mono HB2.out.size)⟩
      · have hkk : kOf bf i = 1 := by unfold kOf; omega
        cases hacc : accb a (kOf bf i) with
        | false =>
          have hbit : ¬ (bits .and .u8 (a / 2) 1 = 1) := by
            rw [hkk] at hacc
            simpa [accb] using hacc
          have hsu : accOf a bf (i + 1) = accOf a bf i := by unfold accOf; rw [accs_succ]; simp [hacc]
          clear hacc
          go_wp2
          go_roundg (n - (i + 1))
          case measure => go_light; omega
          case rel => go_light; exact ⟨i + 1, by omega, rfl, by go_num, by rw [hsu], HA2.out.below ((Below.refl _ _).alloc (Nat.le_refl _) _), HB2.out.alloc HB2.out.size _⟩
        | true =>
          have hbit : bits .and .u8 (a / 2) 1 = 1 := by
            rw [hkk] at hacc
            simpa [accb] using hacc
          have hj : (accOf a bf i).length < cn := by
            rw [HA2.out.hcn]
            have h1 := accs_mono (fun i => accb a (kOf bf i)) (i + 1) n hlt
            have h2 : accOf a bf (i + 1) = accOf a bf i ++ [i] := by unfold accOf; rw [accs_succ]; simp [hacc]
            have h3 : (accOf a bf (i + 1)).length = (accOf a bf i).length + 1 := by rw [h2]; simp
            unfold accOf at *
            omega
          have hat : (accOf a bf n).getD (accOf a bf i).length 0 = i := by
            unfold accOf
            rw [List.getD_eq_getElem?_getD, accs_at (fun i => accb a (kOf bf i)) i n hlt hacc]
            rfl
          have hsu : (accOf a bf (i + 1)).length = (accOf a bf i).length + 1 := by unfold accOf; rw [accs_succ]; simp [hacc]
          rcases HA2.out.kept with hz | ⟨vg, hva, hkp⟩
          · omega
          obtain ⟨hcl, htk⟩ := hkp _ hj
          rw [hat] at hcl htk
          have hcnb : cn ≤ 300 := by
            rw [HA2.out.hcn]
            have := accs_le (fun i => accb a (kOf bf i)) n
            unfold accOf
            omega
          obtain ⟨m, hm⟩ : ∃ m, m = (accOf a bf i).length := ⟨_, rfl⟩
          rw [← hm] at hj hcl htk hsu ⊢
          have hj' : (m : Int) < (cn : Int) := by omega
          have hj2 : ¬ ((cn : Int) ≤ (m : Int)) := by omega
          have f6 := HA2.out.f6
          rw [hva] at f6
          have hFlt := World.block_lt_of_cell? _ _ f6
          have a0 : w2.cell? ⟨vg, m * 6, none⟩ = some (.string (⟨#[115]⟩ ++ num i)) := hcl 0 _ rfl
          have a1 : w2.cell? ⟨vg, m * 6 + 1, none⟩ = some (.slice none 0 0) := hcl 1 _ rfl
          have a2 : w2.cell? ⟨vg, m * 6 + 2, none⟩ = some (v m) := hcl 2 _ rfl
          have a3 : w2.cell? ⟨vg, m * 6 + 3, none⟩ = some (.slice none 0 0) := hcl 3 _ rfl
          have a4 : w2.cell? ⟨vg, m * 6 + 4, none⟩ = some (.slice none 0 0) := hcl 4 _ rfl
          have a5 : w2.cell? ⟨vg, m * 6 + 5, none⟩ = some (.slice none 0 0) := hcl 5 _ rfl
          have hvlt := World.block_lt_of_cell? _ _ a0
          have hsum := sum_num i (by omega)
          have HM := hide hm
          clear hcl hkp hat hacc hva HK0 hm
          cases hex : ex i with
          | false =>
            rw [hex] at h2 htk
            obtain ⟨tg, tc, ⟨_, hvm⟩ | ⟨hx, _⟩⟩ := htk
            · rw [hvm] at a2
              clear hvm
              have HI := hide (itoa6 i (by omega) (((w2.alloc (.cells #[.int .u8 (bf i), .bool false] 29)).alloc (.cells #[.string (⟨#[115]⟩ ++ num i), .slice none 0 0, .slice (some ⟨tg, 0, none⟩) 0 tc, .slice none 0 0, .slice none 0 0, .slice none 0 0] 37)).drew) (tab_below HA2.out.tab (((Below.refl _ _).alloc (Nat.le_refl _) _).alloc (by simp) _).drew))
              have hbb : Below w2.heap.size w2 (((w2.alloc (.cells #[.int .u8 (bf i), .bool false] 29)).alloc (.cells #[.string (⟨#[115]⟩ ++ num i), .slice none 0 0, .slice (some ⟨tg, 0, none⟩) 0 tc, .slice none 0 0, .slice none 0 0, .slice none 0 0] 37)).drew) := (((Below.refl _ _).alloc (Nat.le_refl _) _).alloc (by simp) _).drew
              have bx : Blk (((w2.alloc (.cells #[.int .u8 (bf i), .bool false] 29)).alloc (.cells #[.string (⟨#[115]⟩ ++ num i), .slice none 0 0, .slice (some ⟨tg, 0, none⟩) 0 tc, .slice none 0 0, .slice none 0 0, .slice none 0 0] 37)).drew) (w2.heap.size + 1) 37 [.string (⟨#[115]⟩ ++ num i), .slice none 0 0, .slice (some ⟨tg, 0, none⟩) 0 tc, .slice none 0 0, .slice none 0 0, .slice none 0 0] := by
                have := (Blk.new (w2.alloc (.cells #[.int .u8 (bf i), .bool false] 29)) 37 [.string (⟨#[115]⟩ ++ num i), .slice none 0 0, .slice (some ⟨tg, 0, none⟩) 0 tc, .slice none 0 0, .slice none 0 0, .slice none 0 0]).drew
                rwa [World.size_alloc] at this
              have bc : Blk (((w2.alloc (.cells #[.int .u8 (bf i), .bool false] 29)).alloc (.cells #[.string (⟨#[115]⟩ ++ num i), .slice none 0 0, .slice (some ⟨tg, 0, none⟩) 0 tc, .slice none 0 0, .slice none 0 0, .slice none 0 0] 37)).drew) w2.heap.size 29 [.int .u8 (bf i), .bool false] := ((Blk.new w2 29 _).alloc _).drew
              have HX := hide (And.intro bx (And.intro bc hbb))
              clear bx bc hbb
              go_wp2
              go_region_held3 (fun w' => w'.cell? ⟨w2.heap.size + 1, 0, none⟩ = some (.string (⟨#[115]⟩ ++ num i))) (first | assumption | go_keep)
                ((go_at_call 6; refine HI.out.mono ?_; rintro e w5 ⟨rfl, b5⟩; (have bx5 := HX.out.1.below b5 HX.out.1.lt); (have bc5 := HX.out.2.1.below b5 HX.out.2.1.lt); (have z0 : w5.cell? ⟨w2.heap.size + 1, 0, none⟩ = some (.string (⟨#[115]⟩ ++ num i)) := bx5.cell 0); (have z2 : w5.cell? ⟨w2.heap.size + 1, 2, none⟩ = some (.slice (some ⟨tg, 0, none⟩) 0 tc) := bx5.cell 2); (have y1 : w5.cell? ⟨w2.heap.size, 1, none⟩ = some (.bool false) := bc5.cell 1); (have hb5 : Below w2.heap.size w2 w5 := HX.out.2.2.trans (b5.mono HX.out.2.2.size));  have HB5 := hide hb5; clear hb5 b5 bx5 bc5))
              go_wp2
              go_roundg (n - (i + 1))
              case measure => go_light; omega
              case rel => go_light; exact ⟨i + 1, by omega, rfl, by go_num, by rw [hsu]; simp, HA2.out.below HB5.out, HB2.out.trans (HB5.out.mono HB2.out.size)⟩
            · cases hx
          | true =>
            rw [hex] at h2 htk
            obtain ⟨tg, tc, ⟨hx, _⟩ | ⟨_, hvm, htt, t0, t1⟩⟩ := htk
            · cases hx
            · rw [hvm] at a2
              have htlt := htt.lt
              clear hvm htt
              have HI := hide (itoa6 i (by omega) (((w2.alloc (.cells #[.int .u8 (bf i), .bool true] 29)).alloc (.cells #[.string (⟨#[115]⟩ ++ num i), .slice none 0 0, .slice (some ⟨tg, 0, none⟩) 1 tc, .slice none 0 0, .slice none 0 0, .slice none 0 0] 37)).drew) (tab_below HA2.out.tab (((Below.refl _ _).alloc (Nat.le_refl _) _).alloc (by simp) _).drew))
              have hbb : Below w2.heap.size w2 (((w2.alloc (.cells #[.int .u8 (bf i), .bool true] 29)).alloc (.cells #[.string (⟨#[115]⟩ ++ num i), .slice none 0 0, .slice (some ⟨tg, 0, none⟩) 1 tc, .slice none 0 0, .slice none 0 0, .slice none 0 0] 37)).drew) := (((Below.refl _ _).alloc (Nat.le_refl _) _).alloc (by simp) _).drew
              have bx : Blk (((w2.alloc (.cells #[.int .u8 (bf i), .bool true] 29)).alloc (.cells #[.string (⟨#[115]⟩ ++ num i), .slice none 0 0, .slice (some ⟨tg, 0, none⟩) 1 tc, .slice none 0 0, .slice none 0 0, .slice none 0 0] 37)).drew) (w2.heap.size + 1) 37 [.string (⟨#[115]⟩ ++ num i), .slice none 0 0, .slice (some ⟨tg, 0, none⟩) 1 tc, .slice none 0 0, .slice none 0 0, .slice none 0 0] := by
                have := (Blk.new (w2.alloc (.cells #[.int .u8 (bf i), .bool true] 29)) 37 [.string (⟨#[115]⟩ ++ num i), .slice none 0 0, .slice (some ⟨tg, 0, none⟩) 1 tc, .slice none 0 0, .slice none 0 0, .slice none 0 0]).drew
                rwa [World.size_alloc] at this
              have bc : Blk (((w2.alloc (.cells #[.int .u8 (bf i), .bool true] 29)).alloc (.cells #[.string (⟨#[115]⟩ ++ num i), .slice none 0 0, .slice (some ⟨tg, 0, none⟩) 1 tc, .slice none 0 0, .slice none 0 0, .slice none 0 0] 37)).drew) w2.heap.size 29 [.int .u8 (bf i), .bool true] := ((Blk.new w2 29 _).alloc _).drew
              have HX := hide (And.intro bx (And.intro bc hbb))
              clear bx bc hbb
              go_wp2
              go_region_held3 (fun w' => w'.cell? ⟨w2.heap.size + 1, 0, none⟩ = some (.string (⟨#[115]⟩ ++ num i))) (first | assumption | go_keep)
                ((go_at_call 6; refine HI.out.mono ?_; rintro e w5 ⟨rfl, b5⟩; (have bx5 := HX.out.1.below b5 HX.out.1.lt); (have bc5 := HX.out.2.1.below b5 HX.out.2.1.lt); (have z0 : w5.cell? ⟨w2.heap.size + 1, 0, none⟩ = some (.string (⟨#[115]⟩ ++ num i)) := bx5.cell 0); (have z2 : w5.cell? ⟨w2.heap.size + 1, 2, none⟩ = some (.slice (some ⟨tg, 0, none⟩) 1 tc) := bx5.cell 2); (have y1 : w5.cell? ⟨w2.heap.size, 1, none⟩ = some (.bool true) := bc5.cell 1); (have hb5 : Below w2.heap.size w2 w5 := HX.out.2.2.trans (b5.mono HX.out.2.2.size)); (have q0 := cell_later hb5 t0); (have q1 := cell_later hb5 t1); have HB5 := hide hb5; clear hb5 b5 bx5 bc5))
              go_wp2
              go_roundg (n - (i + 1))
              case measure => go_light; omega
              case rel => go_light; exact ⟨i + 1, by omega, rfl, by go_num, by rw [hsu]; simp, HA2.out.below HB5.out, HB2.out.trans (HB5.out.mono HB2.out.size)⟩
      · have hkk : kOf bf i = 2 := by unfold kOf; omega
        cases hacc : accb a (kOf bf i) with
        | false =>
          have hbit : ¬ (bits .and .u8 (a / 4) 1 = 1) := by
            rw [hkk] at hacc
            simpa [accb] using hacc
          have hsu : accOf a bf (i + 1) = accOf a bf i := by unfold accOf; rw [accs_succ]; simp [hacc]
          clear hacc
          go_wp2
          go_roundg (n - (i + 1))
          case measure => go_light; omega
          case rel => go_light; exact ⟨i + 1, by omega, rfl, by go_num, by rw [hsu], HA2.out.below ((Below.refl _ _).alloc (Nat.le_refl _) _), HB2.out.alloc HB2.out.size _⟩
        | true =>
          have hbit : bits .and .u8 (a / 4) 1 = 1 := by
            rw [hkk] at hacc
            simpa [accb] using hacc
          have hj : (accOf a bf i).length < cn := by
            rw [HA2.out.hcn]
            have h1 := accs_mono (fun i => accb a (kOf bf i)) (i + 1) n hlt
            have h2 : accOf a bf (i + 1) = accOf a bf i ++ [i] := by unfold accOf; rw [accs_succ]; simp [hacc]
            have h3 : (accOf a bf (i + 1)).length = (accOf a bf i).length + 1 := by rw [h2]; simp
            unfold accOf at *
            omega
          have hat : (accOf a bf n).getD (accOf a bf i).length 0 = i := by
            unfold accOf
            rw [List.getD_eq_getElem?_getD, accs_at (fun i => accb a (kOf bf i)) i n hlt hacc]
            rfl
          have hsu : (accOf a bf (i + 1)).length = (accOf a bf i).length + 1 := by unfold accOf; rw [accs_succ]; simp [hacc]
          rcases HA2.out.kept with hz | ⟨vg, hva, hkp⟩
          · omega
          obtain ⟨hcl, htk⟩ := hkp _ hj
          rw [hat] at hcl htk
          have hcnb : cn ≤ 300 := by
            rw [HA2.out.hcn]
            have := accs_le (fun i => accb a (kOf bf i)) n
            unfold accOf
            omega
          obtain ⟨m, hm⟩ : ∃ m, m = (accOf a bf i).length := ⟨_, rfl⟩
          rw [← hm] at hj hcl htk hsu ⊢
          have hj' : (m : Int) < (cn : Int) := by omega
          have hj2 : ¬ ((cn : Int) ≤ (m : Int)) := by omega
          have f6 := HA2.out.f6
          rw [hva] at f6
          have hFlt := World.block_lt_of_cell? _ _ f6
          have a0 : w2.cell? ⟨vg, m * 6, none⟩ = some (.string (⟨#[115]⟩ ++ num i)) := hcl 0 _ rfl
          have a1 : w2.cell? ⟨vg, m * 6 + 1, none⟩ = some (.slice none 0 0) := hcl 1 _ rfl
          have a2 : w2.cell? ⟨vg, m * 6 + 2, none⟩ = some (v m) := hcl 2 _ rfl
          have a3 : w2.cell? ⟨vg, m * 6 + 3, none⟩ = some (.slice none 0 0) := hcl 3 _ rfl
          have a4 : w2.cell? ⟨vg, m * 6 + 4, none⟩ = some (.slice none 0 0) := hcl 4 _ rfl
          have a5 : w2.cell? ⟨vg, m * 6 + 5, none⟩ = some (.slice none 0 0) := hcl 5 _ rfl
          have hvlt := World.block_lt_of_cell? _ _ a0
          have hsum := sum_num i (by omega)
          have HM := hide hm
          clear hcl hkp hat hacc hva HK0 hm
          cases hex : ex i with
          | false =>
            rw [hex] at h2 htk
            obtain ⟨tg, tc, ⟨_, hvm⟩ | ⟨hx, _⟩⟩ := htk
            · rw [hvm] at a2
              clear hvm
              have HI := hide (itoa6 i (by omega) (((w2.alloc (.cells #[.int .u8 (bf i), .bool false] 29)).alloc (.cells #[.string (⟨#[115]⟩ ++ num i), .slice none 0 0, .slice (some ⟨tg, 0, none⟩) 0 tc, .slice none 0 0, .slice none 0 0, .slice none 0 0] 37)).drew) (tab_below HA2.out.tab (((Below.refl _ _).alloc (Nat.le_refl _) _).alloc (by simp) _).drew))
              have hbb : Below w2.heap.size w2 (((w2.alloc (.cells #[.int .u8 (bf i), .bool false] 29)).alloc (.cells #[.string (⟨#[115]⟩ ++ num i), .slice none 0 0, .slice (some ⟨tg, 0, none⟩) 0 tc, .slice none 0 0, .slice none 0 0, .slice none 0 0] 37)).drew) := (((Below.refl _ _).alloc (Nat.le_refl _) _).alloc (by simp) _).drew
              have bx : Blk (((w2.alloc (.cells #[.int .u8 (bf i), .bool false] 29)).alloc (.cells #[.string (⟨#[115]⟩ ++ num i), .slice none 0 0, .slice (some ⟨tg, 0, none⟩) 0 tc, .slice none 0 0, .slice none 0 0, .slice none 0 0] 37)).drew) (w2.heap.size + 1) 37 [.string (⟨#[115]⟩ ++ num i), .slice none 0 0, .slice (some ⟨tg, 0, none⟩) 0 tc, .slice none 0 0, .slice none 0 0, .slice none 0 0] := by
                have := (Blk.new (w2.alloc (.cells #[.int .u8 (bf i), .bool false] 29)) 37 [.string (⟨#[115]⟩ ++ num i), .slice none 0 0, .slice (some ⟨tg, 0, none⟩) 0 tc, .slice none 0 0, .slice none 0 0, .slice none 0 0]).drew
                rwa [World.size_alloc] at this
              have bc : Blk (((w2.alloc (.cells #[.int .u8 (bf i), .bool false] 29)).alloc (.cells #[.string (⟨#[115]⟩ ++ num i), .slice none 0 0, .slice (some ⟨tg, 0, none⟩) 0 tc, .slice none 0 0, .slice none 0 0, .slice none 0 0] 37)).drew) w2.heap.size 29 [.int .u8 (bf i), .bool false] := ((Blk.new w2 29 _).alloc _).drew
              have HX := hide (And.intro bx (And.intro bc hbb))
              clear bx bc hbb
              go_wp2
              go_region_held3 (fun w' => w'.cell? ⟨w2.heap.size + 1, 0, none⟩ = some (.string (⟨#[115]⟩ ++ num i))) (first | assumption | go_keep)
                ((go_at_call 6; refine HI.out.mono ?_; rintro e w5 ⟨rfl, b5⟩; (have bx5 := HX.out.1.below b5 HX.out.1.lt); (have bc5 := HX.out.2.1.below b5 HX.out.2.1.lt); (have z0 : w5.cell? ⟨w2.heap.size + 1, 0, none⟩ = some (.string (⟨#[115]⟩ ++ num i)) := bx5.cell 0); (have z2 : w5.cell? ⟨w2.heap.size + 1, 2, none⟩ = some (.slice (some ⟨tg, 0, none⟩) 0 tc) := bx5.cell 2); (have y1 : w5.cell? ⟨w2.heap.size, 1, none⟩ = some (.bool false) := bc5.cell 1); (have hb5 : Below w2.heap.size w2 w5 := HX.out.2.2.trans (b5.mono HX.out.2.2.size));  have HB5 := hide hb5; clear hb5 b5 bx5 bc5))
              go_wp2
              go_roundg (n - (i + 1))
              case measure => go_light; omega
              case rel => go_light; exact ⟨i + 1, by omega, rfl, by go_num, by rw [hsu]; simp, HA2.out.below HB5.out, HB2.out.trans (HB5.out.mono HB2.out.size)⟩
            · cases hx
          | true =>
            rw [hex] at h2 htk
            obtain ⟨tg, tc, ⟨hx, _⟩ | ⟨_, hvm, htt, t0, t1⟩⟩ := htk
            · cases hx
            · rw [hvm] at a2
              have htlt := htt.lt
              clear hvm htt
              have HI := hide (itoa6 i (by omega) (((w2.alloc (.cells #[.int .u8 (bf i), .bool true] 29)).alloc (.cells #[.string (⟨#[115]⟩ ++ num i), .slice none 0 0, .slice (some ⟨tg, 0, none⟩) 1 tc, .slice none 0 0, .slice none 0 0, .slice none 0 0] 37)).drew) (tab_below HA2.out.tab (((Below.refl _ _).alloc (Nat.le_refl _) _).alloc (by simp) _).drew))
              have hbb : Below w2.heap.size w2 (((w2.alloc (.cells #[.int .u8 (bf i), .bool true] 29)).alloc (.cells #[.string (⟨#[115]⟩ ++ num i), .slice none 0 0, .slice (some ⟨tg, 0, none⟩) 1 tc, .slice none 0 0, .slice none 0 0, .slice none 0 0] 37)).drew) := (((Below.refl _ _).alloc (Nat.le_refl _) _).alloc (by simp) _).drew
              have bx : Blk (((w2.alloc (.cells #[.int .u8 (bf i), .bool true] 29)).alloc (.cells #[.string (⟨#[115]⟩ ++ num i), .slice none 0 0, .slice (some ⟨tg, 0, none⟩) 1 tc, .slice none 0 0, .slice none 0 0, .slice none 0 0] 37)).drew) (w2.heap.size + 1) 37 [.string (⟨#[115]⟩ ++ num i), .slice none 0 0, .slice (some ⟨tg, 0, none⟩) 1 tc, .slice none 0 0, .slice none 0 0, .slice none 0 0] := by
                have := (Blk.new (w2.alloc (.cells #[.int .u8 (bf i), .bool true] 29)) 37 [.string (⟨#[115]⟩ ++ num i), .slice none 0 0, .slice (some ⟨tg, 0, none⟩) 1 tc, .slice none 0 0, .slice none 0 0, .slice none 0 0]).drew
                rwa [World.size_alloc] at this
              have bc : Blk (((w2.alloc (.cells #[.int .u8 (bf i), .bool true] 29)).alloc (.cells #[.string (⟨#[115]⟩ ++ num i), .slice none 0 0, .slice (some ⟨tg, 0, none⟩) 1 tc, .slice none 0 0, .slice none 0 0, .slice none 0 0] 37)).drew) w2.heap.size 29 [.int .u8 (bf i), .bool true] := ((Blk.new w2 29 _).alloc _).drew
              have HX := hide (And.intro bx (And.intro bc hbb))
              clear bx bc hbb
              go_wp2
              go_region_held3 (fun w' => w'.cell? ⟨w2.heap.size + 1, 0, none⟩ = some (.string (⟨#[115]⟩ ++ num i))) (first | assumption | go_keep)
                ((go_at_call 6; refine HI.out.mono ?_; rintro e w5 ⟨rfl, b5⟩; (have bx5 := HX.out.1.below b5 HX.out.1.lt); (have bc5 := HX.out.2.1.below b5 HX.out.2.1.lt); (have z0 : w5.cell? ⟨w2.heap.size + 1, 0, none⟩ = some (.string (⟨#[115]⟩ ++ num i)) := bx5.cell 0); (have z2 : w5.cell? ⟨w2.heap.size + 1, 2, none⟩ = some (.slice (some ⟨tg, 0, none⟩) 1 tc) := bx5.cell 2); (have y1 : w5.cell? ⟨w2.heap.size, 1, none⟩ = some (.bool true) := bc5.cell 1); (have hb5 : Below w2.heap.size w2 w5 := HX.out.2.2.trans (b5.mono HX.out.2.2.size)); (have q0 := cell_later hb5 t0); (have q1 := cell_later hb5 t1); have HB5 := hide hb5; clear hb5 b5 bx5 bc5))
              go_wp2
              go_roundg (n - (i + 1))
              case measure => go_light; omega
              case rel => go_light; exact ⟨i + 1, by omega, rfl, by go_num, by rw [hsu]; simp, HA2.out.below HB5.out, HB2.out.trans (HB5.out.mono HB2.out.size)⟩
      · have hkk : kOf bf i = 3 := by unfold kOf; omega
        cases hacc : accb a (kOf bf i) with
        | false =>
          have hbit : ¬ (bits .and .u8 (a / 8) 1 = 1) := by
            rw [hkk] at hacc
            simpa [accb] using hacc
          have hsu : accOf a bf (i + 1) = accOf a bf i := by unfold accOf; rw [accs_succ]; simp [hacc]
          clear hacc
          go_wp2
          go_roundg (n - (i + 1))
          case measure => go_light; omega
          case rel => go_light; exact ⟨i + 1, by omega, rfl, by go_num, by rw [hsu], HA2.out.below ((Below.refl _ _).alloc (Nat.le_refl _) _), HB2.out.alloc HB2.out.size _⟩
        | true =>
          have hbit : bits .and .u8 (a / 8) 1 = 1 := by
            rw [hkk] at hacc
            simpa [accb] using hacc
          have hj : (accOf a bf i).length < cn := by
            rw [HA2.out.hcn]
            have h1 := accs_mono (fun i => accb a (kOf bf i)) (i + 1) n hlt
            have h2 : accOf a bf (i + 1) = accOf a bf i ++ [i] := by unfold accOf; rw [accs_succ]; simp [hacc]
            have h3 : (accOf a bf (i + 1)).length = (accOf a bf i).length + 1 := by rw [h2]; simp
            unfold accOf at *
            omega
          have hat : (accOf a bf n).getD (accOf a bf i).length 0 = i := by
            unfold accOf
            rw [List.getD_eq_getElem?_getD, accs_at (fun i => accb a (kOf bf i)) i n hlt hacc]
            rfl
          have hsu : (accOf a bf (i + 1)).length = (accOf a bf i).length + 1 := by unfold accOf; rw [accs_succ]; simp [hacc]
          rcases HA2.out.kept with hz | ⟨vg, hva, hkp⟩
          · omega
          obtain ⟨hcl, htk⟩ := hkp _ hj
          rw [hat] at hcl htk
          have hcnb : cn ≤ 300 := by
            rw [HA2.out.hcn]
            have := accs_le (fun i => accb a (kOf bf i)) n
            unfold accOf
            omega
          obtain ⟨m, hm⟩ : ∃ m, m = (accOf a bf i).length := ⟨_, rfl⟩
          rw [← hm] at hj hcl htk hsu ⊢
          have hj' : (m : Int) < (cn : Int) := by omega
          have hj2 : ¬ ((cn : Int) ≤ (m : Int)) := by omega
          have f6 := HA2.out.f6
          rw [hva] at f6
          have hFlt := World.block_lt_of_cell? _ _ f6
          have a0 : w2.cell? ⟨vg, m * 6, none⟩ = some (.string (⟨#[115]⟩ ++ num i)) := hcl 0 _ rfl
          have a1 : w2.cell? ⟨vg, m * 6 + 1, none⟩ = some (.slice none 0 0) := hcl 1 _ rfl
          have a2 : w2.cell? ⟨vg, m * 6 + 2, none⟩ = some (v m) := hcl 2 _ rfl
          have a3 : w2.cell? ⟨vg, m * 6 + 3, none⟩ = some (.slice none 0 0) := hcl 3 _ rfl
          have a4 : w2.cell? ⟨vg, m * 6 + 4, none⟩ = some (.slice none 0 0) := hcl 4 _ rfl
          have a5 : w2.cell? ⟨vg, m * 6 + 5, none⟩ = some (.slice none 0 0) := hcl 5 _ rfl
          have hvlt := World.block_lt_of_cell? _ _ a0
          have hsum := sum_num i (by omega)
          have HM := hide hm
          clear hcl hkp hat hacc hva HK0 hm
          cases hex : ex i with
          | false =>
            rw [hex] at h2 htk
            obtain ⟨tg, tc, ⟨_, hvm⟩ | ⟨hx, _⟩⟩ := htk
            · rw [hvm] at a2
              clear hvm
              have HI := hide (itoa6 i (by omega) (((w2.alloc (.cells #[.int .u8 (bf i), .bool false] 29)).alloc (.cells #[.string (⟨#[115]⟩ ++ num i), .slice none 0 0, .slice (some ⟨tg, 0, none⟩) 0 tc, .slice none 0 0, .slice none 0 0, .slice none 0 0] 37)).drew) (tab_below HA2.out.tab (((Below.refl _ _).alloc (Nat.le_refl _) _).alloc (by simp) _).drew))
              have hbb : Below w2.heap.size w2 (((w2.alloc (.cells #[.int .u8 (bf i), .bool false] 29)).alloc (.cells #[.string (⟨#[115]⟩ ++ num i), .slice none 0 0, .slice (some ⟨tg, 0, none⟩) 0 tc, .slice none 0 0, .slice none 0 0, .slice none 0 0] 37)).drew) := (((Below.refl _ _).alloc (Nat.le_refl _) _).alloc (by simp) _).drew
              have bx : Blk (((w2.alloc (.cells #[.int .u8 (bf i), .bool false] 29)).alloc (.cells #[.string (⟨#[115]⟩ ++ num i), .slice none 0 0, .slice (some ⟨tg, 0, none⟩) 0 tc, .slice none 0 0, .slice none 0 0, .slice none 0 0] 37)).drew) (w2.heap.size + 1) 37 [.string (⟨#[115]⟩ ++ num i), .slice none 0 0, .slice (some ⟨tg, 0, none⟩) 0 tc, .slice none 0 0, .slice none 0 0, .slice none 0 0] := by
                have := (Blk.new (w2.alloc (.cells #[.int .u8 (bf i), .bool false] 29)) 37 [.string (⟨#[115]⟩ ++ num i), .slice none 0 0, .slice (some ⟨tg, 0, none⟩) 0 tc, .slice none 0 0, .slice none 0 0, .slice none 0 0]).drew
                rwa [World.size_alloc] at this
              have bc : Blk (((w2.alloc (.cells #[.int .u8 (bf i), .bool false] 29)).alloc (.cells #[.string (⟨#[115]⟩ ++ num i), .slice none 0 0, .slice (some ⟨tg, 0, none⟩) 0 tc, .slice none 0 0, .slice none 0 0, .slice none 0 0] 37)).drew) w2.heap.size 29 [.int .u8 (bf i), .bool false] := ((Blk.new w2 29 _).alloc _).drew
              have HX := hide (And.intro bx (And.intro bc hbb))
              clear bx bc hbb
              go_wp2
              go_region_held3 (fun w' => w'.cell? ⟨w2.heap.size + 1, 0, none⟩ = some (.string (⟨#[115]⟩ ++ num i))) (first | assumption | go_keep)
                ((go_at_call 6; refine HI.out.mono ?_; rintro e w5 ⟨rfl, b5⟩; (have bx5 := HX.out.1.below b5 HX.out.1.lt); (have bc5 := HX.out.2.1.below b5 HX.out.2.1.lt); (have z0 : w5.cell? ⟨w2.heap.size + 1, 0, none⟩ = some (.string (⟨#[115]⟩ ++ num i)) := bx5.cell 0); (have z2 : w5.cell? ⟨w2.heap.size + 1, 2, none⟩ = some (.slice (some ⟨tg, 0, none⟩) 0 tc) := bx5.cell 2); (have y1 : w5.cell? ⟨w2.heap.size, 1, none⟩ = some (.bool false) := bc5.cell 1); (have hb5 : Below w2.heap.size w2 w5 := HX.out.2.2.trans (b5.mono HX.out.2.2.size));  have HB5 := hide hb5; clear hb5 b5 bx5 bc5))
              go_wp2
              go_roundg (n - (i + 1))
              case measure => go_light; omega
              case rel => go_light; exact ⟨i + 1, by omega, rfl, by go_num, by rw [hsu]; simp, HA2.out.below HB5.out, HB2.out.trans (HB5.out.mono HB2.out.size)⟩
            · cases hx
          | true =>
            rw [hex] at h2 htk
            obtain ⟨tg, tc, ⟨hx, _⟩ | ⟨_, hvm, htt, t0, t1⟩⟩ := htk
            · cases hx
            · rw [hvm] at a2
              have htlt := htt.lt
              clear hvm htt
              have HI := hide (itoa6 i (by omega) (((w2.alloc (.cells #[.int .u8 (bf i), .bool true] 29)).alloc (.cells #[.string (⟨#[115]⟩ ++ num i), .slice none 0 0, .slice (some ⟨tg, 0, none⟩) 1 tc, .slice none 0 0, .slice none 0 0, .slice none 0 0] 37)).drew) (tab_below HA2.out.tab (((Below.refl _ _).alloc (Nat.le_refl _) _).alloc (by simp) _).drew))
              have hbb : Below w2.heap.size w2 (((w2.alloc (.cells #[.int .u8 (bf i), .bool true] 29)).alloc (.cells #[.string (⟨#[115]⟩ ++ num i), .slice none 0 0, .slice (some ⟨tg, 0, none⟩) 1 tc, .slice none 0 0, .slice none 0 0, .slice none 0 0] 37)).drew) := (((Below.refl _ _).alloc (Nat.le_refl _) _).alloc (by simp) _).drew
              have bx : Blk (((w2.alloc (.cells #[.int .u8 (bf i), .bool true] 29)).alloc (.cells #[.string (⟨#[115]⟩ ++ num i), .slice none 0 0, .slice (some ⟨tg, 0, none⟩) 1 tc, .slice none 0 0, .slice none 0 0, .slice none 0 0] 37)).drew) (w2.heap.size + 1) 37 [.string (⟨#[115]⟩ ++ num i), .slice none 0 0, .slice (some ⟨tg, 0, none⟩) 1 tc, .slice none 0 0, .slice none 0 0, .slice none 0 0] := by
                have := (Blk.new (w2.alloc (.cells #[.int .u8 (bf i), .bool true] 29)) 37 [.string (⟨#[115]⟩ ++ num i), .slice none 0 0, .slice (some ⟨tg, 0, none⟩) 1 tc, .slice none 0 0, .slice none 0 0, .slice none 0 0]).drew
                rwa [World.size_alloc] at this
              have bc : Blk (((w2.alloc (.cells #[.int .u8 (bf i), .bool true] 29)).alloc (.cells #[.string (⟨#[115]⟩ ++ num i), .slice none 0 0, .slice (some ⟨tg, 0, none⟩) 1 tc, .slice none 0 0, .slice none 0 0, .slice none 0 0] 37)).drew) w2.heap.size 29 [.int .u8 (bf i), .bool true] := ((Blk.new w2 29 _).alloc _).drew
              have HX := hide (And.intro bx (And.intro bc hbb))
              clear bx bc hbb
              go_wp2
              go_region_held3 (fun w' => w'.cell? ⟨w2.heap.size + 1, 0, none⟩ = some (.string (⟨#[115]⟩ ++ num i))) (first | assumption | go_keep)
                ((go_at_call 6; refine HI.out.mono ?_; rintro e w5 ⟨rfl, b5⟩; (have bx5 := HX.out.1.below b5 HX.out.1.lt); (have bc5 := HX.out.2.1.below b5 HX.out.2.1.lt); (have z0 : w5.cell? ⟨w2.heap.size + 1, 0, none⟩ = some (.string (⟨#[115]⟩ ++ num i)) := bx5.cell 0); (have z2 : w5.cell? ⟨w2.heap.size + 1, 2, none⟩ = some (.slice (some ⟨tg, 0, none⟩) 1 tc) := bx5.cell 2); (have y1 : w5.cell? ⟨w2.heap.size, 1, none⟩ = some (.bool true) := bc5.cell 1); (have hb5 : Below w2.heap.size w2 w5 := HX.out.2.2.trans (b5.mono HX.out.2.2.size)); (have q0 := cell_later hb5 t0); (have q1 := cell_later hb5 t1); have HB5 := hide hb5; clear hb5 b5 bx5 bc5))
              go_wp2
              go_roundg (n - (i + 1))
              case measure => go_light; omega
              case rel => go_light; exact ⟨i + 1, by omega, rfl, by go_num, by rw [hsu]; simp, HA2.out.below HB5.out, HB2.out.trans (HB5.out.mono HB2.out.size)⟩
    · have hin : n = i := by omega
      subst hin
      have f6 := hA2.f6
      have hcn := hA2.hcn
      have hce : (((accOf a bf n).length : Int) == (cn : Int)) = true := by rw [hcn]; simp
      have hce2 : ((accOf a bf n).length : Int) = (cn : Int) := by rw [hcn]
      have HB2 := hide hb2
      clear hA2 hb2 hcn HA HB hJ2 hK2
      have hK0 := HK0.out
      clear HK0
      go_wp2
      go_ret
      exact ⟨rfl, HB2.out⟩
end Go.Proofs.YbulkciemGreatDoor
