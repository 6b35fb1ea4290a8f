import Derived.Test.YbulkcicwFmtTail12
namespace Go.Proofs.YbulkcicwFmt
open Go.RowKit Go.Extern.Stop Go.Stop Go.Extern
set_option linter.unusedVariables false
attribute [local go_sem ↓] look_held len_held

/-- The steps, as they can be read. -/
def Rt (w : World) (a : Option Addr) (len : Nat) : Prop :=
  len = 0 ∨ ∃ b off, a = some ⟨b, off, none⟩ ∧ b < w.heap.size ∧ ∀ i, i < len → ∃ x y z : Int, w.cell? ⟨b, off + i * 3, none⟩ = some (.int .u8 x) ∧ w.cell? ⟨b, off + i * 3 + 1, none⟩ = some (.int .u8 y) ∧ w.cell? ⟨b, off + i * 3 + 2, none⟩ = some (.int .i64 z) ∧ 0 ≤ x ∧ x ≤ 255 ∧ 0 ≤ y ∧ y ≤ 255

set_option maxRecDepth 1000000 in
theorem script_big (a : Option Addr) (len cap : Nat) (w : World) (h : 1024 < len) :
    Calls Ybaf.prog 3 #[.slice a len cap] w fun e w' => e = .returned (.bool true) ∧ Below w.heap.size w w' := by
  have h' : (1024 : Int) < (len : Int) := by omega
  go_enter Ybaf.func3, Ybaf.ntmps3
  go_wp2
  go_ret
  exact ⟨rfl, Below.refl _ _⟩

set_option maxHeartbeats 1600000 in
set_option maxRecDepth 1000000 in
theorem script_walk (F : Interp) (a : Option Addr) (len cap : Nat) (w : World) (hF : F.answers w.tape) (h : len ≤ 1024) (hA : Rt w a len) :
    Calls Ybaf.prog 3 #[.slice a len cap] w fun e w' => e = .returned (.bool true) ∧ Below w.heap.size w w' := by
  have h' : ¬ (1024 : Int) < (len : Int) := by omega
  go_enter Ybaf.func3, Ybaf.ntmps3
  go_wp2_with (go_at_call 5; refine (new5 _).mono ?_; rintro e w0 ⟨rfl, hw0⟩; have HW0 := hide hw0; clear hw0)
  rename_i K0 hK0
  have HK0 := hide hK0
  clear hK0
  have hw0 := HW0.out
  clear HW0
  have hR0 := made w
  have hB0 : Below w.heap.size w w0 := by subst hw0; exact ((((Below.refl _ _).alloc (Nat.le_refl _) _).alloc (by simp) _).alloc (by simp; omega) _)
  have hz0 : w0.heap.size = w.heap.size + 3 := by subst hw0; simp
  rw [← hw0] at hR0
  clear hw0
  obtain ⟨r, hr⟩ : ∃ r, w.heap.size + 1 + 1 = r := ⟨_, rfl⟩
  obtain ⟨m1, hm1⟩ : ∃ m1, w.heap.size = m1 := ⟨_, rfl⟩
  obtain ⟨m2, hm2⟩ : ∃ m2, w.heap.size + 1 = m2 := ⟨_, rfl⟩
  have S0 : St w w0 r m1 m2 w0.heap.size [] (swp []) (.slice none 0 0) (.slice none 0 0) (([] : Pairs).map (·.1)) (([] : Pairs).map (·.2)) := by
    refine ⟨hB0, by rw [← hr, ← hm1, ← hm2]; exact hR0, World.ownsRow_nil _ _ _ _, World.ownsRow_nil _ _ _ _, by simp [Value.ownBlock], by omega, by omega, by omega, by omega, by omega, Nat.le_refl _⟩
  obtain ⟨base, hbase⟩ : ∃ base, w0.heap.size = base := ⟨_, rfl⟩
  rw [hbase] at S0
  rw [hr]
  clear hr hm1 hm2 hR0 hB0 hz0 hbase h'
  go_loopg [4, 5, 36] len (fun g v4 v5 v36 wx => ∃ (j : Nat) (ps : Pairs) (a4 a5 : Option Addr) (n c4 c5 : Nat), j ≤ len ∧ g = len - j ∧ v36 = .int .i64 j ∧ v4 = .slice a4 n c4 ∧ v5 = .slice a5 n c5 ∧ n ≤ j ∧ ps.length = n ∧ One ps ∧ St w wx r m1 m2 base ps (swp ps) (.slice a4 n c4) (.slice a5 n c5) (ps.map (·.1)) (ps.map (·.2)))
  case atStart => go_light; exact ⟨0, [], none, none, 0, 0, 0, by omega, rfl, rfl, rfl, rfl, by omega, rfl, One.nil, S0⟩
  case round =>
    rename World => w2
    rename_i J2 K2 hJ2 hK2
    clear S0
    obtain ⟨j, ps, a4, a5, n, c4, c5, hj, rfl, rfl, rfl, rfl, hnj, hn, hO, hS⟩ := hrel
    by_cases hlt : j < len
    · have hlt' : (j : Int) < (len : Int) := by omega
      rcases hA with hA | ⟨b, off, rfl, hb, hc⟩
      · omega
      · obtain ⟨x, y, z, e1, e2, e3, x0, x1, y0, y1⟩ := hc j hlt
        have hbel := hS.below
        rw [← hbel.cell (p := ⟨b, off + j * 3, none⟩) hb] at e1
        rw [← hbel.cell (p := ⟨b, off + j * 3 + 1, none⟩) hb] at e2
        rw [← hbel.cell (p := ⟨b, off + j * 3 + 2, none⟩) hb] at e3
        have hb2 : b < w2.heap.size := Nat.lt_of_lt_of_le hb hbel.size
        have S1 := hS.grow ((Below.refl _ w2).alloc (Nat.le_refl _) (.cells #[.int .u8 x, .int .u8 y, .int .i64 z] 27))
        have hF2 : F.answers (w2.alloc (.cells #[.int .u8 x, .int .u8 y, .int .i64 z] 27)).tape := by
          have := S1.below.tape
          rw [this]
          exact hF
        have HS := hide S1
        have HO := hide hO
        have HN := hide hn
        have HF := hide hF2
        clear S1 hS hO hn hF2 hbel hc hF
        go_upto_region 11 with (first | (go_at_call 6; refine (name6 _ _).mono ?_; rintro e w3 ⟨rfl, rfl⟩) | (go_at_call 7; refine (text7 _ _).mono ?_; rintro e w3 ⟨rfl, rfl⟩))
        rename_i K1 hK1
        have HK1 := hide hK1
        clear hK1 e1 e2 e3
        go_wp2
        have hl : (w2.alloc (.cells #[.int .u8 x, .int .u8 y, .int .i64 z] 27)).cell? ⟨w2.heap.size, 2, none⟩ = some (.int .i64 z) := (Blk.new w2 27 [.int .u8 x, .int .u8 y, .int .i64 z]).cell 2
        refine HK1.out _ _ (tail12 _ _ _ _ _ _ _ _ _ _ _ _ _ _ _ _ _ _ _ _ _ _ _ _ _ _ _ _ _ _ _ _ _ _ _ _ _ _ _ _ _ _ _ _ _ _ _ _ _ _ _ _ _ _ _ _ _ _ _ _ _ _ _ _ _ _ _ _ _ _ _ _ _ _ _ _ _ _ _ _ _ _ _ _ _ _ _ _ _ _ _ _ _ _ _ _ _ _ _ _ _ _ _ _ _ _ _ _ _ _ _ _ _ _ _ _ _ _ _ _ _ _ _ _ _ _ _ _ _ _ _ _ _ _ _ _ _ _ _ _ _ _ _ _ _ _ _ _ _ _ _ _ _ _ _ _ _ _ _ _ _ _ _ _ _ _ _ _ _ _ _ _ _ _ _ _ _ _ _ _ _ _ _ _ _ _ _ _ _ _ _ _ _ _ _ _ _ _ _ _ F a4 a5 n c4 c5 w2.heap.size r m1 m2 base (nm (x % 4)) (tx (y % 4)) z ps w _ HF.out HN.out (by omega) HO.out HS.out hl _ ?_)
        clear HK1 HS HO HN HF hl
        intro d2 d10 d11 d12 d13 d14 d15 d16 d17 d18 d19 d20 d21 d22 d23 d24 d25 d26 d27 d28 d29 d50 d51 d52 d53 d54 d55 d56 d57 d58 d59 d60 d61 d62 d63 d64 d65 d66 d67 d68 d69 d70 d71 d72 d73 d74 d75 d76 d77 d78 d79 d80 d81 d82 d83 d84 d85 d86 d87 d88 d89 d90 d91 d92 d93 d94 d95 d96 d97 d98 d99 d100 d101 d102 d103 d104 d105 d106 d107 d108 d109 d110 d111 d112 d113 d114 d115 d116 d117 d118 d119 d120 d121 d122 d123 d124 d125 d126 d127 d128 d129 d130 d131 d132 d133 d134 d135 d136 d137 d138 d139 d140 d141 d142 d143 d144 d145 d146 d147 d148 d149 d150 d151 d152 d153 d154 d155 d156 d157 d158 d159 d160 d161 d162 d163 d164 d165 d166 d167 d168 d169 d170 d171 d172 d173 d174 d175 d176 d177 d178 d179 d180 d181 d182 d183 d184 d185 d186 d187 d188 d189 d190 d191 d192 d193 d194 d195 d196 d197 d198 d199 d200 d201 d202 d203 d204 d205 d206 d207 d208 b4 b5 k kc4 kc5 qs w5 hk hq hOq hSq
        go_wp2
        go_roundg (len - (j + 1))
        case measure => go_light; omega
        case rel => go_light; exact ⟨j + 1, qs, _, _, _, _, _, by omega, rfl, by go_num, rfl, rfl, by omega, hq, hOq, hSq⟩
    · clear hJ2 hK2
      have hK0 := HK0.out
      have hbel := hS.below
      clear HK0 hS hO hn
      go_wp2
      go_ret
      exact ⟨rfl, hbel⟩

end Go.Proofs.YbulkcicwFmt
