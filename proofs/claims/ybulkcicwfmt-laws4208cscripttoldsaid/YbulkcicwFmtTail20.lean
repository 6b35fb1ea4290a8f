import Derived.Test.YbulkcicwFmtChk3
import Derived.OwnWalk
namespace Go.Proofs.YbulkcicwFmt
open Go.RowKit Go.Extern.Stop Go.Stop Go.Extern
set_option linter.unusedVariables false
attribute [local go_sem ↓] look_held len_held

theorem Ybaf.info9 : (Ybaf.prog.info? 9).map (fun i => (i.zero, i.size, i.bytes)) = some (some (.string ⟨#[]⟩), 1, 16) := by kernel_rfl

/-- The reader and the two lists of the law's own model. -/
structure St (w wr : World) (r m1 m2 base : Nat) (ps1 ps2 : Pairs) (v4 v5 : Value) (x4 x5 : List ByteArray) : Prop where
  below : Below w.heap.size w wr
  rdr : Rdr wr r m1 m2 ps1 ps2
  o4 : wr.ownsRow base 9 1 v4 x4.length (x4.map Value.string)
  o5 : wr.ownsRow base 9 1 v5 x5.length (x5.map Value.string)
  apart : ∀ k, v4.ownBlock = some k → v5.ownBlock ≠ some k
  l1 : w.heap.size ≤ m1
  l2 : w.heap.size ≤ m2
  u0 : r < base
  u1 : m1 < base
  u2 : m2 < base
  ub : base ≤ wr.heap.size

section
variable {w wr wy : World} {r m1 m2 base : Nat} {ps1 ps2 qs1 qs2 : Pairs} {v4 v5 : Value} {x4 x5 : List ByteArray}
theorem St.grow (h : St w wr r m1 m2 base ps1 ps2 v4 v5 x4 x5) (hb : Below wr.heap.size wr wy) : St w wy r m1 m2 base ps1 ps2 v4 v5 x4 x5 :=
  have c : Chg [] wr wy := Chg.ofBelow hb
  ⟨h.below.trans (hb.mono h.below.size), h.rdr.below hb, owns_chg h.o4 c (by simp), owns_chg h.o5 c (by simp), h.apart, h.l1, h.l2, h.u0, h.u1, h.u2, Nat.le_trans h.ub hb.size⟩
theorem St.turn (h : St w wr r m1 m2 base ps1 ps2 v4 v5 x4 x5) (hR : Rdr wy r m1 m2 qs1 qs2) (c : Chg [m1, m2] wr wy) : St w wy r m1 m2 base qs1 qs2 v4 v5 x4 x5 := by
  have l1 := h.l1
  have l2 := h.l2
  have u1 := h.u1
  have u2 := h.u2
  refine ⟨h.below.trans (c.below (by simp; omega) h.below.size), hR, owns_chg h.o4 c (fun k hk => ?_), owns_chg h.o5 c (fun k hk => ?_), h.apart, h.l1, h.l2, h.u0, h.u1, h.u2, Nat.le_trans h.ub c.size⟩
  · have := (h.o4.lt k hk).1
    simp
    omega
  · have := (h.o5.lt k hk).1
    simp
    omega
theorem Rdr.off {S : List Nat} (h : Rdr wr r m1 m2 ps1 ps2) (c : Chg S wr wy) (h0 : r ∉ S) (h1 : m1 ∉ S) (h2 : m2 ∉ S) : Rdr wy r m1 m2 ps1 ps2 := by
  have hlt : r < wr.heap.size := World.block_lt_of_cell? _ _ h.file
  have e : ∀ i, wy.cell? ⟨r, i, none⟩ = wr.cell? ⟨r, i, none⟩ := fun i => World.cell?_of_block (c.block r hlt h0)
  exact ⟨(e 0).trans h.file, (e 15).trans h.c1, (e 16).trans h.c2, h.b1.chg c h1, h.b2.chg c h2, h.n1, h.n2, h.n3⟩
theorem St.app4 (h : St w wr r m1 m2 base ps1 ps2 v4 v5 x4 x5) {g cap : Nat} {o : Obj} {x : ByteArray}
    (ho : wy.ownsRow base 9 1 (.slice (some ⟨g, 0, none⟩) (x4.length + 1) cap) (x4.length + 1) (x4.map Value.string ++ [.string x]))
    (hgr : (wr.alloc o).grownBy wy v4.ownBlock) (hat : v4.ownBlock = some g ∨ g = wr.heap.size + 1) : St w wy r m1 m2 base ps1 ps2 (.slice (some ⟨g, 0, none⟩) (x4.length + 1) cap) v5 (x4 ++ [x]) x5 := by
  have c1 : Chg v4.ownBlock.toList wr wy := (Chg.ofBelow ((Below.refl _ wr).alloc (Nat.le_refl _) o)).trans (chg_grown hgr (fun k hk _ => by simp [hk]))
  have hT : ∀ t ∈ v4.ownBlock.toList, base ≤ t := by
    intro t ht
    simp at ht
    exact (h.o4.lt t ht).1
  have u0 := h.u0
  have u1 := h.u1
  have u2 := h.u2
  have l1 := h.l1
  refine ⟨h.below.trans (c1.below (fun s hs => by have := hT s hs; omega) h.below.size), h.rdr.off c1 (fun hm => by have := hT _ hm; omega) (fun hm => by have := hT _ hm; omega) (fun hm => by have := hT _ hm; omega), by simpa using ho, owns_chg h.o5 c1 (fun k hk hm => ?_), fun k hk hk5 => ?_, h.l1, h.l2, h.u0, h.u1, h.u2, Nat.le_trans h.ub c1.size⟩
  · simp at hm
    exact h.apart k hm hk
  · have hkg : k = g := by simpa [Value.ownBlock] using hk.symm
    subst hkg
    rcases hat with hat | hat
    · exact h.apart k hat hk5
    · have := (h.o5.lt k hk5).2
      omega
theorem St.app5 (h : St w wr r m1 m2 base ps1 ps2 v4 v5 x4 x5) {g cap : Nat} {o : Obj} {x : ByteArray}
    (ho : wy.ownsRow base 9 1 (.slice (some ⟨g, 0, none⟩) (x5.length + 1) cap) (x5.length + 1) (x5.map Value.string ++ [.string x]))
    (hgr : (wr.alloc o).grownBy wy v5.ownBlock) (hat : v5.ownBlock = some g ∨ g = wr.heap.size + 1) : St w wy r m1 m2 base ps1 ps2 v4 (.slice (some ⟨g, 0, none⟩) (x5.length + 1) cap) x4 (x5 ++ [x]) := by
  have c1 : Chg v5.ownBlock.toList wr wy := (Chg.ofBelow ((Below.refl _ wr).alloc (Nat.le_refl _) o)).trans (chg_grown hgr (fun k hk _ => by simp [hk]))
  have hT : ∀ t ∈ v5.ownBlock.toList, base ≤ t := by
    intro t ht
    simp at ht
    exact (h.o5.lt t ht).1
  have u0 := h.u0
  have u1 := h.u1
  have u2 := h.u2
  have l1 := h.l1
  refine ⟨h.below.trans (c1.below (fun s hs => by have := hT s hs; omega) h.below.size), h.rdr.off c1 (fun hm => by have := hT _ hm; omega) (fun hm => by have := hT _ hm; omega) (fun hm => by have := hT _ hm; omega), owns_chg h.o4 c1 (fun k hk hm => ?_), by simpa using ho, fun k hk hk5 => ?_, h.l1, h.l2, h.u0, h.u1, h.u2, Nat.le_trans h.ub c1.size⟩
  · simp at hm
    exact h.apart k hk hm
  · have hkg : k = g := by simpa [Value.ownBlock] using hk5.symm
    subst hkg
    rcases hat with hat | hat
    · exact h.apart k hk hat
    · have := (h.o4.lt k hk).2
      omega
theorem rs_of {a : Option Addr} {c n : Nat} {xs : List ByteArray} (f : Nat → ByteArray) (hf : ∀ i, i < n → xs[i]? = some (f i)) (hl : xs.length = n) (h : wr.ownsRow base 9 1 (.slice a n c) xs.length (xs.map Value.string)) : Rs wr a n f := by
  intro i hi
  rw [hl] at h
  rcases h.2 with ⟨h1, h2⟩ | ⟨g, cap, cur, h1, _⟩
  · omega
  · cases h1
    refine ⟨g, rfl, ?_⟩
    rw [h.cellAt i (by omega)]
    simp [hf i hi]
theorem getD_fst (ps : Pairs) (n : Nat) (hl : ps.length = n) (i : Nat) (hi : i < n) : (ps.map (·.1))[i]? = some (ps.getD i noPair).1 := by
  have : i < ps.length := by omega
  simp [this]
theorem getD_snd (ps : Pairs) (n : Nat) (hl : ps.length = n) (i : Nat) (hi : i < n) : (ps.map (·.2))[i]? = some (ps.getD i noPair).2 := by
  have : i < ps.length := by omega
  simp [this]
theorem St.rows {ps : Pairs} {a4 a5 : Option Addr} {n cc4 cc5 : Nat} (h : St w wr r m1 m2 base ps (swp ps) (.slice a4 n cc4) (.slice a5 n cc5) (ps.map (·.1)) (ps.map (·.2))) (hl : ps.length = n) :
    (Rs wr a4 n fun i => (ps.getD i noPair).1) ∧ (Rs wr a5 n fun i => (ps.getD i noPair).2) :=
  ⟨rs_of _ (getD_fst ps n hl) (by simpa using hl) h.o4, rs_of _ (getD_snd ps n hl) (by simpa using hl) h.o5⟩
end

set_option maxHeartbeats 1600000 in
set_option maxRecDepth 1000000 in
theorem tail20 (c0 c1 c2 c6 c14 c15 c16 c17 c18 c19 c20 c21 c22 c23 c24 c25 c26 c27 c28 c29 c30 c31 c32 c33 c34 c35 c36 c37 c38 c39 c40 c41 c42 c43 c44 c45 c46 c47 c48 c49 c50 c51 c52 c53 c54 c55 c56 c57 c58 c59 c60 c61 c62 c63 c64 c65 c66 c67 c68 c69 c70 c71 c72 c73 c74 c75 c76 c77 c78 c79 c80 c81 c82 c83 c84 c85 c86 c87 c88 c89 c90 c91 c92 c93 c94 c95 c96 c97 c98 c99 c100 c101 c102 c103 c104 c105 c106 c107 c108 c109 c110 c111 c112 c113 c114 c115 c116 c117 c118 c119 c120 c121 c122 c123 c124 c125 c126 c127 c128 c129 c130 c131 c132 c133 c134 c135 c136 c137 c138 c139 c140 c141 c142 c143 c144 c145 c146 c147 c148 c149 c150 c151 c152 c153 c154 c155 c156 c157 c158 c159 c160 c161 c162 c163 c164 c165 c166 c167 c168 c169 c170 c171 c172 c173 c174 c175 c176 c177 c178 c179 c180 c181 c182 c183 c184 c185 c186 c187 c188 c189 c190 c191 c192 c193 c194 c195 c196 c197 c198 c199 c200 c201 c202 c203 c204 c205 c206 c207 c208 c209 : Value) (F : Interp) (a4 a5 : Option Addr) (n cc4 cc5 : Nat) (S r m1 m2 base : Nat) (name text : ByteArray) (line : Int) (o1 o2 : Option ByteArray) (ps : Pairs) (w wr : World)
    (hF : F.answers wr.tape) (hn : ps.length = n) (hN : n + 1 ≤ 1024) (hO : One ps) (hS : St w wr r m1 m2 base ps (swp ps) (.slice a4 n cc4) (.slice a5 n cc5) (ps.map (·.1)) (ps.map (·.2)))
    (ho1 : lk ps name = o1) (ho2 : lk (swp ps) text = o2) (hline : wr.cell? ⟨S, 2, none⟩ = some (.int .i64 line))
    (Q : Exit → Act → World → Prop) (hQ : ∀ (d2 d15 d16 d17 d18 d19 d20 d21 d22 d23 d24 d25 d26 d27 d28 d29 d76 d77 d78 d79 d80 d81 d82 d83 d84 d85 d86 d87 d88 d89 d90 d91 d92 d93 d94 d95 d96 d97 d98 d99 d100 d101 d102 d103 d104 d105 d106 d107 d108 d109 d110 d111 d112 d113 d114 d115 d116 d117 d118 d119 d120 d121 d122 d123 d124 d125 d126 d127 d128 d129 d130 d131 d132 d133 d134 d135 d136 d137 d138 d139 d140 d141 d142 d143 d144 d145 d146 d147 d148 d149 d150 d151 d152 d153 d154 d155 d156 d157 d158 d159 d160 d161 d162 d163 d164 d165 d166 d167 d168 d169 d170 d171 d172 d173 d174 d175 d176 d177 d178 d179 d180 d181 d182 d183 d184 d185 d186 d187 d188 d189 d190 d191 d192 d193 d194 d195 d196 d197 d198 d199 d200 d201 d202 d203 d204 d205 d206 d207 d208 : Value) (b4 b5 : Option Addr) (k kc4 kc5 : Nat) (qs : Pairs) (w' : World), k ≤ n + 1 → qs.length = k → One qs → St w w' r m1 m2 base qs (swp qs) (.slice b4 k kc4) (.slice b5 k kc5) (qs.map (·.1)) (qs.map (·.2)) → Q .normal ⟨#[c0, c1, d2, .pointer (some ⟨r, 0, none⟩), .slice b4 k kc4, .slice b5 k kc5, c6, .pointer (some ⟨S, 0, none⟩), .string name, .string text, .string (o1.getD ⟨#[]⟩), .bool o1.isSome, .string (o2.getD ⟨#[]⟩), .bool o2.isSome, c14, d15, d16, d17, d18, d19, d20, d21, d22, d23, d24, d25, d26, d27, d28, d29, c30, c31, c32, c33, c34, c35, c36, c37, c38, c39, c40, c41, c42, c43, c44, c45, c46, c47, c48, c49, c50, c51, c52, c53, c54, c55, c56, c57, c58, c59, c60, c61, c62, c63, c64, c65, c66, c67, c68, c69, c70, c71, c72, c73, c74, c75, d76, d77, d78, d79, d80, d81, d82, d83, d84, d85, d86, d87, d88, d89, d90, d91, d92, d93, d94, d95, d96, d97, d98, d99, d100, d101, d102, d103, d104, d105, d106, d107, d108, d109, d110, d111, d112, d113, d114, d115, d116, d117, d118, d119, d120, d121, d122, d123, d124, d125, d126, d127, d128, d129, d130, d131, d132, d133, d134, d135, d136, d137, d138, d139, d140, d141, d142, d143, d144, d145, d146, d147, d148, d149, d150, d151, d152, d153, d154, d155, d156, d157, d158, d159, d160, d161, d162, d163, d164, d165, d166, d167, d168, d169, d170, d171, d172, d173, d174, d175, d176, d177, d178, d179, d180, d181, d182, d183, d184, d185, d186, d187, d188, d189, d190, d191, d192, d193, d194, d195, d196, d197, d198, d199, d200, d201, d202, d203, d204, d205, d206, d207, d208, c209], []⟩ w') :
    Code.wp Ybaf.prog (tailAt 20 ((blockAt 1 (Ybaf.f3.body.getD .skip)).getD .skip)) Q ⟨#[c0, c1, c2, .pointer (some ⟨r, 0, none⟩), .slice a4 n cc4, .slice a5 n cc5, c6, .pointer (some ⟨S, 0, none⟩), .string name, .string text, .string (o1.getD ⟨#[]⟩), .bool o1.isSome, .string (o2.getD ⟨#[]⟩), .bool o2.isSome, c14, c15, c16, c17, c18, c19, c20, c21, c22, c23, c24, c25, c26, c27, c28, c29, c30, c31, c32, c33, c34, c35, c36, c37, c38, c39, c40, c41, c42, c43, c44, c45, c46, c47, c48, c49, c50, c51, c52, c53, c54, c55, c56, c57, c58, c59, c60, c61, c62, c63, c64, c65, c66, c67, c68, c69, c70, c71, c72, c73, c74, c75, c76, c77, c78, c79, c80, c81, c82, c83, c84, c85, c86, c87, c88, c89, c90, c91, c92, c93, c94, c95, c96, c97, c98, c99, c100, c101, c102, c103, c104, c105, c106, c107, c108, c109, c110, c111, c112, c113, c114, c115, c116, c117, c118, c119, c120, c121, c122, c123, c124, c125, c126, c127, c128, c129, c130, c131, c132, c133, c134, c135, c136, c137, c138, c139, c140, c141, c142, c143, c144, c145, c146, c147, c148, c149, c150, c151, c152, c153, c154, c155, c156, c157, c158, c159, c160, c161, c162, c163, c164, c165, c166, c167, c168, c169, c170, c171, c172, c173, c174, c175, c176, c177, c178, c179, c180, c181, c182, c183, c184, c185, c186, c187, c188, c189, c190, c191, c192, c193, c194, c195, c196, c197, c198, c199, c200, c201, c202, c203, c204, c205, c206, c207, c208, c209], []⟩ wr := by
  conv => arg 2; whnf
  rcases o1 with _ | old
  · rcases o2 with _ | other
    · have hc := alias_new r m1 m2 ps (swp ps) name text kindStr line wr hS.rdr ho1 ho2
      rw [← swp_append] at hc
      have HC := hide hc
      have HO := hide (hO.add ho1 ho2)
      have HS := hide hS
      have HN := hide hn
      clear hc hO hS hn ho1 ho2
      go_upto_if 99 with (go_at_call 8; refine HC.out.mono ?_; rintro e w1 ⟨rfl, hR1, hC1⟩)
      rename_i K1 hK1
      have HK1 := hide hK1
      clear hK1 HC
      have S1 := HS.out.turn hR1 hC1
      clear HS hR1 hC1 hline
      obtain ⟨t0, ht0, hz0, hz1, hz2⟩ := info_parts Ybaf.info9
      have hx4 : (ps.map (·.1)).length = n := by simpa using HN.out
      have hx5 : (ps.map (·.2)).length = n := by simpa using HN.out
      have HX4 := hide hx4
      have HX5 := hide hx5
      clear hx4 hx5
      go_wp2_with (at_builtin; refine wpList_append_lies _ rfl _ _ 25 rfl base 9 t0 (.string ⟨#[]⟩) 1 16 Ybaf.underlying25 ht0 hz0 hz1 hz2 rfl (by decide) (.slice a4 n cc4) n ((ps.map (·.1)).map Value.string) rfl ?a1 ⟨_, 0, none⟩ 1 1 [.string name] rfl rfl ?a2 ?a3 (by decide) ?a4 ?a5 ?a6 _ rfl ?a7)
      case a1 => have := S1.o4; rw [HX4.out] at this; exact this.alloc _
      case a2 => exact cell_one_new _ _ _
      case a3 => intro u hu; simp at hu; subst hu; rfl
      case a4 => unfold maxLen; omega
      case a5 => omega
      case a6 => have := S1.ub; simp; omega
      case a7 =>
        intro g cap w7 hown7 hgr7 hat7 hlt7
        have S2 : St w w7 r m1 m2 base (ps ++ [(name, text)]) (swp (ps ++ [(name, text)])) (.slice (some ⟨g, 0, none⟩) (n + 1) cap) (.slice a5 n cc5) (ps.map (·.1) ++ [name]) (ps.map (·.2)) := by
          have := S1.app4 (g := g) (cap := cap) (x := name) (by rw [HX4.out, List.map_map]; exact hown7) hgr7 (by simpa using hat7)
          rw [HX4.out] at this
          exact this
        clear hown7 hgr7 hat7 hlt7 S1
        go_wp2_with (at_builtin; refine wpList_append_lies _ rfl _ _ 25 rfl base 9 t0 (.string ⟨#[]⟩) 1 16 Ybaf.underlying25 ht0 hz0 hz1 hz2 rfl (by decide) (.slice a5 n cc5) n ((ps.map (·.2)).map Value.string) rfl ?b1 ⟨_, 0, none⟩ 1 1 [.string text] rfl rfl ?b2 ?b3 (by decide) ?b4 ?b5 ?b6 _ rfl ?b7)
        case b1 => have := S2.o5; rw [HX5.out] at this; exact this.alloc _
        case b2 => exact cell_one_new _ _ _
        case b3 => intro u hu; simp at hu; subst hu; rfl
        case b4 => unfold maxLen; omega
        case b5 => omega
        case b6 => have := S2.ub; simp; omega
        case b7 =>
          intro g2 cap2 w8 hown8 hgr8 hat8 hlt8
          have S3 : St w w8 r m1 m2 base (ps ++ [(name, text)]) (swp (ps ++ [(name, text)])) (.slice (some ⟨g, 0, none⟩) (n + 1) cap) (.slice (some ⟨g2, 0, none⟩) (n + 1) cap2) ((ps ++ [(name, text)]).map (·.1)) ((ps ++ [(name, text)]).map (·.2)) := by
            have := S2.app5 (g := g2) (cap := cap2) (x := text) (by rw [HX5.out, List.map_map]; exact hown8) hgr8 (by simpa using hat8)
            rw [HX5.out] at this
            rw [List.map_append, List.map_append]
            exact this
          have hl3 : (ps ++ [(name, text)]).length = n + 1 := by rw [List.length_append, HN.out]; rfl
          clear hown8 hgr8 hat8 hlt8 S2
          go_wp2
          refine HK1.out _ _ (chk3 _ _ _ _ _ _ _ _ _ _ _ _ _ _ _ _ _ _ _ _ _ _ _ _ _ _ _ _ _ _ _ _ _ _ _ _ _ _ _ _ _ _ _ _ _ _ _ _ _ _ _ _ _ _ _ _ _ _ _ _ _ _ _ _ _ _ _ _ _ _ _ _ _ _ _ _ _ _ _ _ _ _ _ _ _ _ _ _ _ _ _ _ _ _ _ _ _ _ _ _ _ _ _ _ _ _ _ _ _ _ _ _ _ _ _ _ _ _ _ _ _ _ _ _ _ _ _ _ _ _ _ _ _ _ _ _ _ _ _ _ _ _ _ _ _ _ _ _ _ _ _ _ _ _ _ _ _ _ _ _ _ _ _ _ _ _ _ _ _ _ _ _ _ _ _ _ _ _ _ _ _ _ _ _ _ _ _ _ _ _ _ _ _ _ _ _ _ _ _ _ _ _ _ _ _ _ _ _ _ (n + 1) _ _ r m1 m2 (ps ++ [(name, text)]) _ hl3 (by omega) HO.out S3.rdr (S3.rows hl3).1 (S3.rows hl3).2 _ ?_)
          intro d2 d17 d18 d19 d20 d21 d22 d23 d24 d25 d26 d27 d28 d29 d117 d118 d119 d120 d121 d122 d123 d124 d125 d126 d127 d128 d129 d130 d131 d132 d133 d134 d135 d136 d137 d138 d139 d140 d141 d142 d143 d144 d145 d146 d147 d148 d149 d150 d151 d152 d153 d154 d155 d156 d157 d158 d159 d160 d161 d162 d163 d164 d165 d166 d167 d168 d169 d170 d171 d172 d173 d174 d175 d176 d177 d178 d179 d180 d181 d182 d183 d184 d185 d186 d187 d188 d189 d190 d191 d192 d193 d194 d195 d196 d197 d198 d199 d200 d201 d202 d203 d204 d205 d206 d207 d208
          exact hQ _ _ _ _ _ _ _ _ _ _ _ _ _ _ _ _ _ _ _ _ _ _ _ _ _ _ _ _ _ _ _ _ _ _ _ _ _ _ _ _ _ _ _ _ _ _ _ _ _ _ _ _ _ _ _ _ _ _ _ _ _ _ _ _ _ _ _ _ _ _ _ _ _ _ _ _ _ _ _ _ _ _ _ _ _ _ _ _ _ _ _ _ _ _ _ _ _ _ _ _ _ _ _ _ _ _ _ _ _ _ _ _ _ _ _ _ _ _ _ _ _ _ _ _ _ _ _ _ _ _ _ _ _ _ _ _ _ _ _ _ _ _ _ _ _ _ _ _ _ _ _ _ _ _ (ps ++ [(name, text)]) _ (by omega) hl3 HO.out S3
    · by_cases he : other = name
      · subst he
        have := (lk_swp hO).2 ho2
        rw [ho1] at this
        cases this
      · have hne := list_no he
        have hc := alias_err2 F r m1 m2 ps (swp ps) name text other kindStr line wr hF hS.rdr none ho1 rfl ho2 hne
        have HC := hide hc
        have HO := hide hO
        have HS := hide hS
        have HN := hide hn
        have hl0 := hline
        clear hc hO hS hn ho1 ho2
        go_upto_if 99 with (go_at_call 8; refine HC.out.mono ?_; rintro e w1 ⟨g, t, rfl, hg, hbg, hbel⟩)
        rename_i K1 hK1
        have HK1 := hide hK1
        clear hK1 HC
        have S1 := HS.out.grow hbel
        have hl1 : w1.cell? ⟨S, 2, none⟩ = some (.int .i64 line) := cell_later hbel hl0
        have HE := hide hbg
        clear HS hline hl0 hbel hg hbg
        go_wp2_with (go_at_call 9; refine (errat9 g line t _ HE.out).mono ?_; rintro e w2 ⟨rfl, rfl⟩)
        refine HK1.out _ _ (chk3 _ _ _ _ _ _ _ _ _ _ _ _ _ _ _ _ _ _ _ _ _ _ _ _ _ _ _ _ _ _ _ _ _ _ _ _ _ _ _ _ _ _ _ _ _ _ _ _ _ _ _ _ _ _ _ _ _ _ _ _ _ _ _ _ _ _ _ _ _ _ _ _ _ _ _ _ _ _ _ _ _ _ _ _ _ _ _ _ _ _ _ _ _ _ _ _ _ _ _ _ _ _ _ _ _ _ _ _ _ _ _ _ _ _ _ _ _ _ _ _ _ _ _ _ _ _ _ _ _ _ _ _ _ _ _ _ _ _ _ _ _ _ _ _ _ _ _ _ _ _ _ _ _ _ _ _ _ _ _ _ _ _ _ _ _ _ _ _ _ _ _ _ _ _ _ _ _ _ _ _ _ _ _ _ _ _ _ _ _ _ _ _ _ _ _ _ _ _ _ _ _ _ _ _ _ _ _ _ _ (n) _ _ r m1 m2 ps _ HN.out (by omega) HO.out S1.rdr (S1.rows HN.out).1 (S1.rows HN.out).2 _ ?_)
        intro d2 d17 d18 d19 d20 d21 d22 d23 d24 d25 d26 d27 d28 d29 d117 d118 d119 d120 d121 d122 d123 d124 d125 d126 d127 d128 d129 d130 d131 d132 d133 d134 d135 d136 d137 d138 d139 d140 d141 d142 d143 d144 d145 d146 d147 d148 d149 d150 d151 d152 d153 d154 d155 d156 d157 d158 d159 d160 d161 d162 d163 d164 d165 d166 d167 d168 d169 d170 d171 d172 d173 d174 d175 d176 d177 d178 d179 d180 d181 d182 d183 d184 d185 d186 d187 d188 d189 d190 d191 d192 d193 d194 d195 d196 d197 d198 d199 d200 d201 d202 d203 d204 d205 d206 d207 d208
        exact hQ _ _ _ _ _ _ _ _ _ _ _ _ _ _ _ _ _ _ _ _ _ _ _ _ _ _ _ _ _ _ _ _ _ _ _ _ _ _ _ _ _ _ _ _ _ _ _ _ _ _ _ _ _ _ _ _ _ _ _ _ _ _ _ _ _ _ _ _ _ _ _ _ _ _ _ _ _ _ _ _ _ _ _ _ _ _ _ _ _ _ _ _ _ _ _ _ _ _ _ _ _ _ _ _ _ _ _ _ _ _ _ _ _ _ _ _ _ _ _ _ _ _ _ _ _ _ _ _ _ _ _ _ _ _ _ _ _ _ _ _ _ _ _ _ _ _ _ _ _ _ _ _ _ _ ps _ (by omega) HN.out HO.out S1
  · by_cases he : old = text
    · subst he
      have ho2' := (lk_swp hO).1 ho1
      rw [ho2'] at ho2
      subst ho2
      have hc := alias_same r m1 m2 ps (swp ps) name old kindStr line wr hS.rdr ho1 ho2'
      have HC := hide hc
      have HO := hide hO
      have HS := hide hS
      have HN := hide hn
      clear hc hO hS hn ho1 ho2'
      go_upto_if 99 with (go_at_call 8; refine HC.out.mono ?_; rintro e w1 ⟨rfl, hR1, hC1⟩)
      rename_i K1 hK1
      have HK1 := hide hK1
      clear hK1 HC
      have S1 := HS.out.turn hR1 hC1
      clear HS hR1 hC1 hline
      go_wp2
      refine HK1.out _ _ (chk3 _ _ _ _ _ _ _ _ _ _ _ _ _ _ _ _ _ _ _ _ _ _ _ _ _ _ _ _ _ _ _ _ _ _ _ _ _ _ _ _ _ _ _ _ _ _ _ _ _ _ _ _ _ _ _ _ _ _ _ _ _ _ _ _ _ _ _ _ _ _ _ _ _ _ _ _ _ _ _ _ _ _ _ _ _ _ _ _ _ _ _ _ _ _ _ _ _ _ _ _ _ _ _ _ _ _ _ _ _ _ _ _ _ _ _ _ _ _ _ _ _ _ _ _ _ _ _ _ _ _ _ _ _ _ _ _ _ _ _ _ _ _ _ _ _ _ _ _ _ _ _ _ _ _ _ _ _ _ _ _ _ _ _ _ _ _ _ _ _ _ _ _ _ _ _ _ _ _ _ _ _ _ _ _ _ _ _ _ _ _ _ _ _ _ _ _ _ _ _ _ _ _ _ _ _ _ _ _ _ (n) _ _ r m1 m2 ps _ HN.out (by omega) HO.out S1.rdr (S1.rows HN.out).1 (S1.rows HN.out).2 _ ?_)
      intro d2 d17 d18 d19 d20 d21 d22 d23 d24 d25 d26 d27 d28 d29 d117 d118 d119 d120 d121 d122 d123 d124 d125 d126 d127 d128 d129 d130 d131 d132 d133 d134 d135 d136 d137 d138 d139 d140 d141 d142 d143 d144 d145 d146 d147 d148 d149 d150 d151 d152 d153 d154 d155 d156 d157 d158 d159 d160 d161 d162 d163 d164 d165 d166 d167 d168 d169 d170 d171 d172 d173 d174 d175 d176 d177 d178 d179 d180 d181 d182 d183 d184 d185 d186 d187 d188 d189 d190 d191 d192 d193 d194 d195 d196 d197 d198 d199 d200 d201 d202 d203 d204 d205 d206 d207 d208
      exact hQ _ _ _ _ _ _ _ _ _ _ _ _ _ _ _ _ _ _ _ _ _ _ _ _ _ _ _ _ _ _ _ _ _ _ _ _ _ _ _ _ _ _ _ _ _ _ _ _ _ _ _ _ _ _ _ _ _ _ _ _ _ _ _ _ _ _ _ _ _ _ _ _ _ _ _ _ _ _ _ _ _ _ _ _ _ _ _ _ _ _ _ _ _ _ _ _ _ _ _ _ _ _ _ _ _ _ _ _ _ _ _ _ _ _ _ _ _ _ _ _ _ _ _ _ _ _ _ _ _ _ _ _ _ _ _ _ _ _ _ _ _ _ _ _ _ _ _ _ _ _ _ _ _ _ ps _ (by omega) HN.out HO.out S1
    · have hne := list_no he
      have hc := alias_err1 F r m1 m2 ps (swp ps) name text old kindStr line wr hF hS.rdr ho1 hne
      have HC := hide hc
      have HO := hide hO
      have HS := hide hS
      have HN := hide hn
      have hl0 := hline
      clear hc hO hS hn ho1 ho2
      go_upto_if 99 with (go_at_call 8; refine HC.out.mono ?_; rintro e w1 ⟨g, t, rfl, hg, hbg, hbel⟩)
      rename_i K1 hK1
      have HK1 := hide hK1
      clear hK1 HC
      have S1 := HS.out.grow hbel
      have hl1 : w1.cell? ⟨S, 2, none⟩ = some (.int .i64 line) := cell_later hbel hl0
      have HE := hide hbg
      clear HS hline hl0 hbel hg hbg
      go_wp2_with (go_at_call 9; refine (errat9 g line t _ HE.out).mono ?_; rintro e w2 ⟨rfl, rfl⟩)
      refine HK1.out _ _ (chk3 _ _ _ _ _ _ _ _ _ _ _ _ _ _ _ _ _ _ _ _ _ _ _ _ _ _ _ _ _ _ _ _ _ _ _ _ _ _ _ _ _ _ _ _ _ _ _ _ _ _ _ _ _ _ _ _ _ _ _ _ _ _ _ _ _ _ _ _ _ _ _ _ _ _ _ _ _ _ _ _ _ _ _ _ _ _ _ _ _ _ _ _ _ _ _ _ _ _ _ _ _ _ _ _ _ _ _ _ _ _ _ _ _ _ _ _ _ _ _ _ _ _ _ _ _ _ _ _ _ _ _ _ _ _ _ _ _ _ _ _ _ _ _ _ _ _ _ _ _ _ _ _ _ _ _ _ _ _ _ _ _ _ _ _ _ _ _ _ _ _ _ _ _ _ _ _ _ _ _ _ _ _ _ _ _ _ _ _ _ _ _ _ _ _ _ _ _ _ _ _ _ _ _ _ _ _ _ _ _ (n) _ _ r m1 m2 ps _ HN.out (by omega) HO.out S1.rdr (S1.rows HN.out).1 (S1.rows HN.out).2 _ ?_)
      intro d2 d17 d18 d19 d20 d21 d22 d23 d24 d25 d26 d27 d28 d29 d117 d118 d119 d120 d121 d122 d123 d124 d125 d126 d127 d128 d129 d130 d131 d132 d133 d134 d135 d136 d137 d138 d139 d140 d141 d142 d143 d144 d145 d146 d147 d148 d149 d150 d151 d152 d153 d154 d155 d156 d157 d158 d159 d160 d161 d162 d163 d164 d165 d166 d167 d168 d169 d170 d171 d172 d173 d174 d175 d176 d177 d178 d179 d180 d181 d182 d183 d184 d185 d186 d187 d188 d189 d190 d191 d192 d193 d194 d195 d196 d197 d198 d199 d200 d201 d202 d203 d204 d205 d206 d207 d208
      exact hQ _ _ _ _ _ _ _ _ _ _ _ _ _ _ _ _ _ _ _ _ _ _ _ _ _ _ _ _ _ _ _ _ _ _ _ _ _ _ _ _ _ _ _ _ _ _ _ _ _ _ _ _ _ _ _ _ _ _ _ _ _ _ _ _ _ _ _ _ _ _ _ _ _ _ _ _ _ _ _ _ _ _ _ _ _ _ _ _ _ _ _ _ _ _ _ _ _ _ _ _ _ _ _ _ _ _ _ _ _ _ _ _ _ _ _ _ _ _ _ _ _ _ _ _ _ _ _ _ _ _ _ _ _ _ _ _ _ _ _ _ _ _ _ _ _ _ _ _ _ _ _ _ _ _ ps _ (by omega) HN.out HO.out S1

end Go.Proofs.YbulkcicwFmt
