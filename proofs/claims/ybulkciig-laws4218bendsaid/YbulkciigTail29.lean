import Derived.Test.YbulkciigFns
namespace Go.Proofs.Ybulkciig
open Go.RowKit Go.MuLone Go.Conc.Locks
set_option linter.unusedVariables false
attribute [local go_sem ↓] look_held put_held len_held

/-- What the map holds behind 'end'. -/
def want (c : ByteArray) (h : ByteArray → Option Int) (k : ByteArray) : Option Int := if (!c.toList.isEmpty && (k.toList == c.toList)) then some (wrap64 ((h c).getD 0 - 1)) else h k

set_option maxHeartbeats 1600000 in
set_option maxRecDepth 1000000 in
theorem tail29 (c1 c2 c5 c6 c7 c8 c9 c10 c11 c12 c13 c14 c16 c17 c18 c19 c20 c21 c22 c23 c24 c25 c26 c27 c28 c29 c30 c31 c32 c33 c34 c35 c36 c37 c38 c39 c40 c41 c42 c43 c44 c45 c46 c47 c48 c49 c50 c51 c52 c53 c54 c55 c56 c57 c58 c59 c60 c61 c62 c63 c64 c65 c66 c67 c68 c69 c70 c71 c72 c73 c74 c75 c76 c77 c78 c79 c80 c81 c82 c83 c84 c85 c86 c87 c88 c89 c90 c91 c92 c93 c94 c95 c96 c97 c98 c99 c100 c101 c102 c103 c104 c105 c106 c107 c108 c109 c110 c111 c112 c113 c114 c115 c116 c117 c118 c119 c120 c121 c122 c123 c124 c125 c126 c127 c128 c129 c130 c131 c132 c133 c134 c135 c136 c137 c138 c139 c140 c141 c142 c143 c144 c145 c146 c147 c148 c149 c150 c151 c152 c153 c154 c155 c156 c157 c158 c159 c160 c161 c162 c163 c164 c165 c166 c167 c168 c169 c170 c171 c172 c173 c174 c175 c176 c177 c178 c179 c180 c181 c182 c183 c184 c185 c186 c187 : Value) (a3 a4 : Option Addr) (n cc3 m cc4 M : Nat) (c : ByteArray) (f : Nat → ByteArray) (g : Nat → Int) (w wr : World) (qs : Pairs) (hn : n ≤ 1024) (hm : m ≤ 1024) (h3 : Rk wr a3 n f) (h4 : Rn wr a4 m g) (hM : MB wr M qs) (hq : ∀ k, lk qs k = want c (fun k => get f m g k n) k) (hb : Below w.heap.size w wr) :
    Code.wp Yba.prog (tailAt 29 (Yba.f3.body.getD .skip)) (bodyPost Yba.prog Yba.f3 fun e w' => e = .returned (.bool true) ∧ Below w.heap.size w w') ⟨#[.string c, c1, c2, .slice a3 n cc3, .slice a4 m cc4, c5, c6, c7, c8, c9, c10, c11, c12, c13, c14, .map (some M), c16, c17, c18, c19, c20, c21, c22, c23, c24, c25, c26, c27, c28, c29, c30, c31, c32, c33, c34, c35, c36, c37, c38, c39, c40, c41, c42, c43, c44, c45, c46, c47, c48, c49, c50, c51, c52, c53, c54, c55, c56, c57, c58, c59, c60, c61, c62, c63, c64, c65, c66, c67, c68, c69, c70, c71, c72, c73, c74, c75, c76, c77, c78, c79, c80, c81, c82, c83, c84, c85, c86, c87, c88, c89, c90, c91, c92, c93, c94, c95, c96, c97, c98, c99, c100, c101, c102, c103, c104, c105, c106, c107, c108, c109, c110, c111, c112, c113, c114, c115, c116, c117, c118, c119, c120, c121, c122, c123, c124, c125, c126, c127, c128, c129, c130, c131, c132, c133, c134, c135, c136, c137, c138, c139, c140, c141, c142, c143, c144, c145, c146, c147, c148, c149, c150, c151, c152, c153, c154, c155, c156, c157, c158, c159, c160, c161, c162, c163, c164, c165, c166, c167, c168, c169, c170, c171, c172, c173, c174, c175, c176, c177, c178, c179, c180, c181, c182, c183, c184, c185, c186, c187], []⟩ wr := by
  conv => arg 2; whnf
  go_wp2_with fail
  rename_i K0 hK0
  have HK0 := hide hK0
  clear hK0
  have HB := hide hb
  have HM := hide hM
  have HQ := hide hq
  clear hb hM hq
  go_loopg [146] n (fun g0 v wx => ∃ i : Nat, i ≤ n ∧ g0 = n - i ∧ v = .int .i64 i ∧ wx = wr)
  case atStart => go_light; exact ⟨0, by omega, rfl, rfl, rfl⟩
  case round =>
    rename World => w2
    rename_i J2 K2 hJ2 hK2
    obtain ⟨i, hi, rfl, rfl, rfl⟩ := hrel
    by_cases hlt : i < n
    · have hlt' : (i : Int) < (n : Int) := by omega
      have G7 := hide (get7 a3 a4 n cc3 m cc4 (f i) f g w2 hn hm h3 h4)
      rcases h3 with h3 | ⟨b, off, rfl, hb3, hc3⟩
      · omega
      have e1 := hc3 i hlt
      obtain ⟨x, hx⟩ : ∃ x, f i = x := ⟨_, rfl⟩
      have hw : (lk qs x).getD 0 = (want c (fun k => get f m g k n) x).getD 0 := by rw [HQ.out x]
      have L := run_look HM.out x
      rw [look_held, hw] at L
      rw [hx] at e1 G7
      obtain ⟨o, ho⟩ : ∃ o, get f m g x n = o := ⟨_, rfl⟩
      rw [ho] at G7
      clear hc3 hx hw
      cases hce : c.toList.isEmpty with
      | true =>
        have hwn : want c (fun k => get f m g k n) x = o := by simp [want, hce, ho]
        rw [hwn] at L
        clear hwn ho
        obtain ⟨v, hv⟩ : ∃ v, o.getD 0 = v := ⟨_, rfl⟩
        rw [hv] at L G7
        have hvv : (v != v) = false := by simp
        clear hv
        go_wp2_with (go_at_call 7; refine G7.out.mono ?_; rintro e w3 ⟨rfl, rfl⟩)
        go_roundg (n - (i + 1))
        case measure => go_light; omega
        case rel => go_light; exact ⟨i + 1, by omega, rfl, by go_num, rfl⟩
      | false =>
        cases hxc : (x.toList == c.toList) with
        | true =>
          have hxe := list_yes.1 hxc
          have hwn : want c (fun k => get f m g k n) x = some (wrap64 (o.getD 0 - 1)) := by
            unfold want
            rw [hce, hxc]
            simp only [Bool.not_false, Bool.and_self, if_true]
            rw [← hxe, ho]
          rw [hwn] at L
          clear hwn ho hxe
          obtain ⟨v, hv⟩ : ∃ v, o.getD 0 = v := ⟨_, rfl⟩
          rw [hv] at L G7
          have hvv : (wrap64 (v - 1) != wrap64 (v - 1)) = false := by simp
          clear hv
          simp only [Option.getD_some] at L
          go_wp2_with (go_at_call 7; refine G7.out.mono ?_; rintro e w3 ⟨rfl, rfl⟩)
          go_roundg (n - (i + 1))
          case measure => go_light; omega
          case rel => go_light; exact ⟨i + 1, by omega, rfl, by go_num, rfl⟩
        | false =>
          have hwn : want c (fun k => get f m g k n) x = o := by simp [want, hce, hxc, ho]
          rw [hwn] at L
          clear hwn ho
          obtain ⟨v, hv⟩ : ∃ v, o.getD 0 = v := ⟨_, rfl⟩
          rw [hv] at L G7
          have hvv : (v != v) = false := by simp
          clear hv
          go_wp2_with (go_at_call 7; refine G7.out.mono ?_; rintro e w3 ⟨rfl, rfl⟩)
          go_roundg (n - (i + 1))
          case measure => go_light; omega
          case rel => go_light; exact ⟨i + 1, by omega, rfl, by go_num, rfl⟩
    · clear hJ2 hK2
      have G7 := hide (get7 a3 a4 n cc3 m cc4 c f g w2 hn hm h3 h4)
      have hK0 := HK0.out
      clear HK0 h3 h4
      cases hce : c.toList.isEmpty with
      | true =>
        go_wp2
        go_ret
        exact ⟨rfl, HB.out⟩
      | false =>
        have hw : (lk qs c).getD 0 = wrap64 ((get f m g c n).getD 0 - 1) := by rw [HQ.out c]; simp [want, hce]
        have L := run_look HM.out c
        rw [look_held, hw] at L
        obtain ⟨o, ho⟩ : ∃ o, get f m g c n = o := ⟨_, rfl⟩
        rw [ho] at G7 L
        obtain ⟨v, hv⟩ : ∃ v, o.getD 0 = v := ⟨_, rfl⟩
        rw [hv] at L G7
        have hvv : (wrap64 (v - 1) != wrap64 (v - 1)) = false := by simp
        clear hw ho hv
        go_wp2_with (go_at_call 7; refine G7.out.mono ?_; rintro e w3 ⟨rfl, rfl⟩)
        go_ret
        exact ⟨rfl, HB.out⟩

end Go.Proofs.Ybulkciig
