import Derived.Test.YbulkciigTail5
namespace Go.Proofs.Ybulkciig
open Go.RowKit Go.MuLone Go.Conc.Locks
set_option linter.unusedVariables false
attribute [local go_sem ↓] look_held put_held len_held

set_option maxRecDepth 1000000 in
theorem big0 (c : ByteArray) (u : Bool) (p : Int) (a3 a4 : Option Addr) (n cc3 m cc4 : Nat) (sd : Bool) (fl : Int) (w : World) (h : 1024 < n) : Calls Yba.prog 3 #[.string c, .bool u, .int .u8 p, .slice a3 n cc3, .slice a4 m cc4, .bool sd, .int .i64 fl] w fun e w' => e = .returned (.bool true) ∧ Below w.heap.size w w' := by
  have h' : (1024 : Int) < (n : Int) := by omega
  go_enter Yba.func3, Yba.ntmps3
  go_wp2
  go_ret
  exact ⟨rfl, Below.refl _ _⟩
set_option maxRecDepth 1000000 in
theorem big1 (c : ByteArray) (u : Bool) (p : Int) (a3 a4 : Option Addr) (n cc3 m cc4 : Nat) (sd : Bool) (fl : Int) (w : World) (h0 : n ≤ 1024) (h : 1024 < m) : Calls Yba.prog 3 #[.string c, .bool u, .int .u8 p, .slice a3 n cc3, .slice a4 m cc4, .bool sd, .int .i64 fl] w fun e w' => e = .returned (.bool true) ∧ Below w.heap.size w w' := by
  have h0' : ¬ (1024 : Int) < (n : Int) := by omega
  have h' : (1024 : Int) < (m : Int) := by omega
  go_enter Yba.func3, Yba.ntmps3
  go_wp2
  go_ret
  exact ⟨rfl, Below.refl _ _⟩

set_option maxHeartbeats 800000 in
set_option maxRecDepth 1000000 in
theorem end_walk (c : ByteArray) (u : Bool) (p : Int) (a3 a4 : Option Addr) (n cc3 m cc4 : Nat) (sd : Bool) (fl : Int) (w : World) (f : Nat → ByteArray) (g : Nat → Int) (hn : n ≤ 1024) (hm : m ≤ 1024) (hp0 : 0 ≤ p) (hp1 : p ≤ 255) (h3 : Rk w a3 n f) (h4 : Rn w a4 m g) : Calls Yba.prog 3 #[.string c, .bool u, .int .u8 p, .slice a3 n cc3, .slice a4 m cc4, .bool sd, .int .i64 fl] w fun e w' => e = .returned (.bool true) ∧ Below w.heap.size w w' := by
  have hn' : ¬ (1024 : Int) < (n : Int) := by omega
  have hm' : ¬ (1024 : Int) < (m : Int) := by omega
  cases u with
  | false =>
    go_enter Yba.func3, Yba.ntmps3
    go_upto_if 44 with fail
    rename_i K1 hK1
    have HK1 := hide hK1
    clear hK1
    go_wp2
    exact HK1.out _ _ (tail5 _ _ _ _ _ _ _ _ _ _ _ _ _ _ _ _ _ _ _ _ _ _ _ _ _ _ _ _ _ _ _ _ _ _ _ _ _ _ _ _ _ _ _ _ _ _ _ _ _ _ _ _ _ _ _ _ _ _ _ _ _ _ _ _ _ _ _ _ _ _ _ _ _ _ _ _ _ _ _ _ _ _ _ _ _ _ _ _ _ _ _ _ _ _ _ _ _ _ _ _ _ _ _ _ _ _ _ _ _ _ _ _ _ _ _ _ _ _ _ _ _ _ _ _ _ _ _ _ _ _ _ _ _ _ _ _ _ _ _ _ _ _ _ _ _ _ _ _ _ _ _ _ _ _ _ _ _ _ _ _ _ _ _ _ _ _ _ _ _ _ _ _ _ _ _ _ _ _ _ _ _ _ _ a3 a4 n cc3 m cc4 c f g w sd fl hn hm h3 h4)
  | true =>
    by_cases hz : n = 0
    · subst hz
      go_enter Yba.func3, Yba.ntmps3
      go_upto_if 44 with fail
      rename_i K1 hK1
      have HK1 := hide hK1
      clear hK1
      go_wp2
      exact HK1.out _ _ (tail5 _ _ _ _ _ _ _ _ _ _ _ _ _ _ _ _ _ _ _ _ _ _ _ _ _ _ _ _ _ _ _ _ _ _ _ _ _ _ _ _ _ _ _ _ _ _ _ _ _ _ _ _ _ _ _ _ _ _ _ _ _ _ _ _ _ _ _ _ _ _ _ _ _ _ _ _ _ _ _ _ _ _ _ _ _ _ _ _ _ _ _ _ _ _ _ _ _ _ _ _ _ _ _ _ _ _ _ _ _ _ _ _ _ _ _ _ _ _ _ _ _ _ _ _ _ _ _ _ _ _ _ _ _ _ _ _ _ _ _ _ _ _ _ _ _ _ _ _ _ _ _ _ _ _ _ _ _ _ _ _ _ _ _ _ _ _ _ _ _ _ _ _ _ _ _ _ _ _ _ _ _ _ _ a3 a4 0 cc3 m cc4 c f g w sd fl hn hm h3 h4)
    · have hpos : (0 : Int) < (n : Int) := by omega
      have q1 := Int.emod_lt_of_pos p hpos
      have q0 := Int.emod_nonneg p (show (n : Int) ≠ 0 by omega)
      obtain ⟨q, hq⟩ : ∃ q : Nat, p % (n : Int) = (q : Int) := ⟨(p % (n : Int)).toNat, (Int.toNat_of_nonneg q0).symm⟩
      have hqn : q < n := by omega
      have hqn' : (q : Int) < (n : Int) := by omega
      have H3 := hide h3
      rcases h3 with h3 | ⟨b3, off3, rfl, hb3, hc3⟩
      · omega
      have e1 := hc3 q hqn
      have hnz : ¬ (n : Int) = 0 := by omega
      clear hc3 q0 q1
      go_enter Yba.func3, Yba.ntmps3
      go_upto_if 44 with fail
      rename_i K1 hK1
      have HK1 := hide hK1
      clear hK1
      go_wp2
      exact HK1.out _ _ (tail5 _ _ _ _ _ _ _ _ _ _ _ _ _ _ _ _ _ _ _ _ _ _ _ _ _ _ _ _ _ _ _ _ _ _ _ _ _ _ _ _ _ _ _ _ _ _ _ _ _ _ _ _ _ _ _ _ _ _ _ _ _ _ _ _ _ _ _ _ _ _ _ _ _ _ _ _ _ _ _ _ _ _ _ _ _ _ _ _ _ _ _ _ _ _ _ _ _ _ _ _ _ _ _ _ _ _ _ _ _ _ _ _ _ _ _ _ _ _ _ _ _ _ _ _ _ _ _ _ _ _ _ _ _ _ _ _ _ _ _ _ _ _ _ _ _ _ _ _ _ _ _ _ _ _ _ _ _ _ _ _ _ _ _ _ _ _ _ _ _ _ _ _ _ _ _ _ _ _ _ _ _ _ _ _ a4 n cc3 m cc4 (f q) f g w sd fl hn hm H3.out h4)

end Go.Proofs.Ybulkciig
