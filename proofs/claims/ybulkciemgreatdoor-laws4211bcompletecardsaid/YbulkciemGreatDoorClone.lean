import Derived.Test.YbulkciemGreatDoorHash
import Derived.Lib.SliceRun
import Derived.OwnWalk
namespace Go.Proofs.YbulkciemGreatDoor
open Go.RowKit
set_option linter.unusedVariables false

theorem Ybaz.info32 : (Ybaz.prog.info? 32).map (fun i => (i.zero, i.size, i.bytes)) = some (some (.agg #[.int .i64 0, .string ⟨#[]⟩]), 2, 24) := by kernel_rfl

set_option maxHeartbeats 800000 in
theorem clone40 (b off n cap : Nat) (vs : List Value) (w : World) (h0 : 0 < n) (h1 : n ≤ 1024) (hl : vs.length = n * 2) (hone : ∀ u ∈ vs, u.oneCell' = true) (hb : b < w.heap.size) (hc : ∀ j u, vs[j]? = some u → w.cell? ⟨b, off + j, none⟩ = some u) :
    Calls Ybaz.prog 40 #[.slice (some ⟨b, off, none⟩) n cap] w fun e w' => ∃ g c, e = .returned (.slice (some ⟨g, 0, none⟩) n c) ∧ w.heap.size ≤ g ∧ g < w'.heap.size ∧ w'.ownsRow w.heap.size 32 2 (.slice (some ⟨g, 0, none⟩) n c) n vs ∧ Below w.heap.size w w' := by
  have heq : ∀ a n c w', (binOp .eql 30 (.slice a n c) (.slice none 0 0)).run Ybaz.prog w' = .ok (.bool a.isNone) w' := fun a n c w' => Lib.run_eql_slice_nil w' 30 32 a n c 0 0 Ybaz.underlying30
  obtain ⟨t0, ht0, hz0, hz1, hz2⟩ := info_parts Ybaz.info32
  go_enter Ybaz.func40, Ybaz.ntmps40
  go_wp2_with (at_builtin; refine wpList_append_lies _ rfl _ _ 30 rfl w.heap.size 32 t0 (.agg #[.int .i64 0, .string ⟨#[]⟩]) 2 24 Ybaz.underlying30 ht0 hz0 hz1 hz2 rfl (by decide) (.slice (some ⟨w.heap.size, 0, none⟩) 0 0) 0 [] rfl ?a1 ⟨b, off, none⟩ n cap vs rfl hl ?a2 hone h0 ?a4 ?a5 ?a6 _ rfl ?a7)
  case a1 => exact Blk.owns (Blk.new w 32 []) (Nat.le_refl _) (by simp [maxLen]) rfl
  case a2 =>
    intro j u hj
    rw [Addr.add_lit]
    rw [((Below.refl w.heap.size w).alloc (Nat.le_refl _) (.cells #[] 32)).cell (p := ⟨b, off + j, none⟩) hb]
    exact hc j u hj
  case a4 => unfold maxLen; omega
  case a5 => omega
  case a6 => simp
  case a7 =>
    intro g c w7 hown hgr hat hlt
    have hbel : Below w.heap.size w w7 := by
      have c1 : Chg [w.heap.size] w w7 := (Chg.ofBelow ((Below.refl _ w).alloc (Nat.le_refl _) (.cells #[] 32))).trans (chg_grown hgr (fun k hk _ => by simpa [Value.ownBlock] using hk.symm))
      exact c1.below (by simp) (Nat.le_refl _)
    have hg := (hown.lt g rfl).1
    have HO := hide hown
    clear hown hgr hat
    go_wp2
    go_ret
    exact ⟨g, c, rfl, hg, hlt, HO.out, hbel⟩
end Go.Proofs.YbulkciemGreatDoor
