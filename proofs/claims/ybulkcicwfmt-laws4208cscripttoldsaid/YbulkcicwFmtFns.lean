import Derived.Test.YbulkcicwFmtMaps
import Derived.WalkKit
import Derived.WalkSpells
import Derived.Stop.CallBack
import Derived.BigQuiet
import Derived.Deep.RegionHeld3
import Derived.Sort.AtCall
namespace Go.Proofs.YbulkcicwFmt
open Go.RowKit Go.Extern.Stop Go.Stop Go.Extern
set_option linter.unusedVariables false

theorem Ybaf.call11 (args : Array Value) (w : World) : (callFunc 11 args).run Ybaf.prog w = (FmtCalls.sprintf #[9, 63] #[9] args).run Ybaf.prog w :=
  run_callFunc_next Ybaf.func11 (by kernel_rfl) (by kernel_rfl) (by kernel_rfl) args w
theorem Ybaf.guard (name : String) (w : World) : (FmtStop.guard name).run Ybaf.prog w = .ok () w := by kernel_rfl
theorem Ybaf.nextTurns : Extern.next FmtCalls.turnsRow = some (FmtCalls.begun #[] #[]) := by kernel_rfl
def fm1 : ByteArray := ⟨#[116, 111, 107, 101, 110, 32, 37, 115, 32, 104, 97, 115, 32, 116, 104, 101, 32, 97, 108, 105, 97, 115, 32, 37, 115, 32, 97, 108, 114, 101, 97, 100, 121]⟩
def fm2 : ByteArray := ⟨#[37, 115, 32, 105, 115, 32, 116, 104, 101, 32, 97, 108, 105, 97, 115, 32, 111, 102, 32, 116, 111, 107, 101, 110, 32, 37, 115, 32, 97, 108, 114, 101, 97, 100, 121]⟩
theorem Ybaf.fmt1 : FmtStop.printed? fm1 2 = some [(0, 115, false), (1, 115, false)] := by kernel_rfl
theorem Ybaf.fmt2 : FmtStop.printed? fm2 2 = some [(0, 115, false), (1, 115, false)] := by kernel_rfl
def Ybaf.shape9 : List UInt8 := [12, 6, 0, 0, 0, 0, 0, 0, 0, 115, 116, 114, 105, 110, 103]
theorem Ybaf.act9_115 (name : String) (x : Value) (w : World) : (FmtCalls.act name false 115 false (.iface 9 x)).run Ybaf.prog w = .ok (.closed false) w := by kernel_rfl
theorem Ybaf.op9_115 (name : String) (x : ByteArray) (w : World) : (FmtStop.operand name false 115 false (.iface 9 (.string x))).run Ybaf.prog w = .ok (Ybaf.shape9, FmtStop.pack x.data.toList) w := by kernel_rfl

theorem sprintf_rows (F : Interp) (b : Nat) (x y f : ByteArray) (w : World) (hF : F.answers w.tape)
    (h0 : w.cell? ⟨b, 0, none⟩ = some (.iface 9 (.string x))) (h1 : w.cell? ⟨b, 1, none⟩ = some (.iface 9 (.string y))) (R : Value → World → Prop)
    (h : ∀ t, R (.string t) w.drew) : Rows Ybaf.prog FmtCalls.turnsRow (FmtCalls.save 0 0 (.slice (some ⟨b, 0, none⟩) 2 2) f [] [(0, 115, false), (1, 115, false)]) w R := by
  have hF' := answers_open hF
  refine rows_value (v := .string (FmtStop.textOf (F "fmt.Sprintf" [f.data.toList, Ybaf.shape9, FmtStop.pack x.data.toList, Ybaf.shape9, FmtStop.pack y.data.toList] 0))) (w' := w.drew) Ybaf.nextTurns ?hr (h _)
  have a1 := Ybaf.act9_115
  have a2 := Ybaf.op9_115
  go_simp

theorem new5 (w : World) : Calls Ybaf.prog 5 #[] w fun e w' => e = .returned (.pointer (some ⟨w.heap.size + 1 + 1, 0, none⟩)) ∧ 
    w' = ((w.alloc (.map #[] 0)).alloc (.map #[] 0)).alloc (.cells #[.string ⟨#[103, 46, 121]⟩, .slice none 0 0, .map none,
                      .slice none 0 0, .map none, .slice none 0 0, .string ⟨#[]⟩,
                      .int .i64 0, .int .i64 0, .string ⟨#[]⟩,
                      .int .i64 0, .string ⟨#[]⟩, .string ⟨#[]⟩,
                      .slice none 0 0, .map none, .map (some w.heap.size),
                      .map (some (w.heap.size + 1)), .slice none 0 0, .string ⟨#[]⟩,
                      .string ⟨#[]⟩, .int .i64 0, .int .i32 0, .map none,
                      .slice none 0 0, .map none, .int .i64 0] 53) := by
  have hmm := @run_makeMap Ybaf.prog
  go_enter Ybaf.func5, Ybaf.ntmps5
  go_wp2
  go_ret
  exact ⟨rfl, rfl⟩
abbrev gy : ByteArray := ⟨#[103, 46, 121]⟩

set_option maxHeartbeats 1600000 in
theorem errAt10 (F : Interp) (r b : Nat) (line : Int) (f x y : ByteArray) (w : World) (hF : F.answers w.tape) (hf : FmtStop.printed? f 2 = some [(0, 115, false), (1, 115, false)])
    (hfile : w.cell? ⟨r, 0, none⟩ = some (.string gy)) (h0 : w.cell? ⟨b, 0, none⟩ = some (.iface 9 (.string x))) (h1 : w.cell? ⟨b, 1, none⟩ = some (.iface 9 (.string y))) :
    Calls Ybaf.prog 10 #[.pointer (some ⟨r, 0, none⟩), .int .i64 line, .string f, .slice (some ⟨b, 0, none⟩) 2 2] w fun e w' => ∃ g t, e = .returned (.pointer (some ⟨g, 0, none⟩)) ∧
      w.heap.size ≤ g ∧ Blk w' g 61 [.string gy, .int .i64 line, .string t] ∧ Below w.heap.size w w' := by
  have hc := Ybaf.call11
  have hgd := Ybaf.guard
  go_enter Ybaf.func10, Ybaf.ntmps10
  go_wp2
  go_region_held3 (fun w' => w'.cell? ⟨r, 0, none⟩ = some (.string gy) ∧ w'.cell? ⟨b, 0, none⟩ = some (.iface 9 (.string x)) ∧ w'.cell? ⟨b, 1, none⟩ = some (.iface 9 (.string y))) (go_keep) ((refine sprintf_rows F b x y f _ ?_ ?_ ?_ _ ?_; (exact hF); (go_split_ands; assumption); (go_split_ands; assumption); intro t))
  go_wp2
  go_ret
  exact ⟨_, _, rfl, Nat.le_refl _, Blk.new _ _ _, (((Below.refl _ _).alloc (Nat.le_refl _) _).drew).drew⟩

theorem errat9 (g : Nat) (line : Int) (t : ByteArray) (w : World) (h : Blk w g 61 [.string gy, .int .i64 line, .string t]) :
    Calls Ybaf.prog 9 #[.iface 57 (.pointer (some ⟨g, 0, none⟩)), .int .i64 line] w fun e w' => e = .returned (.bool true) ∧ w' = w := by
  have c0 : w.cell? ⟨g, 0, none⟩ = some (.string gy) := h.cell 0
  have c1 : w.cell? ⟨g, 1, none⟩ = some (.int .i64 line) := h.cell 1
  have hta : ∀ (x : Value) (w : World), (Instr.typeAssert (.iface 57 x) 30 57 true).run Ybaf.prog w = .ok (.tuple #[x, .bool true]) w := fun x w => by kernel_rfl
  clear h
  go_enter Ybaf.func9, Ybaf.ntmps9
  go_wp2
  go_ret
  exact ⟨rfl, rfl⟩

def lookHeld (t : TypeId) (m k : Value) (c : Bool) : Sem Value := Instr.lookup t m k c
theorem look_held (t : TypeId) (m k : Value) (c : Bool) : Instr.lookup t m k c = lookHeld t m k c := rfl
def putHeld (t : TypeId) (m k v : Value) : Sem Unit := Instr.mapUpdate t m k v
theorem put_held (t : TypeId) (m k v : Value) : Instr.mapUpdate t m k v = putHeld t m k v := rfl
attribute [local go_sem ↓] look_held put_held

theorem bcell {W w1 : World} (hb : Below W.heap.size W w1) : (∀ b o, b < W.heap.size → w1.cell? ⟨b, o, none⟩ = W.cell? ⟨b, o, none⟩) ∧ (∀ b o, b < W.heap.size → w1.frozen? ⟨b, o, none⟩ = W.frozen? ⟨b, o, none⟩) :=
  ⟨fun b o h => hb.cell (p := ⟨b, o, none⟩) h, fun b o h => hb.frozen (p := ⟨b, o, none⟩) h⟩

/-- The reader: its two maps. -/
structure Rdr (w : World) (r m1 m2 : Nat) (ps1 ps2 : Pairs) : Prop where
  file : w.cell? ⟨r, 0, none⟩ = some (.string gy)
  c1 : w.cell? ⟨r, 15, none⟩ = some (.map (some m1))
  c2 : w.cell? ⟨r, 16, none⟩ = some (.map (some m2))
  b1 : MB w m1 ps1
  b2 : MB w m2 ps2
  n1 : m1 ≠ m2
  n2 : r ≠ m1
  n3 : r ≠ m2

def kindStr : ByteArray := ⟨#[115, 116, 114, 105, 110, 103, 32, 108, 105, 116, 101, 114, 97, 108]⟩

set_option maxHeartbeats 1600000 in
theorem alias_err1 (F : Interp) (r m1 m2 : Nat) (ps1 ps2 : Pairs) (name text old kd : ByteArray) (line : Int) (w : World) (hF : F.answers w.tape) (hR : Rdr w r m1 m2 ps1 ps2)
    (hl : lk ps1 name = some old) (hne : (old.toList == text.toList) = false) :
    Calls Ybaf.prog 8 #[.pointer (some ⟨r, 0, none⟩), .string name, .agg #[.string kd, .string text, .int .i64 line]] w fun e w' => ∃ g t, e = .returned (.iface 57 (.pointer (some ⟨g, 0, none⟩))) ∧
      w.heap.size ≤ g ∧ Blk w' g 61 [.string gy, .int .i64 line, .string t] ∧ Below w.heap.size w w' := by
  have hfile := hR.file
  have hc1 := hR.c1
  have L1 : (lookHeld 47 (.map (some m1)) (.string name) true).run Ybaf.prog (w.alloc (.cells #[.string kd, .string text, .int .i64 line] 34)) = .ok (.tuple #[.string old, .bool true]) (w.alloc (.cells #[.string kd, .string text, .int .i64 line] 34)) := by
    have := run_look (hR.b1.alloc (.cells #[.string kd, .string text, .int .i64 line] 34)) name true
    rw [hl] at this
    exact this
  have hr := World.block_lt_of_cell? _ _ hfile
  have hr1 : r < w.heap.size + 1 := by have : r < w.heap.size := hr; omega
  go_enter Ybaf.func8, Ybaf.ntmps8
  go_wp2
  go_region_held3 (fun w' => w'.cell? ⟨r, 0, none⟩ = some (.string gy) ∧ w'.cell? ⟨w.heap.size, 2, none⟩ = some (.int .i64 line)) (first | exact ⟨by assumption, by assumption⟩ | go_keep) ((go_at_call 10; refine (errAt10 F r _ line fm1 name old _ ?_ Ybaf.fmt1 ?_ ?_ ?_).mono ?_; (exact hF); (go_split_ands; assumption); (go_simp); (go_simp); rintro e w1 ⟨g, t, rfl, hg, hb, hbel⟩; (have q1 : w1.cell? ⟨r, 0, none⟩ = some (.string gy) := (hbel.cell (p := ⟨r, 0, none⟩) (by simp; omega)).trans (by go_split_ands; assumption)); (have q2 : w1.cell? ⟨w.heap.size, 2, none⟩ = some (.int .i64 line) := (hbel.cell (p := ⟨w.heap.size, 2, none⟩) (by simp; omega)).trans (by go_split_ands; assumption))))
  go_wp2
  go_ret
  refine ⟨g, t, rfl, Nat.le_trans (by simp only [World.size_drew, World.size_alloc]; omega) hg, hb, Below.trans ?_ (hbel.mono ?_)⟩
  · exact ((((Below.refl _ _).alloc (Nat.le_refl _) _).drew).alloc (by simp) _)
  · simp only [World.size_drew, World.size_alloc]; omega

set_option maxHeartbeats 1600000 in
theorem alias_err2 (F : Interp) (r m1 m2 : Nat) (ps1 ps2 : Pairs) (name text other kd : ByteArray) (line : Int) (w : World) (hF : F.answers w.tape) (hR : Rdr w r m1 m2 ps1 ps2)
    (o1 : Option ByteArray) (hl1 : lk ps1 name = o1) (ho1 : (o1.isSome && !((o1.getD ⟨#[]⟩).toList == text.toList)) = false)
    (hl : lk ps2 text = some other) (hne : (other.toList == name.toList) = false) :
    Calls Ybaf.prog 8 #[.pointer (some ⟨r, 0, none⟩), .string name, .agg #[.string kd, .string text, .int .i64 line]] w fun e w' => ∃ g t, e = .returned (.iface 57 (.pointer (some ⟨g, 0, none⟩))) ∧
      w.heap.size ≤ g ∧ Blk w' g 61 [.string gy, .int .i64 line, .string t] ∧ Below w.heap.size w w' := by
  have hfile := hR.file
  have hc1 := hR.c1
  have hc2 := hR.c2
  have L1 : (lookHeld 47 (.map (some m1)) (.string name) true).run Ybaf.prog (w.alloc (.cells #[.string kd, .string text, .int .i64 line] 34)) = .ok (.tuple #[.string (o1.getD ⟨#[]⟩), .bool o1.isSome]) (w.alloc (.cells #[.string kd, .string text, .int .i64 line] 34)) := by
    have := run_look (hR.b1.alloc (.cells #[.string kd, .string text, .int .i64 line] 34)) name true
    rw [hl1] at this
    exact this
  have L2 : ∀ n, (lookHeld 47 (.map (some m2)) (.string text) true).run Ybaf.prog ((w.alloc (.cells #[.string kd, .string text, .int .i64 line] 34)).drewN n) = .ok (.tuple #[.string other, .bool true]) ((w.alloc (.cells #[.string kd, .string text, .int .i64 line] 34)).drewN n) := by
    intro n
    have hh : MB ((w.alloc (.cells #[.string kd, .string text, .int .i64 line] 34)).drewN n) m2 ps2 := hR.b2.alloc (.cells #[.string kd, .string text, .int .i64 line] 34)
    have := run_look hh text true
    rw [hl] at this
    exact this
  have hr := World.block_lt_of_cell? _ _ hfile
  have hr1 : r < w.heap.size + 1 := by have : r < w.heap.size := hr; omega
  go_enter Ybaf.func8, Ybaf.ntmps8
  rcases o1 with _ | o
  · simp at L1
    go_wp2
    go_quiet (fail)
    go_wp2
    go_region_held3 (fun w' => w'.cell? ⟨r, 0, none⟩ = some (.string gy) ∧ w'.cell? ⟨w.heap.size, 2, none⟩ = some (.int .i64 line) ∧ w'.cell? ⟨w.heap.size, 1, none⟩ = some (.string text)) (first | exact ⟨by assumption, by assumption, by assumption⟩ | go_keep) ((go_at_call 10; refine (errAt10 F r _ line fm2 text other _ ?_ Ybaf.fmt2 ?_ ?_ ?_).mono ?_; (exact hF); (go_split_ands; assumption); (go_simp); (go_simp); rintro e w1 ⟨g, t, rfl, hg, hb, hbel⟩; (have q1 : w1.cell? ⟨r, 0, none⟩ = some (.string gy) := (hbel.cell (p := ⟨r, 0, none⟩) (by simp; omega)).trans (by go_split_ands; assumption)); (have q2 : w1.cell? ⟨w.heap.size, 2, none⟩ = some (.int .i64 line) := (hbel.cell (p := ⟨w.heap.size, 2, none⟩) (by simp; omega)).trans (by go_split_ands; assumption)); (have q3 : w1.cell? ⟨w.heap.size, 1, none⟩ = some (.string text) := (hbel.cell (p := ⟨w.heap.size, 1, none⟩) (by simp; omega)).trans (by go_split_ands; assumption))))
    go_wp2
    go_ret
    refine ⟨g, t, rfl, Nat.le_trans (by simp; omega) hg, hb, Below.trans ?_ (hbel.mono ?_)⟩
    · exact (below_drewN ((Below.refl _ _).alloc (Nat.le_refl _) _) _).alloc (by simp) _
    · simp; omega
  · simp at L1 ho1
    go_wp2
    go_quiet (fail)
    go_wp2
    go_region_held3 (fun w' => w'.cell? ⟨r, 0, none⟩ = some (.string gy) ∧ w'.cell? ⟨w.heap.size, 2, none⟩ = some (.int .i64 line) ∧ w'.cell? ⟨w.heap.size, 1, none⟩ = some (.string text)) (first | exact ⟨by assumption, by assumption, by assumption⟩ | go_keep) ((go_at_call 10; refine (errAt10 F r _ line fm2 text other _ ?_ Ybaf.fmt2 ?_ ?_ ?_).mono ?_; (exact hF); (go_split_ands; assumption); (go_simp); (go_simp); rintro e w1 ⟨g, t, rfl, hg, hb, hbel⟩; (have q1 : w1.cell? ⟨r, 0, none⟩ = some (.string gy) := (hbel.cell (p := ⟨r, 0, none⟩) (by simp; omega)).trans (by go_split_ands; assumption)); (have q2 : w1.cell? ⟨w.heap.size, 2, none⟩ = some (.int .i64 line) := (hbel.cell (p := ⟨w.heap.size, 2, none⟩) (by simp; omega)).trans (by go_split_ands; assumption)); (have q3 : w1.cell? ⟨w.heap.size, 1, none⟩ = some (.string text) := (hbel.cell (p := ⟨w.heap.size, 1, none⟩) (by simp; omega)).trans (by go_split_ands; assumption))))
    go_wp2
    go_ret
    refine ⟨g, t, rfl, Nat.le_trans (by simp; omega) hg, hb, Below.trans ?_ (hbel.mono ?_)⟩
    · exact (below_drewN ((Below.refl _ _).alloc (Nat.le_refl _) _) _).alloc (by simp) _
    · simp; omega

theorem cell_setBlock {w : World} {b : Nat} (o : Obj) (r i : Nat) (h : r ≠ b) : (ChangeMaps.setBlock w b o).cell? ⟨r, i, none⟩ = w.cell? ⟨r, i, none⟩ := by
  have : (ChangeMaps.setBlock w b o).heap[r]? = w.heap[r]? := by
    have h' : ¬ b = r := fun e => h e.symm
    simp [ChangeMaps.setBlock, h']
  simp [World.cell?, this]

theorem after1 {w W2 : World} {r m1 m2 n : Nat} {ps1 ps2 qs1 : Pairs} {kd text : ByteArray} {line : Int} (hR : Rdr w r m1 m2 ps1 ps2)
    (h : ChangeMaps.setBlock ((w.alloc (.cells #[.string kd, .string text, .int .i64 line] 34)).drewN n) m1 (.map (entsF 0 qs1).toArray qs1.length) = W2) :
    W2.cell? ⟨r, 0, none⟩ = some (.string gy) ∧ W2.cell? ⟨r, 15, none⟩ = some (.map (some m1)) ∧ W2.cell? ⟨r, 16, none⟩ = some (.map (some m2)) ∧ W2.cell? ⟨w.heap.size, 1, none⟩ = some (.string text) ∧ MB W2 m1 qs1 ∧ MB W2 m2 ps2 ∧ Chg [m1, m2] w W2 := by
  have N1 : m1 < w.heap.size := hR.b1.lt
  have hb : Below w.heap.size w ((w.alloc (.cells #[.string kd, .string text, .int .i64 line] 34)).drewN n) := below_drewN ((Below.refl _ _).alloc (Nat.le_refl _) _) _
  have hnew : Blk ((w.alloc (.cells #[.string kd, .string text, .int .i64 line] 34)).drewN n) w.heap.size 34 [.string kd, .string text, .int .i64 line] := Blk.drewN (Blk.new w 34 _) n
  have hm2 : MB ((w.alloc (.cells #[.string kd, .string text, .int .i64 line] 34)).drewN n) m2 ps2 := hR.b2.alloc (.cells #[.string kd, .string text, .int .i64 line] 34)
  have hsz : m1 < ((w.alloc (.cells #[.string kd, .string text, .int .i64 line] 34)).drewN n).heap.size := Nat.lt_of_lt_of_le N1 hb.size
  generalize ((w.alloc (.cells #[.string kd, .string text, .int .i64 line] 34)).drewN n) = W1 at *
  subst h
  refine ⟨?_, ?_, ?_, ?_, MB.put hsz qs1, hm2.chg (S := [m1]) (chg_setBlock (by simp) _) (by simpa using fun e => hR.n1 e.symm), (Chg.ofBelow hb).trans (chg_setBlock (by simp) _)⟩
  · rw [cell_setBlock _ _ _ hR.n2]; exact cell_later hb hR.file
  · rw [cell_setBlock _ _ _ hR.n2]; exact cell_later hb hR.c1
  · rw [cell_setBlock _ _ _ hR.n2]; exact cell_later hb hR.c2
  · rw [cell_setBlock _ _ _ (by omega)]; exact hnew.cell 1

theorem after2 {W2 W3 w : World} {r m1 m2 : Nat} {qs1 ps2 qs2 : Pairs} (n1 : m1 ≠ m2) (n2 : r ≠ m1) (n3 : r ≠ m2) (h0 : W2.cell? ⟨r, 0, none⟩ = some (.string gy)) (h1 : W2.cell? ⟨r, 15, none⟩ = some (.map (some m1))) (h2 : W2.cell? ⟨r, 16, none⟩ = some (.map (some m2)))
    (b1 : MB W2 m1 qs1) (b2 : MB W2 m2 ps2) (hc : Chg [m1, m2] w W2) (W2' : World) (hW : W2'.heap = W2.heap ∧ W2'.os = W2.os ∧ W2'.tape = W2.tape ∧ W2'.output = W2.output)
    (h : ChangeMaps.setBlock W2' m2 (.map (entsF 0 qs2).toArray qs2.length) = W3) : Rdr W3 r m1 m2 qs1 qs2 ∧ Chg [m1, m2] w W3 := by
  obtain ⟨hW, hW2, hW3, hW4⟩ := hW
  have c : Chg [m2] W2 W2' := ⟨hW2, hW3, hW4, by rw [hW]; exact Nat.le_refl _, fun k _ _ => by rw [hW]⟩
  have c' : Chg [m1, m2] W2 W2' := ⟨hW2, hW3, hW4, by rw [hW]; exact Nat.le_refl _, fun k _ _ => by rw [hW]⟩
  have e : ∀ i, W2'.cell? ⟨r, i, none⟩ = W2.cell? ⟨r, i, none⟩ := fun i => by simp [World.cell?, hW]
  have hl : m2 < W2'.heap.size := by rw [hW]; exact b2.lt
  subst h
  refine ⟨⟨?_, ?_, ?_, ?_, MB.put hl qs2, n1, n2, n3⟩, hc.trans (c'.trans (chg_setBlock (by simp) _))⟩
  · rw [cell_setBlock _ _ _ n3, e]; exact h0
  · rw [cell_setBlock _ _ _ n3, e]; exact h1
  · rw [cell_setBlock _ _ _ n3, e]; exact h2
  · exact b1.chg (S := [m2]) (c.trans (chg_setBlock (by simp) _)) (by simpa using n1)

set_option maxHeartbeats 1600000 in
theorem alias_ok (r m1 m2 : Nat) (ps1 ps2 qs1 qs2 : Pairs) (name text kd : ByteArray) (line : Int) (w : World) (hR : Rdr w r m1 m2 ps1 ps2)
    (o1 o2 : Option ByteArray) (hl1 : lk ps1 name = o1) (hl2 : lk ps2 text = o2)
    (ho1 : (o1.isSome && !((o1.getD ⟨#[]⟩).toList == text.toList)) = false) (ho2 : (o2.isSome && !((o2.getD ⟨#[]⟩).toList == name.toList)) = false)
    (hp1 : ∀ wx, MB wx m1 ps1 → (putHeld 47 (.map (some m1)) (.string name) (.string text)).run Ybaf.prog wx = .ok () (ChangeMaps.setBlock wx m1 (.map (entsF 0 qs1).toArray qs1.length)))
    (hp2 : ∀ wx, MB wx m2 ps2 → (putHeld 47 (.map (some m2)) (.string text) (.string name)).run Ybaf.prog wx = .ok () (ChangeMaps.setBlock wx m2 (.map (entsF 0 qs2).toArray qs2.length))) :
    Calls Ybaf.prog 8 #[.pointer (some ⟨r, 0, none⟩), .string name, .agg #[.string kd, .string text, .int .i64 line]] w fun e w' => e = .returned .nilIface ∧ Rdr w' r m1 m2 qs1 qs2 ∧ Chg [m1, m2] w w' := by
  have hfile := hR.file
  have hc1 := hR.c1
  have hc2 := hR.c2
  have L1 : (lookHeld 47 (.map (some m1)) (.string name) true).run Ybaf.prog (w.alloc (.cells #[.string kd, .string text, .int .i64 line] 34)) = .ok (.tuple #[.string (o1.getD ⟨#[]⟩), .bool o1.isSome]) (w.alloc (.cells #[.string kd, .string text, .int .i64 line] 34)) := by
    have := run_look (hR.b1.alloc (.cells #[.string kd, .string text, .int .i64 line] 34)) name true
    rw [hl1] at this
    exact this
  have L2 : ∀ n, (lookHeld 47 (.map (some m2)) (.string text) true).run Ybaf.prog ((w.alloc (.cells #[.string kd, .string text, .int .i64 line] 34)).drewN n) = .ok (.tuple #[.string (o2.getD ⟨#[]⟩), .bool o2.isSome]) ((w.alloc (.cells #[.string kd, .string text, .int .i64 line] 34)).drewN n) := by
    intro n
    have hh : MB ((w.alloc (.cells #[.string kd, .string text, .int .i64 line] 34)).drewN n) m2 ps2 := hR.b2.alloc (.cells #[.string kd, .string text, .int .i64 line] 34)
    have := run_look hh text true
    rw [hl2] at this
    exact this
  have U1 : ∀ n, (putHeld 47 (.map (some m1)) (.string name) (.string text)).run Ybaf.prog ((w.alloc (.cells #[.string kd, .string text, .int .i64 line] 34)).drewN n) = .ok () (ChangeMaps.setBlock ((w.alloc (.cells #[.string kd, .string text, .int .i64 line] 34)).drewN n) m1 (.map (entsF 0 qs1).toArray qs1.length)) :=
    fun n => hp1 _ (hR.b1.alloc (.cells #[.string kd, .string text, .int .i64 line] 34))
  have hr := World.block_lt_of_cell? _ _ hfile
  have hr1 : r < w.heap.size + 1 := by have : r < w.heap.size := hr; omega
  have N1 : m1 < w.heap.size := hR.b1.lt
  have N2 : m2 < w.heap.size := hR.b2.lt
  go_enter Ybaf.func8, Ybaf.ntmps8
  rcases o1 with _ | o1
  · simp at L1
    go_wp2
    rcases o2 with _ | o2
    · simp at L2
      go_quiet (fail)
      clear L1 L2
      go_wp2
      go_region
      generalize hW2 : ChangeMaps.setBlock ((w.alloc (.cells #[.string kd, .string text, .int .i64 line] 34)).drewN (nq + 1)) m1 (.map (entsF 0 qs1).toArray qs1.length) = W2
      obtain ⟨g1, g2, g3, g4, g5, g6, g7⟩ := after1 hR hW2
      have U2 : (putHeld 47 (.map (some m2)) (.string text) (.string name)).run Ybaf.prog W2.drew = .ok () (ChangeMaps.setBlock W2.drew m2 (.map (entsF 0 qs2).toArray qs2.length)) := hp2 _ g6
      have HR := hide (after2 hR.n1 hR.n2 hR.n3 g1 g2 g3 g5 g6 g7 W2.drew ⟨rfl, rfl, rfl, rfl⟩ (qs2 := qs2) rfl)
      clear hW2 g1 g2 g5 g6 g7 U1 hp1 hp2 hR hfile hc1 hc2 N1 N2
      go_wp2
      go_region
      go_wp2
      go_ret
      exact ⟨rfl, HR.out⟩
    · simp at L2 ho2
      go_quiet (fail)
      clear L1 L2
      go_wp2
      go_region
      generalize hW2 : ChangeMaps.setBlock ((w.alloc (.cells #[.string kd, .string text, .int .i64 line] 34)).drewN (nq + 1)) m1 (.map (entsF 0 qs1).toArray qs1.length) = W2
      obtain ⟨g1, g2, g3, g4, g5, g6, g7⟩ := after1 hR hW2
      have U2 : (putHeld 47 (.map (some m2)) (.string text) (.string name)).run Ybaf.prog W2.drew = .ok () (ChangeMaps.setBlock W2.drew m2 (.map (entsF 0 qs2).toArray qs2.length)) := hp2 _ g6
      have HR := hide (after2 hR.n1 hR.n2 hR.n3 g1 g2 g3 g5 g6 g7 W2.drew ⟨rfl, rfl, rfl, rfl⟩ (qs2 := qs2) rfl)
      clear hW2 g1 g2 g5 g6 g7 U1 hp1 hp2 hR hfile hc1 hc2 N1 N2
      go_wp2
      go_region
      go_wp2
      go_ret
      exact ⟨rfl, HR.out⟩
  · simp at L1 ho1
    go_wp2
    rcases o2 with _ | o2
    · simp at L2
      go_quiet (fail)
      clear L1 L2
      go_wp2
      go_region
      generalize hW2 : ChangeMaps.setBlock ((w.alloc (.cells #[.string kd, .string text, .int .i64 line] 34)).drewN (nq + 1)) m1 (.map (entsF 0 qs1).toArray qs1.length) = W2
      obtain ⟨g1, g2, g3, g4, g5, g6, g7⟩ := after1 hR hW2
      have U2 : (putHeld 47 (.map (some m2)) (.string text) (.string name)).run Ybaf.prog W2.drew = .ok () (ChangeMaps.setBlock W2.drew m2 (.map (entsF 0 qs2).toArray qs2.length)) := hp2 _ g6
      have HR := hide (after2 hR.n1 hR.n2 hR.n3 g1 g2 g3 g5 g6 g7 W2.drew ⟨rfl, rfl, rfl, rfl⟩ (qs2 := qs2) rfl)
      clear hW2 g1 g2 g5 g6 g7 U1 hp1 hp2 hR hfile hc1 hc2 N1 N2
      go_wp2
      go_region
      go_wp2
      go_ret
      exact ⟨rfl, HR.out⟩
    · simp at L2 ho2
      go_quiet (fail)
      clear L1 L2
      go_wp2
      go_region
      generalize hW2 : ChangeMaps.setBlock ((w.alloc (.cells #[.string kd, .string text, .int .i64 line] 34)).drewN (nq + 1)) m1 (.map (entsF 0 qs1).toArray qs1.length) = W2
      obtain ⟨g1, g2, g3, g4, g5, g6, g7⟩ := after1 hR hW2
      have U2 : (putHeld 47 (.map (some m2)) (.string text) (.string name)).run Ybaf.prog W2.drew = .ok () (ChangeMaps.setBlock W2.drew m2 (.map (entsF 0 qs2).toArray qs2.length)) := hp2 _ g6
      have HR := hide (after2 hR.n1 hR.n2 hR.n3 g1 g2 g3 g5 g6 g7 W2.drew ⟨rfl, rfl, rfl, rfl⟩ (qs2 := qs2) rfl)
      clear hW2 g1 g2 g5 g6 g7 U1 hp1 hp2 hR hfile hc1 hc2 N1 N2
      go_wp2
      go_region
      go_wp2
      go_ret
      exact ⟨rfl, HR.out⟩

end Go.Proofs.YbulkcicwFmt
