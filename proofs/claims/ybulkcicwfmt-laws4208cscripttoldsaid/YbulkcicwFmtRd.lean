import Derived.Test.YbulkcicwFmtFns
namespace Go.Proofs.YbulkcicwFmt
open Go.RowKit Go.Extern.Stop Go.Stop Go.Extern
set_option linter.unusedVariables false

def lenHeld (ty : TypeId) (args : Array Value) : Sem Value := Builtin.len_ #[47] ty args
theorem len_held (ty : TypeId) (args : Array Value) : Builtin.len_ #[47] ty args = lenHeld ty args := rfl
attribute [local go_sem ↓] look_held len_held

theorem Rdr.below {w w' : World} {r m1 m2 : Nat} {ps1 ps2 : Pairs} (h : Rdr w r m1 m2 ps1 ps2) (hb : Below w.heap.size w w') : Rdr w' r m1 m2 ps1 ps2 :=
  ⟨cell_later hb h.file, cell_later hb h.c1, cell_later hb h.c2, h.b1.chg (S := []) (Chg.ofBelow hb) (by simp), h.b2.chg (S := []) (Chg.ofBelow hb) (by simp), h.n1, h.n2, h.n3⟩

/-- What the law's text asks of a reader: its reads, as equations. -/
theorem Rdr.reads {w : World} {r m1 m2 : Nat} {ps1 ps2 : Pairs} (h : Rdr w r m1 m2 ps1 ps2) :
    w.cell? ⟨r, 15, none⟩ = some (.map (some m1)) ∧ w.cell? ⟨r, 16, none⟩ = some (.map (some m2)) ∧
    (∀ k o c, lk ps1 k = o → (lookHeld 47 (.map (some m1)) (.string k) c).run Ybaf.prog w = .ok (got o c) w) ∧
    (∀ k o c, lk ps2 k = o → (lookHeld 47 (.map (some m2)) (.string k) c).run Ybaf.prog w = .ok (got o c) w) ∧
    (∀ ty, (lenHeld ty #[.map (some m1)]).run Ybaf.prog w = .ok (.int .i64 (ps1.length : Int)) w) ∧
    (∀ ty, (lenHeld ty #[.map (some m2)]).run Ybaf.prog w = .ok (.int .i64 (ps2.length : Int)) w) :=
  ⟨h.c1, h.c2, fun k o c e => e ▸ run_look h.b1 k c, fun k o c e => e ▸ run_look h.b2 k c, fun ty => run_len h.b1 ty, fun ty => run_len h.b2 ty⟩

theorem made (w : World) : Rdr (((w.alloc (.map #[] 0)).alloc (.map #[] 0)).alloc (.cells #[.string ⟨#[103, 46, 121]⟩, .slice none 0 0, .map none,
                      .slice none 0 0, .map none, .slice none 0 0, .string ⟨#[]⟩,
                      .int .i64 0, .int .i64 0, .string ⟨#[]⟩,
                      .int .i64 0, .string ⟨#[]⟩, .string ⟨#[]⟩,
                      .slice none 0 0, .map none, .map (some w.heap.size),
                      .map (some (w.heap.size + 1)), .slice none 0 0, .string ⟨#[]⟩,
                      .string ⟨#[]⟩, .int .i64 0, .int .i32 0, .map none,
                      .slice none 0 0, .map none, .int .i64 0] 53)) (w.heap.size + 1 + 1) w.heap.size (w.heap.size + 1) [] [] := by
  have hs : ((w.alloc (.map #[] 0)).alloc (.map #[] 0)).heap.size = w.heap.size + 1 + 1 := by simp
  have hb := Blk.new ((w.alloc (.map #[] 0)).alloc (.map #[] 0)) 53 [.string ⟨#[103, 46, 121]⟩, .slice none 0 0, .map none,
                      .slice none 0 0, .map none, .slice none 0 0, .string ⟨#[]⟩,
                      .int .i64 0, .int .i64 0, .string ⟨#[]⟩,
                      .int .i64 0, .string ⟨#[]⟩, .string ⟨#[]⟩,
                      .slice none 0 0, .map none, .map (some w.heap.size),
                      .map (some (w.heap.size + 1)), .slice none 0 0, .string ⟨#[]⟩,
                      .string ⟨#[]⟩, .int .i64 0, .int .i32 0, .map none,
                      .slice none 0 0, .map none, .int .i64 0]
  rw [hs] at hb
  have h2 := MB.new (w.alloc (.map #[] 0))
  rw [show (w.alloc (.map #[] 0)).heap.size = w.heap.size + 1 by simp] at h2
  exact ⟨hb.cell 0, hb.cell 15, hb.cell 16, ((MB.new w).alloc _).alloc _, h2.alloc _, by omega, by omega, by omega⟩

theorem alias_new (r m1 m2 : Nat) (ps1 ps2 : Pairs) (name text kd : ByteArray) (line : Int) (w : World) (hR : Rdr w r m1 m2 ps1 ps2) (h1 : lk ps1 name = none) (h2 : lk ps2 text = none) :
    Calls Ybaf.prog 8 #[.pointer (some ⟨r, 0, none⟩), .string name, .agg #[.string kd, .string text, .int .i64 line]] w fun e w' => e = .returned .nilIface ∧ Rdr w' r m1 m2 (ps1 ++ [(name, text)]) (ps2 ++ [(text, name)]) ∧ Chg [m1, m2] w w' :=
  alias_ok r m1 m2 ps1 ps2 _ _ name text kd line w hR none none h1 h2 rfl rfl (fun wx hx => by rw [List.length_append]; exact run_put_new hx name text h1) (fun wx hx => by rw [List.length_append]; exact run_put_new hx text name h2)

theorem alias_same (r m1 m2 : Nat) (ps1 ps2 : Pairs) (name text kd : ByteArray) (line : Int) (w : World) (hR : Rdr w r m1 m2 ps1 ps2) (h1 : lk ps1 name = some text) (h2 : lk ps2 text = some name) :
    Calls Ybaf.prog 8 #[.pointer (some ⟨r, 0, none⟩), .string name, .agg #[.string kd, .string text, .int .i64 line]] w fun e w' => e = .returned .nilIface ∧ Rdr w' r m1 m2 ps1 ps2 ∧ Chg [m1, m2] w w' :=
  alias_ok r m1 m2 ps1 ps2 _ _ name text kd line w hR (some text) (some name) h1 h2 (by simp) (by simp) (fun wx hx => run_put_same hx name text h1) (fun wx hx => run_put_same hx text name h2)

theorem Chg.ofSelf {S : List Nat} {w w' : World} (h : Chg S w w') {B : Nat} (hS : ∀ s ∈ S, B ≤ s) {w0 : World} (hb : Below B w0 w) (hB : B ≤ w0.heap.size) : Below B w0 w' :=
  hb.trans (h.below hS (Nat.le_trans hB hb.size))

theorem lk1_self (a v : ByteArray) : lk ([] ++ [(a, v)]) a = some v := by simp [lk, ix, (MapKept.bytes_beq a a).2 rfl]
theorem beq_no {a b : ByteArray} (h : a ≠ b) : (a == b) = false := by
  cases e : a == b with
  | false => rfl
  | true => exact absurd ((MapKept.bytes_beq a b).1 e) h
theorem lk1_ne {a k : ByteArray} (v : ByteArray) (h : k ≠ a) : lk ([] ++ [(a, v)]) k = none := by simp [lk, ix, beq_no h]
theorem list_no {a b : ByteArray} (h : a ≠ b) : (a.toList == b.toList) = false := by rw [← beq_toListBytes]; exact beq_no h

/-- One pair in the reader: what the law's text reads. -/
theorem Rdr.one {w : World} {r m1 m2 : Nat} {name t : ByteArray} (h : Rdr w r m1 m2 ([] ++ [(name, t)]) ([] ++ [(t, name)])) :
    w.cell? ⟨r, 15, none⟩ = some (.map (some m1)) ∧ w.cell? ⟨r, 16, none⟩ = some (.map (some m2)) ∧
    (lookHeld 47 (.map (some m1)) (.string name) false).run Ybaf.prog w = .ok (.string t) w ∧
    (lookHeld 47 (.map (some m2)) (.string t) false).run Ybaf.prog w = .ok (.string name) w ∧
    (∀ ty, (lenHeld ty #[.map (some m1)]).run Ybaf.prog w = .ok (.int .i64 1) w) ∧
    (∀ ty, (lenHeld ty #[.map (some m2)]).run Ybaf.prog w = .ok (.int .i64 1) w) ∧
    (∀ k, k ≠ name → (lookHeld 47 (.map (some m1)) (.string k) true).run Ybaf.prog w = .ok (.tuple #[.string ⟨#[]⟩, .bool false]) w) ∧
    (∀ k, k ≠ t → (lookHeld 47 (.map (some m2)) (.string k) true).run Ybaf.prog w = .ok (.tuple #[.string ⟨#[]⟩, .bool false]) w) := by
  obtain ⟨a1, a2, a3, a4, a5, a6⟩ := h.reads
  exact ⟨a1, a2, a3 _ _ _ (lk1_self _ _), a4 _ _ _ (lk1_self _ _), a5, a6, fun k hk => a3 _ _ _ (lk1_ne _ hk), fun k hk => a4 _ _ _ (lk1_ne _ hk)⟩

theorem add_x_ne (a : ByteArray) : a ++ (⟨#[120]⟩ : ByteArray) ≠ a := by
  intro e
  have := congrArg ByteArray.size e
  rw [ByteArray.size_append] at this
  have h1 : (⟨#[120]⟩ : ByteArray).size = 1 := rfl
  omega

end Go.Proofs.YbulkcicwFmt
