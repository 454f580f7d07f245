/-
  THE WALKS of the token cursor: advance (13), unquoted (14), unexpected (17), peek (18).
-/
import Derived.Test.Qxb6605748aFmtMem
import Derived.RegionTactic
import Derived.BigRegion
import Derived.Deep.RegionHeld3
namespace Go.Proofs.Qxb6605748aFmt
open Go.RowKit

theorem hide {p : Prop} (h : p) : Hid p := h

/-- An argument as constraintArg holds it: its kind's name, its two slices, its count, its offset. -/
abbrev argVal (kind : ByteArray) (roles ats : Value) (count pos : Int) : Value := .agg #[.string kind, roles, ats, .int .i64 count, .int .i64 pos]
abbrev noArg : Value := argVal ⟨#[]⟩ (.slice none 0 0) (.slice none 0 0) 0 0

/-- Five cells of a block of the call's own written. -/
theorem below_five {w w1 : World} {B r : Nat} (h : Below B w w1) (hr : B ≤ r) (v0 v1 v2 v3 v4 : Value) :
    Below B w (((((w1.setCell ⟨r, 0, none⟩ v0).setCell ⟨r, 1, none⟩ v1).setCell ⟨r, 2, none⟩ v2).setCell ⟨r, 3, none⟩ v3).setCell ⟨r, 4, none⟩ v4) :=
  ((((h.setCell hr _).setCell hr _).setCell hr _).setCell hr _).setCell hr _

structure Tok where
  kind : Int
  text : ByteArray
  pos : Int
  fin : Int

abbrev Tok.val (t : Tok) : Value := .agg #[.int .i64 t.kind, .string t.text, .int .i64 t.pos, .int .i64 t.fin]

/-- 'f().kind', 'f().text': a field of a token that a call handed back. -/
theorem field0 (k p e : Int) (s : ByteArray) (w : World) : (Instr.field 37 (.agg #[.int .i64 k, .string s, .int .i64 p, .int .i64 e]) 0).run Tryf.prog w = .ok (.int .i64 k) w := by kernel_rfl
theorem field1 (k p e : Int) (s : ByteArray) (w : World) : (Instr.field 37 (.agg #[.int .i64 k, .string s, .int .i64 p, .int .i64 e]) 1).run Tryf.prog w = .ok (.string s) w := by kernel_rfl

/-- The tokens lie in block B, four cells each. -/
def Toks (w : World) (B n : Nat) (T : Nat → Tok) : Prop := ∀ j, j < n →
  w.cell? ⟨B, j * 4, none⟩ = some (.int .i64 (T j).kind) ∧ w.cell? ⟨B, j * 4 + 1, none⟩ = some (.string (T j).text) ∧ w.cell? ⟨B, j * 4 + 2, none⟩ = some (.int .i64 (T j).pos) ∧ w.cell? ⟨B, j * 4 + 3, none⟩ = some (.int .i64 (T j).fin)
/-- The cursor in block C: its tokens, and where it stands. -/
structure Cur (w : World) (C B n k : Nat) : Prop where
  toks : w.cell? ⟨C, 0, none⟩ = some (.slice (some ⟨B, 0, none⟩) n n)
  next : w.cell? ⟨C, 1, none⟩ = some (.int .i64 k)
  free : w.frozen? ⟨C, 1, none⟩ = false

/-- Below block number B, and but for block C, w' is as w was. -/
structure Bx (B C : Nat) (w w' : World) : Prop where
  os : w'.os = w.os
  tape : w'.tape = w.tape
  output : w'.output = w.output
  size : w.heap.size ≤ w'.heap.size
  block : ∀ k, k < B → k ≠ C → w'.heap[k]? = w.heap[k]?

theorem Bx.of {B C : Nat} {w w' : World} (h : Below B w w') : Bx B C w w' := ⟨h.os, h.tape, h.output, h.size, fun k hk _ => h.block k hk⟩
theorem Bx.refl (B C : Nat) (w : World) : Bx B C w w := Bx.of (Below.refl B w)
theorem Bx.trans {B C : Nat} {a b c : World} (h : Bx B C a b) (k : Bx B C b c) : Bx B C a c :=
  ⟨k.os.trans h.os, k.tape.trans h.tape, k.output.trans h.output, Nat.le_trans h.size k.size, fun i hi hc => (k.block i hi hc).trans (h.block i hi hc)⟩
theorem Bx.mono {B B' C : Nat} {w w' : World} (h : Bx B C w w') (hB : B' ≤ B) : Bx B' C w w' := ⟨h.os, h.tape, h.output, h.size, fun k hk hc => h.block k (Nat.lt_of_lt_of_le hk hB) hc⟩
theorem Bx.setC {B C : Nat} {a w : World} (h : Bx B C a w) (o : Nat) (u : Value) : Bx B C a (w.setCell ⟨C, o, none⟩ u) :=
  ⟨h.os, h.tape, h.output, by simpa using h.size, fun k hk hc => (Below.heap_setCell w _ u k (by simpa using hc)).trans (h.block k hk hc)⟩
theorem Bx.setCell {B C : Nat} {a w : World} (h : Bx B C a w) {p : Addr} (hp : B ≤ p.block) (u : Value) : Bx B C a (w.setCell p u) :=
  ⟨h.os, h.tape, h.output, by simpa using h.size, fun k hk hc => (Below.heap_setCell w _ u k (by omega)).trans (h.block k hk hc)⟩
theorem Bx.below {B C : Nat} {w w' : World} (h : Bx B C w w') (hC : B ≤ C) : Below B w w' := ⟨h.os, h.tape, h.output, h.size, fun k hk => h.block k hk (by omega)⟩
theorem Bx.cell {B C : Nat} {w w' : World} (h : Bx B C w w') {p : Addr} (hp : p.block < B) (hc : p.block ≠ C) : w'.cell? p = w.cell? p := World.cell?_of_block (w := w) (h.block p.block hp hc)
theorem Bx.frozen {B C : Nat} {w w' : World} (h : Bx B C w w') {p : Addr} (hp : p.block < B) (hc : p.block ≠ C) : w'.frozen? p = w.frozen? p := World.frozen?_of_block (w := w) (h.block p.block hp hc)

theorem Toks.bx {w w' : World} {B n D C : Nat} {T : Nat → Tok} (h : Toks w B n T) (hb : Bx D C w w') (hB : B < D) (hC : B ≠ C) : Toks w' B n T := fun j hj => by
  rw [hb.cell (p := ⟨B, j * 4, none⟩) hB hC, hb.cell (p := ⟨B, j * 4 + 1, none⟩) hB hC, hb.cell (p := ⟨B, j * 4 + 2, none⟩) hB hC, hb.cell (p := ⟨B, j * 4 + 3, none⟩) hB hC]
  exact h j hj
theorem Cur.below {w w' : World} {B n C k D : Nat} (h : Cur w C B n k) (hb : Below D w w') (hC : C < D) : Cur w' C B n k :=
  ⟨(hb.cell (p := ⟨C, 0, none⟩) hC).trans h.toks, (hb.cell (p := ⟨C, 1, none⟩) hC).trans h.next, (hb.frozen (p := ⟨C, 1, none⟩) hC).trans h.free⟩
theorem Cur.lt {w : World} {B n C k : Nat} (h : Cur w C B n k) : C < w.heap.size := World.block_lt_of_cell? _ _ h.toks
theorem Cur.set {w : World} {B n C k : Nat} (h : Cur w C B n k) (k' : Nat) : Cur (w.setCell ⟨C, 1, none⟩ (.int .i64 k')) C B n k' :=
  ⟨(cell_set_ne (by decide) _).trans h.toks, World.cell?_setCell_same _ _ _ h.next, by rw [World.frozen?_setCell]; exact h.free⟩
theorem Toks.lt {w : World} {B n : Nat} {T : Nat → Tok} (h : Toks w B n T) (hn : 0 < n) : B < w.heap.size := World.block_lt_of_cell? _ _ (h 0 hn).1

/-- What a call that hands back a token leaves. -/
def TokBack (t : Tok) (C B n k : Nat) (w : World) (e : Ending) (w' : World) : Prop := e = .returned t.val ∧ Bx w.heap.size C w w' ∧ Cur w' C B n k
def PeekBack (t : Tok) (w : World) (e : Ending) (w' : World) : Prop := e = .returned t.val ∧ Below w.heap.size w w'

set_option maxRecDepth 100000 in
theorem unquoted_calls (t : Tok) (w : World) (h2 : 2 ≤ t.text.size) (hm : t.text.size ≤ 1048576) :
    Calls Tryf.prog 14 #[t.val] w fun e w' => e = .returned (.string (t.text.extract 1 (t.text.size - 1))) ∧ w' = w.alloc (.cells #[.int .i64 t.kind, .string t.text, .int .i64 t.pos, .int .i64 t.fin] 37) := by
  have hsl : ∀ W : World, (Instr.slice 9 (.string t.text) (some (.int .i64 1)) (some (.int .i64 ((t.text.size : Int) - 1))) none).run Tryf.prog W = .ok (.string (t.text.extract 1 (t.text.size - 1))) W := fun W => by
    rw [run_slice_string W 9 t.text .i64 .i64 1 _ Tryf.underlying9 (by omega) (by omega) (by omega)]
    rw [show ((t.text.size : Int) - 1).toNat = t.text.size - 1 from by omega]
    rfl
  go_enter Tryf.func14, Tryf.ntmps14
  go_wp2
  go_ret
  exact ⟨rfl, rfl⟩

/-- What a call that hands back an error of the package's own make leaves. -/
def ErrBack (w : World) (e : Ending) (w' : World) : Prop := (∃ p, e = .returned (.iface 52 p)) ∧ Below w.heap.size w w'

theorem unexpected_calls (t : Tok) (w : World) (hm : t.text.size ≤ 1048576) : Calls Tryf.prog 17 #[t.val] w (ErrBack w) := by
  go_enter Tryf.func17, Tryf.ntmps17
  go_wp2
  go_ret
  exact ⟨⟨_, rfl⟩, ((Below.refl _ _).alloc (Nat.le_refl _) _).alloc (by simp) _⟩

theorem peek_calls (C B n k : Nat) (T : Nat → Tok) (w : World) (hT : Toks w B n T) (hC : Cur w C B n k) (hk : k < n) (hn : n ≤ 65537) :
    Calls Tryf.prog 18 #[.pointer (some ⟨C, 0, none⟩)] w (PeekBack (T k) w) := by
  obtain ⟨t0, t1, t2, t3⟩ := hT k hk
  have c0 := hC.toks
  have c1 := hC.next
  have k0 : (0 : Int) ≤ (k : Int) := by omega
  have k1 : (k : Int) < (n : Int) := by omega
  have hBw := hT.lt (by omega)
  have hCw := hC.lt
  clear hT
  go_enter Tryf.func18, Tryf.ntmps18
  go_wp2
  go_region
  go_wp2
  exact bodyPost_ret (v := (T k).val) (by simp [results, Tryf.results18, go_sem]) rfl ⟨rfl, ((Below.refl _ _).alloc (Nat.le_refl _) _).drew⟩

set_option maxRecDepth 100000 in
theorem advance_end (C B n k : Nat) (T : Nat → Tok) (w : World) (hT : Toks w B n T) (hC : Cur w C B n k) (hk : k < n) (hn : n ≤ 65537) (hz : (T k).kind = 0) :
    Calls Tryf.prog 13 #[.pointer (some ⟨C, 0, none⟩)] w (TokBack (T k) C B n k w) := by
  obtain ⟨t0, t1, t2, t3⟩ := hT k hk
  have c0 := hC.toks
  have c1 := hC.next
  have k0 : (0 : Int) ≤ (k : Int) := by omega
  have k1 : (k : Int) < (n : Int) := by omega
  have hBw := hT.lt (by omega)
  have hCw := hC.lt
  have hBw' : B < w.heap.size + 1 := by omega
  have hCw' : C < w.heap.size + 1 := by omega
  have hz' : ((T k).kind != 0) = false := by simp [hz]
  have HZ : Hid ((T k).kind = 0) := hz
  clear hT hz
  go_enter Tryf.func13, Tryf.ntmps13
  go_wp2
  go_region
  go_wp2
  exact bodyPost_ret (v := (T k).val) (by simp [results, Tryf.results13, go_sem]) rfl ⟨rfl, Bx.of (((Below.refl _ _).alloc (Nat.le_refl _) _).alloc (by simp) _).drew, hC.below (((Below.refl _ _).alloc (Nat.le_refl _) _).alloc (by simp) _).drew hCw⟩

set_option maxRecDepth 100000 in
theorem advance_step (C B n k : Nat) (T : Nat → Tok) (w : World) (hT : Toks w B n T) (hC : Cur w C B n k) (hk : k < n) (hn : n ≤ 65537) (hz : (T k).kind ≠ 0) :
    Calls Tryf.prog 13 #[.pointer (some ⟨C, 0, none⟩)] w (TokBack (T k) C B n (k + 1) w) := by
  obtain ⟨t0, t1, t2, t3⟩ := hT k hk
  have c0 := hC.toks
  have c1 := hC.next
  have c2 := hC.free
  have k0 : (0 : Int) ≤ (k : Int) := by omega
  have k1 : (k : Int) < (n : Int) := by omega
  have hBw := hT.lt (by omega)
  have hCw := hC.lt
  have hBw' : B < w.heap.size + 1 := by omega
  have hCw' : C < w.heap.size + 1 := by omega
  have hz' : ((T k).kind != 0) = true := by simp [hz]
  clear hT hz
  go_enter Tryf.func13, Tryf.ntmps13
  go_wp2
  go_region
  go_wp2
  have hb : ∀ o1 o2 : Obj, Below w.heap.size (w.setCell ⟨C, 1, none⟩ (.int .i64 ((k : Int) + 1))) (((w.setCell ⟨C, 1, none⟩ (.int .i64 ((k : Int) + 1))).alloc o1).alloc o2).drew := fun o1 o2 => (((Below.refl _ _).alloc (by simp) _).alloc (by simp) _).drew
  exact bodyPost_ret (v := (T k).val) (by simp [results, Tryf.results13, go_sem]) rfl ⟨rfl, ((Bx.refl _ _ _).setC 1 _).trans (Bx.of (hb _ _)), (hC.set (k + 1)).below (hb _ _) hCw⟩
end Go.Proofs.Qxb6605748aFmt
