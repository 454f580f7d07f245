/-
  THE WALK of readRoles (16).
-/
import Derived.Test.Qxb6605748aFmtList
import Derived.Lib.SliceRun
namespace Go.Proofs.Qxb6605748aFmt
open Go.RowKit

/-- An argument as readArgument reads it. -/
structure Arg where
  kind : ByteArray
  roles : Option (List ByteArray)
  ats : Option (List Int)
  count : Int
  pos : Int

abbrev rolesName : ByteArray := ⟨#[97, 32, 108, 105, 115, 116, 32, 111, 102, 32, 114, 111, 108, 101, 115]⟩

/-- A slice of strings, of ints, that the call made; or nil. -/
def SlS (w : World) (base : Nat) (v : Value) : Option (List ByteArray) → Prop
  | none => v = .slice none 0 0
  | some L => ∃ g c, v = .slice (some ⟨g, 0, none⟩) L.length c ∧ base ≤ g ∧ g < w.heap.size ∧ Strs w g 0 L.length (fun j => L.getD j ⟨#[]⟩)
def SlI (w : World) (base : Nat) (v : Value) : Option (List Int) → Prop
  | none => v = .slice none 0 0
  | some L => ∃ g c, v = .slice (some ⟨g, 0, none⟩) L.length c ∧ base ≤ g ∧ g < w.heap.size ∧ Ints w g 0 L.length (fun j => L.getD j 0)

theorem SlS.bx {w w' : World} {base base' D C : Nat} {v : Value} {o : Option (List ByteArray)} (h : SlS w base v o) (hb : Bx D C w w') (hD : w.heap.size ≤ D) (hC : C < base) (hbb : base' ≤ base) : SlS w' base' v o := by
  cases o with
  | none => exact h
  | some L =>
    obtain ⟨g, c, e, h1, h2, h3⟩ := h
    exact ⟨g, c, e, by omega, Nat.lt_of_lt_of_le h2 hb.size, fun j hj => (hb.cell (p := ⟨g, 0 + j, none⟩) (by show g < D; omega) (by show g ≠ C; omega)).trans (h3 j hj)⟩
theorem SlI.bx {w w' : World} {base base' D C : Nat} {v : Value} {o : Option (List Int)} (h : SlI w base v o) (hb : Bx D C w w') (hD : w.heap.size ≤ D) (hC : C < base) (hbb : base' ≤ base) : SlI w' base' v o := by
  cases o with
  | none => exact h
  | some L =>
    obtain ⟨g, c, e, h1, h2, h3⟩ := h
    exact ⟨g, c, e, by omega, Nat.lt_of_lt_of_le h2 hb.size, fun j hj => (hb.cell (p := ⟨g, 0 + j, none⟩) (by show g < D; omega) (by show g ≠ C; omega)).trans (h3 j hj)⟩

/-- What a call leaves that hands back an argument, or an error. -/
def ArgBack (o : Option Arg) (C B n k : Nat) (w : World) (e : Ending) (w' : World) : Prop :=
  (match o with
    | some a => ∃ rv av, e = .returned (.tuple #[argVal a.kind rv av a.count a.pos, .nilIface]) ∧ SlS w' w.heap.size rv a.roles ∧ SlI w' w.heap.size av a.ats
    | none => ∃ p, e = .returned (.tuple #[noArg, .iface 52 p])) ∧ Bx w.heap.size C w w' ∧ Cur w' C B n k

/-- The argument that a list gives. -/
def rolesArg (r : Option (List ByteArray × List Int)) (pos : Int) : Option Arg :=
  match r with
  | some ([], _) => none
  | some (x :: R, Q) => some ⟨rolesName, some (x :: R), some Q, 0, pos⟩
  | none => none

theorem strs_of_owns {w : World} {base : Nat} {v : Value} {L : List ByteArray} (h : w.ownsRow base 9 1 v L.length (L.map Value.string)) (hL : 0 < L.length) :
    ∃ g c, v = .slice (some ⟨g, 0, none⟩) L.length c ∧ base ≤ g ∧ g < w.heap.size ∧ Strs w g 0 L.length (fun j => L.getD j ⟨#[]⟩) := by
  obtain ⟨g, cap, rfl, h1, h2⟩ := h.form hL
  refine ⟨g, cap, rfl, h1, h2, fun j hj => ?_⟩
  rw [Nat.zero_add, h.cellAt j (by omega)]
  simp [List.getD, hj]
theorem ints_of_owns {w : World} {base : Nat} {v : Value} {L : List Int} (h : w.ownsRow base 3 1 v L.length (L.map (Value.int .i64))) (hL : 0 < L.length) :
    ∃ g c, v = .slice (some ⟨g, 0, none⟩) L.length c ∧ base ≤ g ∧ g < w.heap.size ∧ Ints w g 0 L.length (fun j => L.getD j 0) := by
  obtain ⟨g, cap, rfl, h1, h2⟩ := h.form hL
  refine ⟨g, cap, rfl, h1, h2, fun j hj => ?_⟩
  rw [Nat.zero_add, h.cellAt j (by omega)]
  simp [List.getD, hj]
theorem Strs.bx {w w' : World} {b off n D C : Nat} {S : Nat → ByteArray} (h : Strs w b off n S) (hb : Bx D C w w') (hD : b < D) (hC : b ≠ C) : Strs w' b off n S := fun j hj => by
  rw [hb.cell (p := ⟨b, off + j, none⟩) hD hC]; exact h j hj
theorem Ints.bx {w w' : World} {b off n D C : Nat} {K : Nat → Int} (h : Ints w b off n K) (hb : Bx D C w w') (hD : b < D) (hC : b ≠ C) : Ints w' b off n K := fun j hj => by
  rw [hb.cell (p := ⟨b, off + j, none⟩) hD hC]; exact h j hj
theorem bx_five (w1 : World) (D r : Nat) (v0 v1 v2 v3 v4 : Value) :
    Bx D r w1 (((((w1.setCell ⟨r, 0, none⟩ v0).setCell ⟨r, 1, none⟩ v1).setCell ⟨r, 2, none⟩ v2).setCell ⟨r, 3, none⟩ v3).setCell ⟨r, 4, none⟩ v4) :=
  ((((Bx.refl D r w1).setC 0 v0).setC 1 v1).setC 2 v2 |>.setC 3 v3).setC 4 v4
theorem len_zero {w : World} {base e size : Nat} {v : Value} {xs : List Value} (h : w.ownsRow base e size v 0 xs) : ∃ ao c, v = .slice ao 0 c := by
  rcases h.2 with ⟨h, _⟩ | ⟨g, cap, cur, h, _⟩
  · exact ⟨_, _, h⟩
  · exact ⟨_, _, h⟩

theorem start_build (t : Tok) (C B n k : Nat) (T : Nat → Tok) (w : World) (hT : Toks w B n T) (hC : Cur w C B n k) (hk : k < n) (hBC : B ≠ C) :
    Build ((((w.alloc (.cells #[.pointer (some ⟨C, 0, none⟩)] 38)).alloc (.cells #[.int .i64 t.kind, .string t.text, .int .i64 t.pos, .int .i64 t.fin] 37)).alloc (.cells #[.string ⟨#[]⟩, .slice none 0 0, .slice none 0 0, .int .i64 0, .int .i64 0] 43)).alloc (.cells #[.string rolesName, .slice none 0 0, .slice none 0 0, .int .i64 0, .int .i64 t.pos] 43)) w.heap.size (w.heap.size + 1 + 1 + 1) C B n k (w.heap.size + 4) T rolesName t.pos [] [] (.slice none 0 0) (.slice none 0 0) := by
  have hCw := hC.lt
  have hBw := hT.lt (by omega)
  have hb : Below w.heap.size w ((((w.alloc (.cells #[.pointer (some ⟨C, 0, none⟩)] 38)).alloc (.cells #[.int .i64 t.kind, .string t.text, .int .i64 t.pos, .int .i64 t.fin] 37)).alloc (.cells #[.string ⟨#[]⟩, .slice none 0 0, .slice none 0 0, .int .i64 0, .int .i64 0] 43)).alloc (.cells #[.string rolesName, .slice none 0 0, .slice none 0 0, .int .i64 0, .int .i64 t.pos] 43)) := ((((Below.refl w.heap.size w).alloc (Nat.le_refl _) _).alloc (by simp) _).alloc (by simp; try omega) _).alloc (by simp; try omega) _
  refine ⟨?_, hT.bx (D := w.heap.size) (C := w.heap.size) (Bx.of hb) hBw (by omega), hC.below hb hCw, ?_, World.ownsRow_nil _ _ _ _, World.ownsRow_nil _ _ _ _, by simp, by omega, by omega, by omega, by omega, by omega, by omega, by omega, by omega, hBC⟩
  · go_simp
  · rw [show w.heap.size + 1 + 1 + 1 = (((w.alloc (.cells #[.pointer (some ⟨C, 0, none⟩)] 38)).alloc (.cells #[.int .i64 t.kind, .string t.text, .int .i64 t.pos, .int .i64 t.fin] 37)).alloc (.cells #[.string ⟨#[]⟩, .slice none 0 0, .slice none 0 0, .int .i64 0, .int .i64 0] 43)).heap.size by simp]
    exact heap_alloc_new _ _

set_option maxRecDepth 100000 in
set_option maxHeartbeats 2000000 in
theorem roles_calls (t : Tok) (C B n k : Nat) (T : Nat → Tok) (w : World) (hT : Toks w B n T) (hC : Cur w C B n k) (hk : k < n) (hn : n ≤ 65537) (F : Fit T n) (hBC : B ≠ C) :
    Calls Tryf.prog 16 #[.pointer (some ⟨C, 0, none⟩), t.val] w (ArgBack (rolesArg (listRun T n k).1 t.pos) C B n (listRun T n k).2 w) := by
  have hCw := hC.lt
  have hBw := hT.lt (by omega)
  have HT := hide hT
  have HC := hide hC
  clear hT hC
  have HS := hide (start_build t C B n k T w HT.out HC.out hk hBC)
  go_enter Tryf.func16, Tryf.ntmps16
  go_wp2_with fail
  refine (list_calls _ _ C B n k _ T rolesName t.pos _ _ _ HS.out hk hn F).mono ?_
  rintro e w1 ⟨hcase, h2⟩
  have hc : ∀ b o, b < w.heap.size + 4 → b ≠ C → b ≠ w.heap.size + 1 + 1 + 1 → w1.cell? ⟨b, o, none⟩ = ((((w.alloc (.cells #[.pointer (some ⟨C, 0, none⟩)] 38)).alloc (.cells #[.int .i64 t.kind, .string t.text, .int .i64 t.pos, .int .i64 t.fin] 37)).alloc (.cells #[.string ⟨#[]⟩, .slice none 0 0, .slice none 0 0, .int .i64 0, .int .i64 0] 43)).alloc (.cells #[.string rolesName, .slice none 0 0, .slice none 0 0, .int .i64 0, .int .i64 t.pos] 43)).cell? ⟨b, o, none⟩ := fun b o h1 hC hA => World.cell?_of_block (h2.block b h1 hC hA)
  have hf : ∀ b o, b < w.heap.size + 4 → b ≠ C → b ≠ w.heap.size + 1 + 1 + 1 → w1.frozen? ⟨b, o, none⟩ = ((((w.alloc (.cells #[.pointer (some ⟨C, 0, none⟩)] 38)).alloc (.cells #[.int .i64 t.kind, .string t.text, .int .i64 t.pos, .int .i64 t.fin] 37)).alloc (.cells #[.string ⟨#[]⟩, .slice none 0 0, .slice none 0 0, .int .i64 0, .int .i64 0] 43)).alloc (.cells #[.string rolesName, .slice none 0 0, .slice none 0 0, .int .i64 0, .int .i64 t.pos] 43)).frozen? ⟨b, o, none⟩ := fun b o h1 hC hA => World.frozen?_of_block (h2.block b h1 hC hA)
  have hsz : w.heap.size + 4 ≤ w1.heap.size := by have := h2.size; simpa using this
  have hz1 : w.heap.size + 1 < w1.heap.size := by omega
  have hz2 : w.heap.size + 1 + 1 < w1.heap.size := by omega
  have hz3 : w.heap.size + 1 + 1 + 1 < w1.heap.size := by omega
  have hne0 : w.heap.size ≠ C := by omega
  have hne1 : w.heap.size + 1 ≠ C := by omega
  have hne2 : w.heap.size + 1 + 1 ≠ C := by omega
  have hb : Below w.heap.size w ((((w.alloc (.cells #[.pointer (some ⟨C, 0, none⟩)] 38)).alloc (.cells #[.int .i64 t.kind, .string t.text, .int .i64 t.pos, .int .i64 t.fin] 37)).alloc (.cells #[.string ⟨#[]⟩, .slice none 0 0, .slice none 0 0, .int .i64 0, .int .i64 0] 43)).alloc (.cells #[.string rolesName, .slice none 0 0, .slice none 0 0, .int .i64 0, .int .i64 t.pos] 43)) := ((((Below.refl w.heap.size w).alloc (Nat.le_refl _) _).alloc (by simp) _).alloc (by simp; try omega) _).alloc (by simp; try omega) _
  have HB : Hid (Bx w.heap.size C w w1) := (Bx.of hb).trans ⟨h2.os, h2.tape, h2.output, h2.size, fun b hb' hC => h2.block b (by omega) hC (by omega)⟩
  clear hb h2 HS HT HC
  rcases hcase with ⟨R, Q, rv, av, hr, rfl, hRQ, hB⟩ | ⟨hr, ⟨p, rfl⟩, hcur⟩
  · have HR := hide hr
    have HC1 := hide hB.cur
    have hA := hB.arg
    have a0 : w1.cell? ⟨w.heap.size + 1 + 1 + 1, 0, none⟩ = some (.string rolesName) := by simp [World.cell?, hA]
    have a1 : w1.cell? ⟨w.heap.size + 1 + 1 + 1, 1, none⟩ = some rv := by simp [World.cell?, hA]
    have a2 : w1.cell? ⟨w.heap.size + 1 + 1 + 1, 2, none⟩ = some av := by simp [World.cell?, hA]
    have a3 : w1.cell? ⟨w.heap.size + 1 + 1 + 1, 3, none⟩ = some (.int .i64 0) := by simp [World.cell?, hA]
    have a4 : w1.cell? ⟨w.heap.size + 1 + 1 + 1, 4, none⟩ = some (.int .i64 t.pos) := by simp [World.cell?, hA]
    have HBB := hide hB
    clear hA hB hr
    cases R with
    | nil =>
      obtain rfl : Q = [] := List.eq_nil_of_length_eq_zero (by simpa using hRQ.symm)
      have hra := hide (show rolesArg (listRun T n k).1 t.pos = none by rw [HR.out]; rfl)
      obtain ⟨ao, co, hv⟩ := len_zero HBB.out.roles
      subst hv
      clear HBB HR hRQ
      go_wp2
      go_region
      go_wp2
      exact bodyPost_ret (v := .tuple #[noArg, .iface 52 (.pointer (some ⟨w1.heap.size, 0, none⟩))]) (by simp [results, Tryf.results16, go_sem, hc, hz2, hne2]) rfl ⟨by rw [hra.out]; exact ⟨_, rfl⟩, HB.out.trans (Bx.of ((below_five (Below.refl _ _) (by omega) _ _ _ _ _).alloc (by simp; omega) _).drew), HC1.out.below ((below_five (Below.refl _ _) (by omega) _ _ _ _ _).alloc (by simp; omega) _).drew hCw⟩
    | cons x R =>
      have hra := hide (show rolesArg (listRun T n k).1 t.pos = some ⟨rolesName, some (x :: R), some Q, 0, t.pos⟩ by rw [HR.out]; rfl)
      obtain ⟨g1, c1, hv1, hg1, hg1', hS1⟩ := strs_of_owns HBB.out.roles (by simp)
      obtain ⟨g2, c2, hv2, hg2, hg2', hS2⟩ := ints_of_owns HBB.out.ats (by rw [← hRQ]; simp)
      subst hv1
      subst hv2
      have HS1 := hide hS1
      have HS2 := hide hS2
      clear hS1 hS2 HBB HR hRQ
      have hL0 : ((((x :: R).length : Nat) : Int) == 0) = false := by simp; omega
      generalize hL : (x :: R).length = L at *
      have HL := hide hL
      clear hL
      go_wp2
      exact bodyPost_ret (v := .tuple #[argVal rolesName (.slice (some ⟨g1, 0, none⟩) L c1) (.slice (some ⟨g2, 0, none⟩) Q.length c2) 0 t.pos, .nilIface]) (by simp [results, Tryf.results16, go_sem, hc, hne2]) rfl
        ⟨by rw [hra.out]; exact ⟨_, _, rfl, ⟨g1, c1, by rw [HL.out], by omega, by simpa using hg1', by rw [HL.out]; exact HS1.out.bx (bx_five _ _ _ _ _ _ _ _) hg1' (by omega)⟩, ⟨g2, c2, rfl, by omega, by simpa using hg2', HS2.out.bx (bx_five _ _ _ _ _ _ _ _) hg2' (by omega)⟩⟩, HB.out.trans (Bx.of (below_five (Below.refl _ _) (by omega) _ _ _ _ _)), HC1.out.below (below_five (Below.refl _ _) (by omega) _ _ _ _ _) hCw⟩
  · have HR := hide hr
    have HC1 := hide hcur
    have hra := hide (show rolesArg (listRun T n k).1 t.pos = none by rw [HR.out]; rfl)
    clear hr hcur
    go_wp2
    exact bodyPost_ret (v := .tuple #[noArg, .iface 52 p]) (by simp [results, Tryf.results16, go_sem, hc, hne2]) rfl ⟨by rw [hra.out]; exact ⟨_, rfl⟩, HB.out.trans (Bx.of (below_five (Below.refl _ _) (by omega) _ _ _ _ _)), HC1.out.below (below_five (Below.refl _ _) (by omega) _ _ _ _ _) hCw⟩
end Go.Proofs.Qxb6605748aFmt
