/-
  THE WALK of readCount (15); the closed facts for fmt.Sprintf (20), a plain stop.
-/
import Derived.Test.Qxb6605748aFmtTok
import Derived.Test.Qxb6605748aFmtAtoi
import Derived.Stop.CallBack
import Derived.Stop.IfaceNil
import Derived.RowKitTokens
import Derived.Deep.RegionWith
import GoSem.ClaimData
namespace Go.Proofs.Qxb6605748aFmt
open Go.RowKit Go.Extern.Stop Go.Stop Go.Extern

theorem call20 (args : Array Value) (w : World) : (callFunc 20 args).run Tryf.prog w = ((FmtStop.sprintf #[9, 112] #[9] args).run Tryf.prog w).andThen fun v w' => .ok (.value v) w' :=
  run_callFunc_extern Tryf.func20 (by kernel_rfl) (by kernel_rfl) (by kernel_rfl) (by kernel_rfl) args w
theorem guardF (name : String) (w : World) : (FmtStop.guard name).run Tryf.prog w = .ok () w := by kernel_rfl
theorem fmt0 : FmtStop.printed? ⟨#[37, 115, 32, 105, 115, 32, 110, 111, 116, 32, 97, 32, 99, 111, 117, 110, 116, 44, 32, 97, 32, 119, 104, 111, 108, 101, 32, 110, 117, 109, 98, 101, 114, 32, 102, 114, 111, 109, 32, 48, 32, 117, 112]⟩ 1 = some [(0, 115, false)] := by kernel_rfl
theorem fmt0r (w : World) : (FmtDoors.printed ⟨#[37, 115, 32, 105, 115, 32, 110, 111, 116, 32, 97, 32, 99, 111, 117, 110, 116, 44, 32, 97, 32, 119, 104, 111, 108, 101, 32, 110, 117, 109, 98, 101, 114, 32, 102, 114, 111, 109, 32, 48, 32, 117, 112]⟩ 1).run Tryf.prog w = .ok [(0, 115, false)] w := by kernel_rfl
def shape9 : List UInt8 := [12, 6, 0, 0, 0, 0, 0, 0, 0, 115, 116, 114, 105, 110, 103]
theorem op9_115 (name : String) (x : ByteArray) (w : World) : (FmtStop.operand name false 115 false (.iface 9 (.string x))).run Tryf.prog w = .ok (shape9, FmtStop.pack x.data.toList) w := by kernel_rfl
attribute [local go_sem] call20 guardF fmt0 fmt0r op9_115 field0 field1

abbrev countName : ByteArray := ⟨#[97, 32, 99, 111, 117, 110, 116]⟩

/-- What readCount leaves at a text: the count, or an error. -/
def CountBack (s : ByteArray) (pos : Int) (C B n k : Nat) (w : World) (e : Ending) (w' : World) : Prop :=
  ((∃ v, numOf s = some v ∧ 0 ≤ v ∧ e = .returned (.tuple #[argVal countName (.slice none 0 0) (.slice none 0 0) v pos, .nilIface])) ∨
   ((∀ v, numOf s = some v → v < 0) ∧ ∃ p, e = .returned (.tuple #[noArg, .iface 52 p]))) ∧ Bx w.heap.size C w w' ∧ Cur w' C B n k

theorem bcell {W w1 : World} (hb : Below W.heap.size W w1) : (∀ b o, b < W.heap.size → w1.cell? ⟨b, o, none⟩ = W.cell? ⟨b, o, none⟩) ∧ (∀ b o, b < W.heap.size → w1.frozen? ⟨b, o, none⟩ = W.frozen? ⟨b, o, none⟩) :=
  ⟨fun b o h => hb.cell (p := ⟨b, o, none⟩) h, fun b o h => hb.frozen (p := ⟨b, o, none⟩) h⟩

theorem below_two {w w1 : World} {B : Nat} (h : Below B w w1) (hB : B ≤ w1.heap.size) (o1 o2 : Obj) : Below B w ((w1.alloc o1).alloc o2).drew.drew :=
  ((h.alloc hB _).alloc (by simp; omega) _).drew.drew

set_option maxRecDepth 100000 in
set_option maxHeartbeats 2000000 in
theorem count_plain (F : Interp) (t : Tok) (C B n k : Nat) (hz : (t.kind == 20) = false) (w : World) (hF : F.answers w.tape) (hC : Cur w C B n k) (hs : t.text.size ≤ 1048576)
    (u0 u1 : TypeId) (x0 x1 : Value) (h0 : w.cell? ⟨0, 0, none⟩ = some (.iface u0 x0)) (h1 : w.cell? ⟨1, 0, none⟩ = some (.iface u1 x1)) :
    Calls Tryf.prog 15 #[.pointer (some ⟨C, 0, none⟩), t.val] w (CountBack (t.text) t.pos C B n k w) := by
  have hCw := hC.lt
  have hne1 : w.heap.size ≠ C := by omega
  have hne2 : w.heap.size + 1 ≠ C := by omega
  have hw0 : 0 < w.heap.size := World.block_lt_of_cell? _ _ h0
  have hw1 : 1 < w.heap.size := World.block_lt_of_cell? _ _ h1
  go_enter Tryf.func15, Tryf.ntmps15
  go_wp2_with fail
  refine (atoi_calls t.text _ (by omega) u0 u1 x0 x1 (by go_simp) (by go_simp)).mono ?_
  rintro e w1 ⟨v, ev, rfl, hb, hcase⟩
  have htape : w1.tape = w.tape := hb.tape
  have hsz : w.heap.size + 2 ≤ w1.heap.size := by have := hb.size; simpa using this
  have hB0 : Bx (w.heap.size + 2) C _ w1 := Bx.of (hb.mono (by simp))
  have hC1 : Cur w1 C B n k := hC.below ((((Below.refl _ w).alloc (Nat.le_refl _) _).alloc (by simp) _).trans (hb.mono (by simp; omega))) hCw
  clear hb h0 h1 hw0 hw1
  have hF1 : F.answers w1.tape := by rw [htape]; exact hF
  unfold Interp.answers at hF1
  have hz1 : w.heap.size < w1.heap.size := by omega
  have hz2 : w.heap.size + 1 < w1.heap.size := by omega
  have hc : ∀ b o, b < w.heap.size + 2 → b ≠ C → w1.cell? ⟨b, o, none⟩ = ((w.alloc (.cells #[.int .i64 t.kind, .string t.text, .int .i64 t.pos, .int .i64 t.fin] 37)).alloc (.cells #[.string ⟨#[]⟩, .slice none 0 0, .slice none 0 0, .int .i64 0, .int .i64 0] 43)).cell? ⟨b, o, none⟩ := fun b o h1 h2 => hB0.cell (p := ⟨b, o, none⟩) h1 h2
  have hf : ∀ b o, b < w.heap.size + 2 → b ≠ C → w1.frozen? ⟨b, o, none⟩ = ((w.alloc (.cells #[.int .i64 t.kind, .string t.text, .int .i64 t.pos, .int .i64 t.fin] 37)).alloc (.cells #[.string ⟨#[]⟩, .slice none 0 0, .slice none 0 0, .int .i64 0, .int .i64 0] 43)).frozen? ⟨b, o, none⟩ := fun b o h1 h2 => hB0.frozen (p := ⟨b, o, none⟩) h1 h2
  have HB : Hid (Bx w.heap.size C w w1) := (Bx.of (((Below.refl _ w).alloc (Nat.le_refl _) _).alloc (by simp) _)).trans (hB0.mono (by omega))
  have HC : Hid (Cur w1 C B n k) := hC1
  clear hF htape hsz hB0 hC1 hC
  rcases hcase with ⟨hnum, rfl⟩ | ⟨hnum, p, rfl⟩
  · by_cases hv : v < 0
    · have HV : Hid (∀ v, numOf (t.text) = some v → v < 0) := fun v' h => by rw [hnum] at h; cases h; exact hv
      clear hnum
      go_wp2_with fail
      go_region
      go_wp2
      exact bodyPost_ret (v := .tuple #[noArg, .iface 52 (.pointer (some ⟨w1.heap.size + 1, 0, none⟩))]) (by simp [results, Tryf.results15, go_sem, hc, hz1, hz2, hne2]) rfl ⟨Or.inr ⟨HV.out, _, rfl⟩, HB.out.trans (Bx.of (below_two (below_five (Below.refl _ _) (by omega) _ _ _ _ _) (by simp; omega) _ _)), HC.out.below (below_two (below_five (Below.refl _ _) (by omega) _ _ _ _ _) (by simp; omega) _ _) hCw⟩
    · have HN : Hid (numOf (t.text) = some v) := hnum
      clear hnum
      go_wp2
      exact bodyPost_ret (v := .tuple #[argVal countName (.slice none 0 0) (.slice none 0 0) v t.pos, .nilIface]) (by simp [results, Tryf.results15, go_sem, hc, hne2]) rfl ⟨Or.inl ⟨v, HN.out, by omega, rfl⟩, HB.out.trans (Bx.of (below_five (Below.refl _ _) (by omega) _ _ _ _ _)), HC.out.below (below_five (Below.refl _ _) (by omega) _ _ _ _ _) hCw⟩
  · have HV : Hid (∀ v, numOf (t.text) = some v → v < 0) := fun v' h => by rw [hnum] at h; cases h
    clear hnum
    go_wp2_with fail
    go_region
    go_wp2
    exact bodyPost_ret (v := .tuple #[noArg, .iface 52 (.pointer (some ⟨w1.heap.size + 1, 0, none⟩))]) (by simp [results, Tryf.results15, go_sem, hc, hz1, hz2, hne2]) rfl ⟨Or.inr ⟨HV.out, _, rfl⟩, HB.out.trans (Bx.of (below_two (below_five (Below.refl _ _) (by omega) _ _ _ _ _) (by simp; omega) _ _)), HC.out.below (below_two (below_five (Below.refl _ _) (by omega) _ _ _ _ _) (by simp; omega) _ _) hCw⟩

set_option maxRecDepth 100000 in
set_option maxHeartbeats 2000000 in
theorem count_minus (F : Interp) (t : Tok) (C B n k : Nat) (T : Nat → Tok) (hk : k < n) (hn : n ≤ 65537) (hz : (t.kind == 20) = true) (hz4 : ((T k).kind == 4) = false) (w : World) (hF : F.answers w.tape) (hC : Cur w C B n k) (hs : t.text.size ≤ 1048576) (hT : Toks w B n T)
    (u0 u1 : TypeId) (x0 x1 : Value) (h0 : w.cell? ⟨0, 0, none⟩ = some (.iface u0 x0)) (h1 : w.cell? ⟨1, 0, none⟩ = some (.iface u1 x1)) :
    Calls Tryf.prog 15 #[.pointer (some ⟨C, 0, none⟩), t.val] w (CountBack (t.text) t.pos C B n k w) := by
  have hCw := hC.lt
  have hne1 : w.heap.size ≠ C := by omega
  have hne2 : w.heap.size + 1 ≠ C := by omega
  have hw0 : 0 < w.heap.size := World.block_lt_of_cell? _ _ h0
  have hw1 : 1 < w.heap.size := World.block_lt_of_cell? _ _ h1
  have hT0 : Toks ((w.alloc (.cells #[.int .i64 t.kind, .string t.text, .int .i64 t.pos, .int .i64 t.fin] 37)).alloc (.cells #[.string ⟨#[]⟩, .slice none 0 0, .slice none 0 0, .int .i64 0, .int .i64 0] 43)) B n T := hT.bx (D := w.heap.size) (C := w.heap.size) (Bx.of (((Below.refl _ w).alloc (Nat.le_refl _) _).alloc (by simp) _)) (hT.lt (by omega)) (Nat.ne_of_lt (hT.lt (by omega)))
  have hCu0 : Cur ((w.alloc (.cells #[.int .i64 t.kind, .string t.text, .int .i64 t.pos, .int .i64 t.fin] 37)).alloc (.cells #[.string ⟨#[]⟩, .slice none 0 0, .slice none 0 0, .int .i64 0, .int .i64 0] 43)) C B n k := hC.below (((Below.refl _ w).alloc (Nat.le_refl _) _).alloc (by simp) _) hCw
  have HT := hide hT
  have HT0 := hide hT0
  have HCu0 := hide hCu0
  clear hT hT0 hCu0
  go_enter Tryf.func15, Tryf.ntmps15
  go_wp2_with fail
  refine (peek_calls C B n k T _ HT0.out HCu0.out hk hn).mono ?_
  rintro e wp ⟨rfl, hbp⟩
  dsimp only [Tok.val]
  have hszp : w.heap.size + 2 ≤ wp.heap.size := by have := hbp.size; simpa using this
  have hcp : ∀ b o, b < w.heap.size + 2 → wp.cell? ⟨b, o, none⟩ = ((w.alloc (.cells #[.int .i64 t.kind, .string t.text, .int .i64 t.pos, .int .i64 t.fin] 37)).alloc (.cells #[.string ⟨#[]⟩, .slice none 0 0, .slice none 0 0, .int .i64 0, .int .i64 0] 43)).cell? ⟨b, o, none⟩ := fun b o h1 => hbp.cell (p := ⟨b, o, none⟩) (by simpa using h1)
  have HBp : Hid (Below ((w.alloc (.cells #[.int .i64 t.kind, .string t.text, .int .i64 t.pos, .int .i64 t.fin] 37)).alloc (.cells #[.string ⟨#[]⟩, .slice none 0 0, .slice none 0 0, .int .i64 0, .int .i64 0] 43)).heap.size ((w.alloc (.cells #[.int .i64 t.kind, .string t.text, .int .i64 t.pos, .int .i64 t.fin] 37)).alloc (.cells #[.string ⟨#[]⟩, .slice none 0 0, .slice none 0 0, .int .i64 0, .int .i64 0] 43)) wp) := hbp
  have h0p : wp.cell? ⟨0, 0, none⟩ = some (.iface u0 x0) := by rw [hcp 0 0 (by omega)]; go_simp
  have h1p : wp.cell? ⟨1, 0, none⟩ = some (.iface u1 x1) := by rw [hcp 1 0 (by omega)]; go_simp
  clear hbp h0 h1
  go_wp2_with fail
  refine (atoi_calls t.text wp (by omega) u0 u1 x0 x1 h0p h1p).mono ?_
  rintro e w1 ⟨v, ev, rfl, hb, hcase⟩
  have htape : w1.tape = w.tape := hb.tape.trans HBp.out.tape
  have hsz : w.heap.size + 2 ≤ w1.heap.size := by have := hb.size; omega
  have hB0 : Bx (w.heap.size + 2) C _ w1 := Bx.of ((HBp.out.mono (by simp)).trans (hb.mono (by omega)))
  have hC1 : Cur w1 C B n k := (HCu0.out.below (HBp.out.mono (by simp)) (D := w.heap.size + 2) (by omega)).below hb (by omega)
  clear hb h0p h1p hw0 hw1 hcp HT HT0 HCu0 HBp hszp
  have hF1 : F.answers w1.tape := by rw [htape]; exact hF
  unfold Interp.answers at hF1
  have hz1 : w.heap.size < w1.heap.size := by omega
  have hz2 : w.heap.size + 1 < w1.heap.size := by omega
  have hc : ∀ b o, b < w.heap.size + 2 → b ≠ C → w1.cell? ⟨b, o, none⟩ = ((w.alloc (.cells #[.int .i64 t.kind, .string t.text, .int .i64 t.pos, .int .i64 t.fin] 37)).alloc (.cells #[.string ⟨#[]⟩, .slice none 0 0, .slice none 0 0, .int .i64 0, .int .i64 0] 43)).cell? ⟨b, o, none⟩ := fun b o h1 h2 => hB0.cell (p := ⟨b, o, none⟩) h1 h2
  have hf : ∀ b o, b < w.heap.size + 2 → b ≠ C → w1.frozen? ⟨b, o, none⟩ = ((w.alloc (.cells #[.int .i64 t.kind, .string t.text, .int .i64 t.pos, .int .i64 t.fin] 37)).alloc (.cells #[.string ⟨#[]⟩, .slice none 0 0, .slice none 0 0, .int .i64 0, .int .i64 0] 43)).frozen? ⟨b, o, none⟩ := fun b o h1 h2 => hB0.frozen (p := ⟨b, o, none⟩) h1 h2
  have HB : Hid (Bx w.heap.size C w w1) := (Bx.of (((Below.refl _ w).alloc (Nat.le_refl _) _).alloc (by simp) _)).trans (hB0.mono (by omega))
  have HC : Hid (Cur w1 C B n k) := hC1
  clear hF htape hsz hB0 hC1 hC
  rcases hcase with ⟨hnum, rfl⟩ | ⟨hnum, p, rfl⟩
  · by_cases hv : v < 0
    · have HV : Hid (∀ v, numOf (t.text) = some v → v < 0) := fun v' h => by rw [hnum] at h; cases h; exact hv
      clear hnum
      go_wp2_with fail
      go_region
      go_wp2
      exact bodyPost_ret (v := .tuple #[noArg, .iface 52 (.pointer (some ⟨w1.heap.size + 1, 0, none⟩))]) (by simp [results, Tryf.results15, go_sem, hc, hz1, hz2, hne2]) rfl ⟨Or.inr ⟨HV.out, _, rfl⟩, HB.out.trans (Bx.of (below_two (below_five (Below.refl _ _) (by omega) _ _ _ _ _) (by simp; omega) _ _)), HC.out.below (below_two (below_five (Below.refl _ _) (by omega) _ _ _ _ _) (by simp; omega) _ _) hCw⟩
    · have HN : Hid (numOf (t.text) = some v) := hnum
      clear hnum
      go_wp2
      exact bodyPost_ret (v := .tuple #[argVal countName (.slice none 0 0) (.slice none 0 0) v t.pos, .nilIface]) (by simp [results, Tryf.results15, go_sem, hc, hne2]) rfl ⟨Or.inl ⟨v, HN.out, by omega, rfl⟩, HB.out.trans (Bx.of (below_five (Below.refl _ _) (by omega) _ _ _ _ _)), HC.out.below (below_five (Below.refl _ _) (by omega) _ _ _ _ _) hCw⟩
  · have HV : Hid (∀ v, numOf (t.text) = some v → v < 0) := fun v' h => by rw [hnum] at h; cases h
    clear hnum
    go_wp2_with fail
    go_region
    go_wp2
    exact bodyPost_ret (v := .tuple #[noArg, .iface 52 (.pointer (some ⟨w1.heap.size + 1, 0, none⟩))]) (by simp [results, Tryf.results15, go_sem, hc, hz1, hz2, hne2]) rfl ⟨Or.inr ⟨HV.out, _, rfl⟩, HB.out.trans (Bx.of (below_two (below_five (Below.refl _ _) (by omega) _ _ _ _ _) (by simp; omega) _ _)), HC.out.below (below_two (below_five (Below.refl _ _) (by omega) _ _ _ _ _) (by simp; omega) _ _) hCw⟩

set_option maxRecDepth 100000 in
set_option maxHeartbeats 2000000 in
theorem count_two (F : Interp) (t : Tok) (C B n k : Nat) (T : Nat → Tok) (hk : k < n) (hn : n ≤ 65537) (hz : (t.kind == 20) = true) (hz4 : ((T k).kind == 4) = true) (hz0 : (T k).kind ≠ 0) (hs2 : (T k).text.size ≤ 1048576) (w : World) (hF : F.answers w.tape) (hC : Cur w C B n k) (hs : t.text.size ≤ 1048576) (hT : Toks w B n T)
    (hC0 : 1 < C) (u0 u1 : TypeId) (x0 x1 : Value) (h0 : w.cell? ⟨0, 0, none⟩ = some (.iface u0 x0)) (h1 : w.cell? ⟨1, 0, none⟩ = some (.iface u1 x1)) :
    Calls Tryf.prog 15 #[.pointer (some ⟨C, 0, none⟩), t.val] w (CountBack (t.text ++ (T k).text) t.pos C B n (k + 1) w) := by
  have hCw := hC.lt
  have hne1 : w.heap.size ≠ C := by omega
  have hne2 : w.heap.size + 1 ≠ C := by omega
  have hw0 : 0 < w.heap.size := World.block_lt_of_cell? _ _ h0
  have hw1 : 1 < w.heap.size := World.block_lt_of_cell? _ _ h1
  have hT0 : Toks ((w.alloc (.cells #[.int .i64 t.kind, .string t.text, .int .i64 t.pos, .int .i64 t.fin] 37)).alloc (.cells #[.string ⟨#[]⟩, .slice none 0 0, .slice none 0 0, .int .i64 0, .int .i64 0] 43)) B n T := hT.bx (D := w.heap.size) (C := w.heap.size) (Bx.of (((Below.refl _ w).alloc (Nat.le_refl _) _).alloc (by simp) _)) (hT.lt (by omega)) (Nat.ne_of_lt (hT.lt (by omega)))
  have hCu0 : Cur ((w.alloc (.cells #[.int .i64 t.kind, .string t.text, .int .i64 t.pos, .int .i64 t.fin] 37)).alloc (.cells #[.string ⟨#[]⟩, .slice none 0 0, .slice none 0 0, .int .i64 0, .int .i64 0] 43)) C B n k := hC.below (((Below.refl _ w).alloc (Nat.le_refl _) _).alloc (by simp) _) hCw
  have HT := hide hT
  have HT0 := hide hT0
  have HCu0 := hide hCu0
  clear hT hT0 hCu0
  go_enter Tryf.func15, Tryf.ntmps15
  go_wp2_with fail
  refine (peek_calls C B n k T _ HT0.out HCu0.out hk hn).mono ?_
  rintro e wp ⟨rfl, hbp⟩
  dsimp only [Tok.val]
  have hszp : w.heap.size + 2 ≤ wp.heap.size := by have := hbp.size; simpa using this
  have hcp : ∀ b o, b < w.heap.size + 2 → wp.cell? ⟨b, o, none⟩ = ((w.alloc (.cells #[.int .i64 t.kind, .string t.text, .int .i64 t.pos, .int .i64 t.fin] 37)).alloc (.cells #[.string ⟨#[]⟩, .slice none 0 0, .slice none 0 0, .int .i64 0, .int .i64 0] 43)).cell? ⟨b, o, none⟩ := fun b o h1 => hbp.cell (p := ⟨b, o, none⟩) (by simpa using h1)
  have HBp : Hid (Below ((w.alloc (.cells #[.int .i64 t.kind, .string t.text, .int .i64 t.pos, .int .i64 t.fin] 37)).alloc (.cells #[.string ⟨#[]⟩, .slice none 0 0, .slice none 0 0, .int .i64 0, .int .i64 0] 43)).heap.size ((w.alloc (.cells #[.int .i64 t.kind, .string t.text, .int .i64 t.pos, .int .i64 t.fin] 37)).alloc (.cells #[.string ⟨#[]⟩, .slice none 0 0, .slice none 0 0, .int .i64 0, .int .i64 0] 43)) wp) := hbp
  have h0p : wp.cell? ⟨0, 0, none⟩ = some (.iface u0 x0) := by rw [hcp 0 0 (by omega)]; go_simp
  have h1p : wp.cell? ⟨1, 0, none⟩ = some (.iface u1 x1) := by rw [hcp 1 0 (by omega)]; go_simp
  have hCp : Cur wp C B n k := HCu0.out.below (HBp.out.mono (by simp)) (D := w.heap.size + 2) (by omega)
  have hTp : Toks wp B n T := HT0.out.bx (D := w.heap.size + 2) (C := w.heap.size + 2) (Bx.of (HBp.out.mono (by simp))) (by have := HT.out.lt (by omega); omega) (by have := HT.out.lt (by omega); omega)
  have HCp := hide hCp
  have HTp := hide hTp
  clear hbp h0 h1 hCp hTp
  go_wp2_with fail
  refine (advance_step C B n k T wp HTp.out HCp.out hk hn hz0).mono ?_
  rintro e wa ⟨rfl, hba, hca⟩
  dsimp only [Tok.val]
  have h0a : wa.cell? ⟨0, 0, none⟩ = some (.iface u0 x0) := by rw [hba.cell (p := ⟨0, 0, none⟩) (by show 0 < _; omega) (by show 0 ≠ C; omega)]; exact h0p
  have h1a : wa.cell? ⟨1, 0, none⟩ = some (.iface u1 x1) := by rw [hba.cell (p := ⟨1, 0, none⟩) (by show 1 < _; omega) (by show 1 ≠ C; omega)]; exact h1p
  have hsza : w.heap.size + 2 ≤ wa.heap.size := by have := hba.size; omega
  have HBa := hide hba
  have HCa := hide hca
  clear hba hca
  go_wp2_with fail
  refine (atoi_calls (t.text ++ (T k).text) wa (by simp; omega) u0 u1 x0 x1 h0a h1a).mono ?_
  rintro e w1 ⟨v, ev, rfl, hb, hcase⟩
  have htape : w1.tape = w.tape := hb.tape.trans (HBa.out.tape.trans HBp.out.tape)
  have hsz : w.heap.size + 2 ≤ w1.heap.size := by have := hb.size; omega
  have hB0 : Bx (w.heap.size + 2) C ((w.alloc (.cells #[.int .i64 t.kind, .string t.text, .int .i64 t.pos, .int .i64 t.fin] 37)).alloc (.cells #[.string ⟨#[]⟩, .slice none 0 0, .slice none 0 0, .int .i64 0, .int .i64 0] 43)) w1 := ((Bx.of (HBp.out.mono (by simp))).trans (HBa.out.mono (by omega))).trans (Bx.of (hb.mono (by omega)))
  have hC1 : Cur w1 C B n (k + 1) := HCa.out.below hb (by omega)
  clear h0a h1a hsza HBa HCa HCp HTp
  clear hb h0p h1p hw0 hw1 hcp HT HT0 HCu0 HBp hszp
  have hF1 : F.answers w1.tape := by rw [htape]; exact hF
  unfold Interp.answers at hF1
  have hz1 : w.heap.size < w1.heap.size := by omega
  have hz2 : w.heap.size + 1 < w1.heap.size := by omega
  have hc : ∀ b o, b < w.heap.size + 2 → b ≠ C → w1.cell? ⟨b, o, none⟩ = ((w.alloc (.cells #[.int .i64 t.kind, .string t.text, .int .i64 t.pos, .int .i64 t.fin] 37)).alloc (.cells #[.string ⟨#[]⟩, .slice none 0 0, .slice none 0 0, .int .i64 0, .int .i64 0] 43)).cell? ⟨b, o, none⟩ := fun b o h1 h2 => hB0.cell (p := ⟨b, o, none⟩) h1 h2
  have hf : ∀ b o, b < w.heap.size + 2 → b ≠ C → w1.frozen? ⟨b, o, none⟩ = ((w.alloc (.cells #[.int .i64 t.kind, .string t.text, .int .i64 t.pos, .int .i64 t.fin] 37)).alloc (.cells #[.string ⟨#[]⟩, .slice none 0 0, .slice none 0 0, .int .i64 0, .int .i64 0] 43)).frozen? ⟨b, o, none⟩ := fun b o h1 h2 => hB0.frozen (p := ⟨b, o, none⟩) h1 h2
  have HB : Hid (Bx w.heap.size C w w1) := (Bx.of (((Below.refl _ w).alloc (Nat.le_refl _) _).alloc (by simp) _)).trans (hB0.mono (by omega))
  have HC : Hid (Cur w1 C B n (k + 1)) := hC1
  clear hF htape hsz hB0 hC1 hC
  rcases hcase with ⟨hnum, rfl⟩ | ⟨hnum, p, rfl⟩
  · by_cases hv : v < 0
    · have HV : Hid (∀ v, numOf (t.text ++ (T k).text) = some v → v < 0) := fun v' h => by rw [hnum] at h; cases h; exact hv
      clear hnum
      go_wp2_with fail
      go_region
      go_wp2
      exact bodyPost_ret (v := .tuple #[noArg, .iface 52 (.pointer (some ⟨w1.heap.size + 1, 0, none⟩))]) (by simp [results, Tryf.results15, go_sem, hc, hz1, hz2, hne2]) rfl ⟨Or.inr ⟨HV.out, _, rfl⟩, HB.out.trans (Bx.of (below_two (below_five (Below.refl _ _) (by omega) _ _ _ _ _) (by simp; omega) _ _)), HC.out.below (below_two (below_five (Below.refl _ _) (by omega) _ _ _ _ _) (by simp; omega) _ _) hCw⟩
    · have HN : Hid (numOf (t.text ++ (T k).text) = some v) := hnum
      clear hnum
      go_wp2
      exact bodyPost_ret (v := .tuple #[argVal countName (.slice none 0 0) (.slice none 0 0) v t.pos, .nilIface]) (by simp [results, Tryf.results15, go_sem, hc, hne2]) rfl ⟨Or.inl ⟨v, HN.out, by omega, rfl⟩, HB.out.trans (Bx.of (below_five (Below.refl _ _) (by omega) _ _ _ _ _)), HC.out.below (below_five (Below.refl _ _) (by omega) _ _ _ _ _) hCw⟩
  · have HV : Hid (∀ v, numOf (t.text ++ (T k).text) = some v → v < 0) := fun v' h => by rw [hnum] at h; cases h
    clear hnum
    go_wp2_with fail
    go_region
    go_wp2
    exact bodyPost_ret (v := .tuple #[noArg, .iface 52 (.pointer (some ⟨w1.heap.size + 1, 0, none⟩))]) (by simp [results, Tryf.results15, go_sem, hc, hz1, hz2, hne2]) rfl ⟨Or.inr ⟨HV.out, _, rfl⟩, HB.out.trans (Bx.of (below_two (below_five (Below.refl _ _) (by omega) _ _ _ _ _) (by simp; omega) _ _)), HC.out.below (below_two (below_five (Below.refl _ _) (by omega) _ _ _ _ _) (by simp; omega) _ _) hCw⟩

end Go.Proofs.Qxb6605748aFmt
