/-
  order2, median, medianAdjacent, choosePivot at uint64: they write nothing but the count of swaps; the pivot lies in the range.
-/
import Derived.Test.Qxb6605873aSort2
set_option linter.unusedVariables false
namespace Go.Proofs.Qxb6605873a
open Go.RowKit Go.Sort

theorem Arr.put_far {w0 w : World} {b g : Nat} {d : Array Int} (h : Arr w0 w b d) (hg : b < g) (v : Value) : Arr w0 (w.setCell ⟨g, 0, none⟩ v) b d :=
  ⟨fun t ht => by rw [World.cell?_setCell_other _ _ _ _ (fun e => by have := congrArg Addr.block e; simp at this; omega)]; exact h.cell t ht, fun t ht => by rw [World.frozen?_setCell]; exact h.fro t ht,
    h.below.setCell (by simp; omega) _, by simpa using h.lt⟩

/-- The count stands at v. -/
structure Cnt (w0 w : World) (blk g : Nat) (d : Array Int) (v : Int) : Prop where
  arr : Arr w0 w blk d
  cell : w.cell? ⟨g, 0, none⟩ = some (.int .i64 v)
  fro : w.frozen? ⟨g, 0, none⟩ = false
  far : blk < g
  lo : 0 ≤ v

theorem Cnt.drewN {w0 w : World} {b g : Nat} {d : Array Int} {v : Int} (h : Cnt w0 w b g d v) (q : Nat) : Cnt w0 (w.drewN q) b g d v :=
  ⟨h.arr.drewN q, by have := h.cell; simpa using this, by have := h.fro; simpa using this, h.far, h.lo⟩
theorem Cnt.put {w0 w : World} {b g : Nat} {d : Array Int} {v : Int} (h : Cnt w0 w b g d v) : Cnt w0 (w.setCell ⟨g, 0, none⟩ (.int .i64 (v + 1))) b g d (v + 1) :=
  ⟨h.arr.put_far h.far _, World.cell?_setCell_same _ _ _ h.cell, by rw [World.frozen?_setCell]; exact h.fro, h.far, by have := h.lo; omega⟩

def Ord2 (w0 : World) (blk g : Nat) (d : Array Int) (x y : Nat) (v : Int) (e : Ending) (w' : World) : Prop :=
  ∃ (x' y' : Nat) (v' : Int), e = .returned (.tuple #[.int .i64 x', .int .i64 y']) ∧ ((x' = x ∧ y' = y) ∨ (x' = y ∧ y' = x)) ∧ v' ≤ v + 1 ∧ Cnt w0 w' blk g d v'

set_option maxRecDepth 100000 in
set_option maxHeartbeats 1000000 in
theorem order2_calls (w0 : World) (blk c n g x y : Nat) (d : Array Int) (v : Int) (w : World) (hd : d.size = n) (hH : Cnt w0 w blk g d v) (hx : x < n) (hy : y < n) (hv : v ≤ 1000) (hsz : n ≤ 1048576) :
    Calls Try.prog 47 #[.slice (some ⟨blk, 0, none⟩) n c, .int .i64 x, .int .i64 y, .pointer (some ⟨g, 0, none⟩)] w (Ord2 w0 blk g d x y v) := by
  obtain ⟨G, HG, hcw, hfw⟩ := hH.arr.fam
  rw [hd] at hcw hfw
  have c1 := hcw x (by omega)
  have c2 := hcw y (by omega)
  have c3 := hH.cell
  have f3 := hH.fro
  have HC : Hid (Cnt w0 w blk g d v) := hH
  have k0 := hH.lo
  clear hcw hfw hH hd
  go_enter Try.func47, Try.ntmps47
  go_wp2
  go_quiet (first | (go_at_call 36; refine Calls.quiet_of_same (less_calls _ _ _)))
  go_wp2
  · go_ret2
    exact ⟨y, x, v + 1, rfl, Or.inr ⟨rfl, rfl⟩, Int.le_refl _, (HC.out.drewN _).put⟩
  · go_ret2
    exact ⟨x, y, v, rfl, Or.inl ⟨rfl, rfl⟩, by omega, HC.out.drewN _⟩

def Med (w0 : World) (blk g : Nat) (d : Array Int) (x y z : Nat) (v : Int) (e : Ending) (w' : World) : Prop :=
  ∃ (m : Nat) (v' : Int), e = .returned (.int .i64 m) ∧ (m = x ∨ m = y ∨ m = z) ∧ v' ≤ v + 3 ∧ Cnt w0 w' blk g d v'

set_option maxRecDepth 100000 in
set_option maxHeartbeats 1000000 in
theorem median_calls (w0 : World) (blk c n g x y z : Nat) (d : Array Int) (v : Int) (w : World) (hd : d.size = n) (hH : Cnt w0 w blk g d v) (hx : x < n) (hy : y < n) (hz : z < n) (hv : v ≤ 900) (hsz : n ≤ 1048576) :
    Calls Try.prog 45 #[.slice (some ⟨blk, 0, none⟩) n c, .int .i64 x, .int .i64 y, .int .i64 z, .pointer (some ⟨g, 0, none⟩)] w (Med w0 blk g d x y z v) := by
  have HD : Hid (d.size = n) := hd
  have HC : Hid (Cnt w0 w blk g d v) := hH
  clear hH hd
  go_enter Try.func45, Try.ntmps45
  go_wp2_with (fail)
  refine (order2_calls w0 blk c n g x y d v _ HD.out HC.out hx hy (by omega) hsz).mono ?_
  rintro e w1 ⟨x1, y1, v1, rfl, h1, hv1, hC1⟩
  have HC1 : Hid (Cnt w0 w1 blk g d v1) := hC1
  have H1 : Hid ((x1 = x ∧ y1 = y) ∨ (x1 = y ∧ y1 = x)) := h1
  have hx1 : x1 < n := by omega
  have hy1 : y1 < n := by omega
  clear hC1 HC h1
  go_wp2_with (fail)
  refine (order2_calls w0 blk c n g y1 z d v1 _ HD.out HC1.out hy1 hz (by omega) hsz).mono ?_
  rintro e w2 ⟨x2, y2, v2, rfl, h2, hv2, hC2⟩
  have HC2 : Hid (Cnt w0 w2 blk g d v2) := hC2
  have H2 : Hid ((x2 = y1 ∧ y2 = z) ∨ (x2 = z ∧ y2 = y1)) := h2
  have hx2 : x2 < n := by omega
  clear hC2 HC1 h2
  go_wp2_with (fail)
  refine (order2_calls w0 blk c n g x1 x2 d v2 _ HD.out HC2.out hx1 hx2 (by omega) hsz).mono ?_
  rintro e w3 ⟨x3, y3, v3, rfl, h3, hv3, hC3⟩
  have HC3 : Hid (Cnt w0 w3 blk g d v3) := hC3
  have H3 : Hid ((x3 = x1 ∧ y3 = x2) ∨ (x3 = x2 ∧ y3 = x1)) := h3
  clear hC3 HC2 h3
  go_wp2
  go_ret
  refine ⟨y3, v3, rfl, ?_, by omega, HC3.out⟩
  have h1 := H1.out
  have h2 := H2.out
  have h3 := H3.out
  omega

set_option maxRecDepth 100000 in
set_option maxHeartbeats 1000000 in
theorem medianAdjacent_calls (w0 : World) (blk c n g x : Nat) (d : Array Int) (v : Int) (w : World) (hd : d.size = n) (hH : Cnt w0 w blk g d v) (hx0 : 0 < x) (hx : x + 1 < n) (hv : v ≤ 900) (hsz : n ≤ 1048576) :
    Calls Try.prog 44 #[.slice (some ⟨blk, 0, none⟩) n c, .int .i64 x, .pointer (some ⟨g, 0, none⟩)] w (Med w0 blk g d (x - 1) x (x + 1) v) := by
  obtain ⟨y, hy⟩ : ∃ y, y = x - 1 := ⟨_, rfl⟩
  obtain ⟨z, hz⟩ : ∃ z, z = x + 1 := ⟨_, rfl⟩
  have e1 : (x : Int) - 1 = y := by omega
  have e2 : (x : Int) + 1 = z := by omega
  have HD : Hid (d.size = n) := hd
  have HC : Hid (Cnt w0 w blk g d v) := hH
  have k1 : y < n := by omega
  have k2 : z < n := by omega
  rw [← hy, ← hz]
  clear hH hd hy hz
  go_enter Try.func44, Try.ntmps44
  go_wp2_with (fail)
  refine (median_calls w0 blk c n g y x z d v _ HD.out HC.out k1 (by omega) k2 (by omega) hsz).mono ?_
  rintro e w1 ⟨m, v1, rfl, h1, hv1, hC1⟩
  have H1 : Hid (m = y ∨ m = x ∨ m = z) := h1
  have HC1 : Hid (Cnt w0 w1 blk g d v1) := hC1
  clear h1 hC1 HC e1 e2
  go_wp2
  go_ret
  exact ⟨m, v1, rfl, H1.out, hv1, HC1.out⟩
end Go.Proofs.Qxb6605873a
