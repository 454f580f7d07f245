/-
  xorshift.Next at uint64.
-/
import Derived.Test.Qxb6605873aSort7
set_option linter.unusedVariables false
namespace Go.Proofs.Qxb6605873a
open Go.RowKit Go.Sort

theorem u64_wrap_range (n : Int) : 0 ≤ IntKind.u64.wrap n ∧ IntKind.u64.wrap n ≤ 18446744073709551615 := by
  rw [IntKind.wrap_u64]; omega
theorem xor_range (x y : Int) : 0 ≤ bits BinOp.xor IntKind.u64 x y ∧ bits BinOp.xor IntKind.u64 x y ≤ 18446744073709551615 := by
  unfold bits
  exact u64_wrap_range _

/-- The random number's cell behind the row. -/
structure Rnd (w0 w : World) (blk g : Nat) (d : Array Int) (v : Int) : Prop where
  arr : Arr w0 w blk d
  cell : w.cell? ⟨g, 0, none⟩ = some (.int .u64 v)
  fro : w.frozen? ⟨g, 0, none⟩ = false
  far : blk < g
  lo : 0 ≤ v
  hi : v ≤ 18446744073709551615

theorem Rnd.put {w0 w : World} {b g : Nat} {d : Array Int} {v : Int} (h : Rnd w0 w b g d v) (u : Int) (h0 : 0 ≤ u) (h1 : u ≤ 18446744073709551615) : Rnd w0 (w.setCell ⟨g, 0, none⟩ (.int .u64 u)).drew b g d u :=
  ⟨(h.arr.put_far h.far _).drewN 1, World.cell?_setCell_same _ _ _ h.cell, by show (w.setCell _ _).frozen? _ = false; rw [World.frozen?_setCell]; exact h.fro, h.far, h0, h1⟩

def NextPost (w0 : World) (blk g : Nat) (d : Array Int) (e : Ending) (w' : World) : Prop :=
  ∃ r : Int, e = .returned (.int .u64 r) ∧ Rnd w0 w' blk g d r

set_option maxRecDepth 100000 in
set_option maxHeartbeats 1000000 in
theorem next_calls (w0 : World) (blk g : Nat) (d : Array Int) (r : Int) (w : World) (hH : Rnd w0 w blk g d r) :
    Calls Try.prog 43 #[.pointer (some ⟨g, 0, none⟩)] w (NextPost w0 blk g d) := by
  have HR : Hid (Rnd w0 w blk g d r) := hH
  have c0 := hH.cell
  have f0 := hH.fro
  have l0 := hH.lo
  have l1 := hH.hi
  clear hH
  go_enter Try.func43, Try.ntmps43
  go_wp2
  go_region
  obtain ⟨r1, hr1⟩ : ∃ x, x = bits BinOp.xor IntKind.u64 r (IntKind.u64.wrap (r * 8192)) := ⟨_, rfl⟩
  obtain ⟨w1, hw1⟩ : ∃ x, x = (w.setCell ⟨g, 0, none⟩ (.int .u64 (bits BinOp.xor IntKind.u64 r (IntKind.u64.wrap (r * 8192))))).drew := ⟨_, rfl⟩
  have HR1 : Hid (Rnd w0 w1 blk g d r1) := by rw [hw1, hr1]; exact HR.out.put _ (xor_range _ _).1 (xor_range _ _).2
  rw [← hw1]
  simp only [← hr1]
  clear HR c0 f0 l0 l1 hw1 hr1
  have c0 := HR1.out.cell
  have f0 := HR1.out.fro
  have l0 := HR1.out.lo
  have l1 := HR1.out.hi
  go_wp2
  go_region
  obtain ⟨r2, hr2⟩ : ∃ x, x = bits BinOp.xor IntKind.u64 r1 (r1 / 128) := ⟨_, rfl⟩
  obtain ⟨w2, hw2⟩ : ∃ x, x = (w1.setCell ⟨g, 0, none⟩ (.int .u64 (bits BinOp.xor IntKind.u64 r1 (r1 / 128)))).drew := ⟨_, rfl⟩
  have HR2 : Hid (Rnd w0 w2 blk g d r2) := by rw [hw2, hr2]; exact HR1.out.put _ (xor_range _ _).1 (xor_range _ _).2
  rw [← hw2]
  simp only [← hr2]
  clear HR1 c0 f0 l0 l1 hw2 hr2
  have c0 := HR2.out.cell
  have f0 := HR2.out.fro
  have l0 := HR2.out.lo
  have l1 := HR2.out.hi
  go_wp2
  go_region
  obtain ⟨r3, hr3⟩ : ∃ x, x = bits BinOp.xor IntKind.u64 r2 (IntKind.u64.wrap (r2 * 131072)) := ⟨_, rfl⟩
  obtain ⟨w3, hw3⟩ : ∃ x, x = (w2.setCell ⟨g, 0, none⟩ (.int .u64 (bits BinOp.xor IntKind.u64 r2 (IntKind.u64.wrap (r2 * 131072))))).drew := ⟨_, rfl⟩
  have HR3 : Hid (Rnd w0 w3 blk g d r3) := by rw [hw3, hr3]; exact HR2.out.put _ (xor_range _ _).1 (xor_range _ _).2
  rw [← hw3]
  simp only [← hr3]
  clear HR2 c0 f0 l0 l1 hw3 hr3
  have c0 := HR3.out.cell
  have f0 := HR3.out.fro
  have l0 := HR3.out.lo
  have l1 := HR3.out.hi
  go_wp2
  go_ret
  exact ⟨r3, rfl, HR3.out⟩
end Go.Proofs.Qxb6605873a
