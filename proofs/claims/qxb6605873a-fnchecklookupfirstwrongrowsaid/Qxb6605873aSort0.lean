/-
  A row of uint64 in one block, and cmp.Less at uint64.
-/
import Derived.Test.Qxb6605873aRows
import Derived.WalkKit
import Derived.Below
import Derived.BigGuard
import Derived.BigCall
import Derived.CellFam
import Derived.Deep.Draws
import Derived.Deep.QuietTactic
import Derived.BigQuiet
import Derived.Sort.LotA
import Derived.Sort.LotB
import Derived.Sort.LotC
import Derived.Sort.LotD1
import Derived.Sort.LotD2
import Derived.Sort.LotD3
set_option linter.unusedVariables false
namespace Go.Proofs.Qxb6605873a
open Go.RowKit Go.Sort

/-- Block b holds the numbers d and may be written; below it all is as it was in w0. -/
structure Arr (w0 w : World) (b : Nat) (d : Array Int) : Prop where
  cell : ∀ t, t < d.size → w.cell? ⟨b, t, none⟩ = some (.int .u64 d[t]!)
  fro : ∀ t, t < d.size → w.frozen? ⟨b, t, none⟩ = false
  below : Go.RowKit.Below b w0 w
  lt : b < w.heap.size

theorem below_drewN {B : Nat} {a w : World} (h : Go.RowKit.Below B a w) (q : Nat) : Go.RowKit.Below B a (w.drewN q) := ⟨h.os, h.tape, h.output, h.size, h.block⟩

theorem Arr.drewN {w0 w : World} {b : Nat} {d : Array Int} (h : Arr w0 w b d) (q : Nat) : Arr w0 (w.drewN q) b d :=
  ⟨fun t ht => by have := h.cell t ht; simpa using this, fun t ht => by have := h.fro t ht; simpa using this, below_drewN h.below q, h.lt⟩

theorem Arr.swp {w0 w : World} {b : Nat} {d : Array Int} (h : Arr w0 w b d) {i j : Nat} (hi : i < d.size) (hj : j < d.size) :
    Arr w0 ((w.setCell ⟨b, i, none⟩ (.int .u64 d[j]!)).setCell ⟨b, j, none⟩ (.int .u64 d[i]!)) b (swp d i j) := by
  refine ⟨fun t ht => ?_, fun t ht => ?_, (h.below.setCell (Nat.le_refl _) _).setCell (Nat.le_refl _) _, by simpa using h.lt⟩
  · rw [size_swp] at ht
    rw [swp_get d hi hj t]
    by_cases e2 : t = j
    · subst e2
      obtain ⟨v, hv⟩ := cell?_setCell_some (p := ⟨b, i, none⟩) (x := .int .u64 d[t]!) (h.cell t ht)
      rw [World.cell?_setCell_same _ _ _ hv]
      simp
    · rw [World.cell?_setCell_other _ _ _ _ (fun e => e2 (congrArg Addr.off e).symm)]
      by_cases e1 : t = i
      · subst e1
        rw [World.cell?_setCell_same _ _ _ (h.cell t ht)]
        simp [e2]
      · rw [World.cell?_setCell_other _ _ _ _ (fun e => e1 (congrArg Addr.off e).symm)]
        simp only [e1, e2, if_false]
        exact h.cell t ht
  · rw [size_swp] at ht
    rw [World.frozen?_setCell, World.frozen?_setCell]
    exact h.fro t ht

theorem isNaN_calls (x : Int) (w : World) : Calls Try.prog 46 #[.int .u64 x] w fun e w' => e = .returned (.bool false) ∧ w' = w := by
  go_enter Try.func46, Try.ntmps46
  go_wp2
  go_ret
  simp

theorem less_calls (x y : Int) (w : World) : Calls Try.prog 36 #[.int .u64 x, .int .u64 y] w fun e w' => e = .returned (.bool (ltInt x y)) ∧ w' = w := by
  go_enter Try.func36, Try.ntmps36
  go_wp2_with (first | (go_at_call 46; refine (isNaN_calls _ _).mono ?_; rintro e w' ⟨rfl, rfl⟩))
  go_ret
  simp [ltInt]
end Go.Proofs.Qxb6605873a
