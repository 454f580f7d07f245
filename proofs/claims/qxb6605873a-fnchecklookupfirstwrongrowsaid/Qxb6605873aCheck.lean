/-
  CheckLookup.
-/
import Derived.Test.Qxb6605873aLook
import Derived.Laws.StructEq
set_option linter.unusedVariables false
namespace Go.Proofs.Qxb6605873a
open Go.RowKit Go.Sort

/-- Row q of the table is the row that the entries ask for. -/
def RowEq (A B C P X O : Nat → Int) (σ ρ : Nat → Nat) (q : Nat) : Prop := A q = P (σ q) ∧ B q = O (σ q) ∧ C q = wantC X σ ρ q

def CheckPost (w : World) (m n : Nat) (A B C P X O : Nat → Int) (e : Ending) (w' : World) : Prop :=
  ∃ (σ ρ : Nat → Nat) (r : Nat) (ok : Bool), e = .returned (.tuple #[.int .i64 r, .bool ok]) ∧ Rank P n σ ρ ∧
    ((ok = true ∧ r = 0 ∧ ∀ q, q < m → RowEq A B C P X O σ ρ q) ∨ (ok = false ∧ r < m ∧ ¬ RowEq A B C P X O σ ρ r ∧ ∀ q, q < r → RowEq A B C P X O σ ρ q)) ∧
    Go.RowKit.Below w.heap.size w w'

set_option maxRecDepth 100000 in
set_option maxHeartbeats 4000000 in
theorem check_calls (F R E m n cR cE : Nat) (A B C P X O : Nat → Int) (w : World) (hF : F < w.heap.size) (hR : R < w.heap.size) (hE : E < w.heap.size) (hn : n ≤ 65536) (hmn : m ≤ n)
    (h38 : w.cell? ⟨F, 38, none⟩ = some (.slice (some ⟨R, 0, none⟩) m cR)) (h39 : w.cell? ⟨F, 39, none⟩ = some (.slice (some ⟨E, 0, none⟩) n cE)) (hL : LRows w R m A B C) (hH : Ents w E n P X O)
    (hP : ∀ i, i < n → 0 ≤ P i ∧ P i < 4294967296) (hX : ∀ i, i < n → 0 ≤ X i ∧ X i ≤ i ∧ X i < 256) (hO : ∀ i, i < n → 0 ≤ O i ∧ O i ≤ 9223372036854775807) :
    Calls Try.prog 24 #[.pointer (some ⟨F, 0, none⟩)] w (CheckPost w m n A B C P X O) := by
  have HL : Hid (LRows w R m A B C) := hL
  have HH : Hid (Ents w E n P X O) := hH
  have HPb : Hid (∀ i, i < n → 0 ≤ P i ∧ P i < 4294967296) := hP
  have HXb : Hid (∀ i, i < n → 0 ≤ X i ∧ X i ≤ i ∧ X i < 256) := hX
  have HOb : Hid (∀ i, i < n → 0 ≤ O i ∧ O i ≤ 9223372036854775807) := hO
  clear hL hH hP hX hO
  go_enter Try.func24, Try.ntmps24
  go_wp2_with fail
  refine (look_calls E n cE P X O _ hE hn HH.out HPb.out HXb.out HOb.out).mono ?_
  rintro e w1 ⟨g, σ, ρ, rfl, hRk, hLR, hb1, hg1, hg2⟩
  have HRk : Hid (Rank P n σ ρ) := hRk
  have HLR : Hid (LRows w1 g n (fun r => P (σ r)) (fun r => O (σ r)) (wantC X σ ρ)) := hLR
  have HB1 : Hid (Go.RowKit.Below w.heap.size w w1) := hb1
  have HL1 : Hid (LRows w1 R m A B C) := HL.out.below hb1 hR
  have h38' : w1.cell? ⟨F, 38, none⟩ = some (.slice (some ⟨R, 0, none⟩) m cR) := by rw [hb1.cell (p := ⟨F, 38, none⟩) hF]; exact h38
  have HG : Hid (w.heap.size ≤ g) := hg1
  have hRg : R < w1.heap.size := by omega
  clear hRk hLR hb1 h38 h39 HL HH hg1
  go_wp2
  go_loopw [17] (fun v wr => ∃ k : Nat, k ≤ m ∧ v = .int .i64 k ∧ Hid (∀ q, q < k → RowEq A B C P X O σ ρ q) ∧ Go.RowKit.Below w1.heap.size w1 wr) (fun v _ => m - (intOf v).toNat)
  case atStart => exact ⟨0, Nat.zero_le _, rfl, fun q hq => by omega, Go.RowKit.Below.refl _ _⟩
  case round =>
    obtain ⟨k, hk, rfl, HQ, hb⟩ := hrel
    by_cases hlt : k < m
    · have HL2 := HL1.out.below hb hRg
      have HW2 := HLR.out.below hb hg2
      have a0 := HL2.c0 k hlt
      have a1 := HL2.c1 k hlt
      have a2 := HL2.c2 k hlt
      have d0 : wr.cell? ⟨g, k * 3, none⟩ = some (.int .u32 (P (σ k))) := HW2.c0 k (by omega)
      have d1 : wr.cell? ⟨g, k * 3 + 1, none⟩ = some (.int .u64 (O (σ k))) := HW2.c1 k (by omega)
      have d2 : wr.cell? ⟨g, k * 3 + 2, none⟩ = some (.int .u32 (wantC X σ ρ k)) := HW2.c2 k (by omega)
      have hgs : g < wr.heap.size := Nat.lt_of_lt_of_le hg2 hb.size
      have hws : w1.heap.size ≤ wr.heap.size := hb.size
      clear HL2 HW2
      obtain ⟨x0, e0⟩ : ∃ x, x = A k := ⟨_, rfl⟩
      obtain ⟨x1, e1⟩ : ∃ x, x = B k := ⟨_, rfl⟩
      obtain ⟨x2, e2⟩ : ∃ x, x = C k := ⟨_, rfl⟩
      obtain ⟨y0, f0⟩ : ∃ x, x = P (σ k) := ⟨_, rfl⟩
      obtain ⟨y1, f1⟩ : ∃ x, x = O (σ k) := ⟨_, rfl⟩
      obtain ⟨y2, f2⟩ : ∃ x, x = wantC X σ ρ k := ⟨_, rfl⟩
      have HRE : Hid (RowEq A B C P X O σ ρ k ↔ (x0 = y0 ∧ x1 = y1 ∧ x2 = y2)) := by rw [e0, e1, e2, f0, f1, f2]; exact Iff.rfl
      rw [← e0] at a0
      rw [← e1] at a1
      rw [← e2] at a2
      rw [← f0] at d0
      rw [← f1] at d1
      rw [← f2] at d2
      clear e0 e1 e2 f0 f1 f2
      by_cases hE : x0 = y0 ∧ x1 = y1 ∧ x2 = y2
      · obtain ⟨rfl, rfl, rfl⟩ := hE
        go_wp2
        go_quiet (fail)
        go_wp2
        go_roundw
        case rel =>
          refine ⟨k + 1, by omega, by go_num, fun q hq => ?_, below_drewN (hb.alloc hws _) nq⟩
          by_cases e : q = k
          · subst e; exact HRE.out.2 (by simp)
          · exact HQ.out q (by omega)
        case measure => simp [intOf]; omega
      · by_cases q0 : x0 = y0
        · subst q0
          by_cases q1 : x1 = y1
          · subst q1
            have q2 : ¬ x2 = y2 := fun e => hE ⟨rfl, rfl, e⟩
            have k2 : (x2 == y2) = false := by simp [q2]
            go_wp2
            go_quiet (fail)
            go_wp2
            go_ret2
            exact ⟨σ, ρ, k, false, rfl, HRk.out, Or.inr ⟨rfl, hlt, fun h => hE (HRE.out.1 h), HQ.out⟩, HB1.out.trans (Go.RowKit.Below.mono (below_drewN (hb.alloc hws _) nq) (by have := HB1.out.size; omega))⟩
          · have k1 : (x1 == y1) = false := by simp [q1]
            go_wp2
            go_quiet (fail)
            go_wp2
            go_ret2
            exact ⟨σ, ρ, k, false, rfl, HRk.out, Or.inr ⟨rfl, hlt, fun h => hE (HRE.out.1 h), HQ.out⟩, HB1.out.trans (Go.RowKit.Below.mono (below_drewN (hb.alloc hws _) nq) (by have := HB1.out.size; omega))⟩
        · have k0 : (x0 == y0) = false := by simp [q0]
          go_wp2
          go_quiet (fail)
          go_wp2
          go_ret2
          exact ⟨σ, ρ, k, false, rfl, HRk.out, Or.inr ⟨rfl, hlt, fun h => hE (HRE.out.1 h), HQ.out⟩, HB1.out.trans (Go.RowKit.Below.mono (below_drewN (hb.alloc hws _) nq) (by have := HB1.out.size; omega))⟩
    · go_wp2
      go_ret2
      exact ⟨σ, ρ, 0, true, rfl, HRk.out, Or.inl ⟨rfl, rfl, fun q hq => HQ.out q (by omega)⟩, HB1.out.trans (hb.mono (by have := HB1.out.size; omega))⟩
end Go.Proofs.Qxb6605873a
