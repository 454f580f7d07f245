/-
  The text that scopeName writes, place by place. No Go in sight.
-/
import Derived.Test.Qxb6605953aDoorScope
namespace Go.Proofs.Qxb6605953aDoor
open Go.RowKit

/-- The text l lies in s from p on. -/
def At (s : ByteArray) (p : Nat) (l : List UInt8) : Prop := ∀ j y, l[j]? = some y → ∃ h : p + j < s.size, s[p + j] = y
theorem At.whole (l : List UInt8) : At ⟨l.toArray⟩ 0 l := fun j y hy => by
  obtain ⟨h, e⟩ := List.getElem?_eq_some_iff.1 hy
  refine ⟨by show 0 + j < l.length; omega, ?_⟩
  simp only [Nat.zero_add]
  exact e
theorem At.left {s : ByteArray} {p : Nat} {l r : List UInt8} (h : At s p (l ++ r)) : At s p l := fun j y hy => by
  refine h j y ?_
  rw [List.getElem?_append_left (List.getElem?_eq_some_iff.1 hy).1]
  exact hy
theorem At.right {s : ByteArray} {p : Nat} {l r : List UInt8} (h : At s p (l ++ r)) : At s (p + l.length) r := fun j y hy => by
  obtain ⟨h1, h2⟩ := h (l.length + j) y (by rw [List.getElem?_append_right (by omega)]; simpa using hy)
  refine ⟨by omega, ?_⟩
  simp only [Nat.add_assoc]
  exact h2

/-- The fields, joined by ':'. -/
def J : List Int → List UInt8
  | [] => []
  | x :: r => Lib.itoa x ++ (match r with | [] => [] | y :: r' => 58 :: J (y :: r'))
theorem J_cons (x y : Int) (r : List Int) : J (x :: y :: r) = Lib.itoa x ++ 58 :: J (y :: r) := by rw [J]
theorem J_one (x : Int) : J [x] = Lib.itoa x := by rw [J]; simp
theorem scope_J (a b c l : Int) (d : Nat) (hd : d ≤ 4) : scopeL a b c l d = J ([a, b, c, l].take d) := by
  match d, hd with
  | 0, _ => rfl
  | 1, _ => simp [scopeL, Lib.join, List.intercalate, J]
  | 2, _ => simp [scopeL, Lib.join, List.intercalate, J]
  | 3, _ => simp [scopeL, Lib.join, List.intercalate, J]
  | 4, _ => simp [scopeL, Lib.join, List.intercalate, J]

/-! ### The numeral's digits -/
theorem dg_val (u j : Nat) : (Lib.dg u j).toNat = 48 + u / 10 ^ j % 10 := by
  unfold Lib.dg
  have h : u / 10 ^ j % 10 < 10 := Nat.mod_lt _ (by omega)
  rw [UInt8.toNat_ofNat', Nat.mod_eq_of_lt (by omega)]
theorem dec_at {s : ByteArray} {p u : Nat} (h : At s p (Lib.decDigits u)) (j : Nat) (hj : j < Lib.nDigits u) : ∃ h : p + j < s.size, s[p + j] = Lib.dg u (Lib.nDigits u - 1 - j) :=
  h j _ (by rw [Lib.decDigits_eq]; simp [hj])
theorem pow_le (u : Nat) (hu : 1 ≤ u) : 10 ^ (Lib.nDigits u - 1) ≤ u := by
  induction u using Nat.strongRecOn with
  | _ u ih =>
    by_cases h : u < 10
    · rw [Lib.nDigits_small h]; simpa using hu
    · rw [Lib.nDigits_big h]
      have h1 := ih (u / 10) (by omega) (by omega)
      have h2 := Lib.nDigits_pos (u / 10)
      rw [show Lib.nDigits (u / 10) + 1 - 1 = (Lib.nDigits (u / 10) - 1) + 1 by omega, Nat.pow_succ]
      omega
theorem first_ne (u : Nat) (h : 1 < Lib.nDigits u) : 1 ≤ u / 10 ^ (Lib.nDigits u - 1) % 10 := by
  have hu : 1 ≤ u := by
    rcases Nat.eq_zero_or_pos u with rfl | h'
    · rw [Lib.nDigits_small (by omega)] at h; omega
    · exact h'
  have h1 := pow_le u hu
  have h2 := Lib.lt_pow_nDigits u
  rw [show Lib.nDigits u = (Lib.nDigits u - 1) + 1 by omega, Nat.pow_succ] at h2
  have h3 : u / 10 ^ (Lib.nDigits u - 1) < 10 := Nat.div_lt_of_lt_mul h2
  have h4 : 1 ≤ u / 10 ^ (Lib.nDigits u - 1) := (Nat.le_div_iff_mul_le (Nat.pow_pos (by omega))).2 (by omega)
  rw [Nat.mod_eq_of_lt h3]
  exact h4
theorem div_step (u k : Nat) : u / 10 ^ k = u / 10 ^ (k + 1) * 10 + u / 10 ^ k % 10 := by
  rw [Nat.pow_succ, ← Nat.div_div_eq_div_mul]
  omega
theorem div_le (u k : Nat) : u / 10 ^ k ≤ u := Nat.div_le_self _ _
end Go.Proofs.Qxb6605953aDoor
