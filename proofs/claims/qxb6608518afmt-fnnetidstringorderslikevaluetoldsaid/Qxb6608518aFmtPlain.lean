/-
  THE PLAIN LAW: six upper-case hexadecimal digits sort as the 24-bit value does. No Go in sight.
-/
import Derived.Test.Qxb6608518aFmtStr
import Derived.Laws.BitsAllLaws
import Derived.Sort.Walk0
namespace Go.Proofs.Qxb6608518aFmt
open Go.RowKit Go.Extern.Stop Go.Stop Go.Extern

abbrev D (d : Nat) : UInt8 := FmtText.digit true d
theorem D_lt : ∀ i, i < 16 → ∀ j, j < 16 → (D i < D j ↔ i < j) := by decide
theorem D_eq : ∀ i, i < 16 → ∀ j, j < 16 → (D i = D j ↔ i = j) := by decide
/-- The value of hexadecimal digits. -/
def V : List Nat → Nat
  | [] => 0
  | d :: r => d * 16 ^ r.length + V r
theorem V_lt : ∀ l : List Nat, (∀ d ∈ l, d < 16) → V l < 16 ^ l.length
  | [], _ => by simp [V]
  | d :: r, h => by
    have h1 := V_lt r fun x hx => h x (List.mem_cons_of_mem _ hx)
    have h2 := h d List.mem_cons_self
    have h3 : d * 16 ^ r.length ≤ 15 * 16 ^ r.length := Nat.mul_le_mul_right _ (by omega)
    simp only [V, List.length_cons, Nat.pow_succ]
    omega
theorem cmp (d e X : Nat) (v u : Nat) (hv : v < X) (hu : u < X) : (d * X + v < e * X + u ↔ d < e ∨ d = e ∧ v < u) ∧ (d * X + v = e * X + u ↔ d = e ∧ v = u) := by
  rcases Nat.lt_trichotomy d e with h | h | h
  · have : (d + 1) * X ≤ e * X := Nat.mul_le_mul_right _ h
    rw [Nat.succ_mul] at this
    constructor <;> constructor <;> intro g <;> omega
  · subst h
    constructor <;> constructor <;> intro g <;> omega
  · have : (e + 1) * X ≤ d * X := Nat.mul_le_mul_right _ h
    rw [Nat.succ_mul] at this
    constructor <;> constructor <;> intro g <;> omega
theorem less : ∀ (l m : List Nat), l.length = m.length → (∀ d ∈ l, d < 16) → (∀ d ∈ m, d < 16) → ((l.map D < m.map D ↔ V l < V m) ∧ (l.map D = m.map D ↔ V l = V m))
  | [], [], _, _, _ => by simp [V]
  | [], _ :: _, h, _, _ => by simp at h
  | _ :: _, [], h, _, _ => by simp at h
  | d :: l, e :: m, h, hl, hm => by
    have hlen : l.length = m.length := by simpa using h
    have hl' : ∀ x ∈ l, x < 16 := fun x hx => hl x (List.mem_cons_of_mem _ hx)
    have hm' : ∀ x ∈ m, x < 16 := fun x hx => hm x (List.mem_cons_of_mem _ hx)
    obtain ⟨i1, i2⟩ := less l m hlen hl' hm'
    have hd := hl d List.mem_cons_self
    have he := hm e List.mem_cons_self
    have c := cmp d e (16 ^ l.length) (V l) (V m) (V_lt l hl') (by rw [hlen]; exact V_lt m hm')
    simp only [V, List.map_cons, List.cons_lt_cons_iff, List.cons.injEq, ← hlen, D_lt d hd e he, D_eq d hd e he, i1, i2]
    exact ⟨c.1.symm, c.2.symm⟩

/-- The six digits of three bytes. -/
def nib (A B C : Nat) : List Nat := [A / 16, A % 16, B / 16, B % 16, C / 16, C % 16]
theorem nib_lt (A B C : Nat) (hA : A < 256) (hB : B < 256) (hC : C < 256) : ∀ d ∈ nib A B C, d < 16 := by
  intro d hd
  simp [nib] at hd
  omega
theorem nib_V (A B C : Nat) : V (nib A B C) = A * 65536 + B * 256 + C := by
  simp [nib, V]
  omega
theorem text_nib (A B C : Nat) (hA : A < 256) (hB : B < 256) (hC : C < 256) : FmtText.hexOf true (FmtText.bytesOf [(A : Int), (B : Int), (C : Int)]) = (nib A B C).map D := by
  have e : ∀ x : Nat, x < 256 → (UInt8.ofNat ((x : Int) % 18446744073709551616).toNat).toNat = x := fun x hx => by
    rw [UInt8.toNat_ofNat', show ((x : Int) % 18446744073709551616).toNat = x by omega, Nat.mod_eq_of_lt (by omega)]
  simp [FmtText.bytesOf, FmtText.hexOf, nib, e A hA, e B hB, e C hC]
theorem or3 (A B C : Nat) (hA : A < 256) (hB : B < 256) (hC : C < 256) : bits .or .u32 (bits .or .u32 ((A : Int) % 4294967296 * 65536 % 4294967296) ((B : Int) % 4294967296 * 256 % 4294967296)) ((C : Int) % 4294967296) = ((A * 65536 + B * 256 + C : Nat) : Int) := by
  have e1 : (A : Int) % 4294967296 * 65536 % 4294967296 = ((A * 65536 : Nat) : Int) := by omega
  have e2 : (B : Int) % 4294967296 * 256 % 4294967296 = ((B * 256 : Nat) : Int) := by omega
  have e3 : (C : Int) % 4294967296 = ((C : Nat) : Int) := by omega
  have o1 : A * 65536 ||| B * 256 = A * 65536 + B * 256 := by
    have := Nat.two_pow_add_eq_or_of_lt (i := 16) (b := B * 256) (by omega) A
    rw [show A * 65536 = 2 ^ 16 * A by omega]; exact this.symm
  have o2 : (A * 65536 + B * 256) ||| C = A * 65536 + B * 256 + C := by
    have := Nat.two_pow_add_eq_or_of_lt (i := 8) (b := C) (by omega) (A * 256 + B)
    rw [show A * 65536 + B * 256 = 2 ^ 8 * (A * 256 + B) by omega]; exact this.symm
  rw [e1, e2, e3, u32_or_nat _ _ (by omega) (by omega), o1, u32_or_nat _ _ (by omega) (by omega), o2]
theorem or3' (A B C : Nat) (hA : A < 256) (hB : B < 256) (hC : C < 256) : bits .or .u32 (bits .or .u32 ((A : Int) * 65536) ((B : Int) * 256)) (C : Int) = ((A * 65536 + B * 256 + C : Nat) : Int) := by
  have h := or3 A B C hA hB hC
  rw [show (A : Int) % 4294967296 * 65536 % 4294967296 = (A : Int) * 65536 by omega, show (B : Int) % 4294967296 * 256 % 4294967296 = (B : Int) * 256 by omega, show (C : Int) % 4294967296 = (C : Int) by omega] at h
  exact h
end Go.Proofs.Qxb6608518aFmt
