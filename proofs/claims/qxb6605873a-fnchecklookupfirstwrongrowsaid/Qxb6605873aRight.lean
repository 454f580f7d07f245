/-
  zzEntryAt, zzRowRight.
-/
import Derived.Test.Qxb6605873aMem
set_option linter.unusedVariables false
namespace Go.Proofs.Qxb6605873a
open Go.RowKit Go.Sort

def AtPost (w : World) (n : Nat) (O : Nat → Int) (o : Int) (e : Ending) (w' : World) : Prop :=
  w' = w ∧ ((∃ i : Nat, i < n ∧ e = .returned (.int .i64 (i : Int)) ∧ O i = o) ∨ (e = .returned (.int .i64 (-1)) ∧ ∀ i, i < n → O i ≠ o))

set_option maxRecDepth 100000 in
set_option maxHeartbeats 2000000 in
theorem entryAt_calls (a : Option Addr) (c n : Nat) (O : Nat → Int) (o : Int) (w : World) (hn : n ≤ 65536) (h0 : Rd .i64 w a n O) (hO : ∀ i, i < n → 0 ≤ O i ∧ O i ≤ 9223372036854775807) (hA : ∀ i j, i < j → j < n → O i < O j) :
    Calls Try.prog 25 #[.slice a n c, .int .u64 o] w (AtPost w n O o) := by
  have H0 : Hid (Rd .i64 w a n O) := h0
  have HOb : Hid (∀ i, i < n → 0 ≤ O i ∧ O i ≤ 9223372036854775807) := hO
  have HAs : Hid (∀ i j, i < j → j < n → O i < O j) := hA
  clear h0 hO hA
  go_enter Try.func25, Try.ntmps25
  go_wp2
  go_loopw [5, 6] (fun v5 v6 wr => ∃ (lo hi : Nat), v5 = .int .i64 lo ∧ v6 = .int .i64 hi ∧ lo ≤ hi ∧ hi ≤ n ∧ Hid (∀ i, i < lo → O i < o) ∧ Hid (∀ i, hi ≤ i → i < n → o < O i) ∧ wr = w)
    (fun v5 v6 _ => (intOf v6).toNat - (intOf v5).toNat)
  case atStart => exact ⟨0, n, rfl, rfl, by omega, Nat.le_refl _, fun i hi => by omega, fun i h1 h2 => by omega, rfl⟩
  case round =>
    obtain ⟨lo, hi, rfl, rfl, hlh, hhn, HLo, HHi, rfl⟩ := hrel
    by_cases hlt : lo < hi
    · obtain ⟨b, rfl, hb, hc⟩ := H0.out (by omega)
      obtain ⟨h2, eh2⟩ : ∃ h2, h2 = (hi - lo) / 2 := ⟨_, rfl⟩
      obtain ⟨mid, emid⟩ : ∃ m, m = lo + h2 := ⟨_, rfl⟩
      have e1 : ((hi : Int) - lo) / 2 = h2 := by omega
      have e2 : (lo : Int) + h2 = mid := by omega
      have hm1 : lo ≤ mid := by omega
      have hm2 : mid < hi := by omega
      have hh2 : h2 ≤ n := by omega
      obtain ⟨v, hv⟩ : ∃ v, v = O mid := ⟨_, rfl⟩
      have cm : wr.cell? ⟨b, mid, none⟩ = some (.int .i64 v) := by rw [hv]; exact hc mid (by omega)
      obtain ⟨v0, v1⟩ := HOb.out mid (by omega)
      rw [← hv] at v0 v1
      have HV : Hid (v = O mid) := hv
      have i1 : (mid : Int) < (n : Int) := by omega
      clear H0 hc emid eh2 hv
      by_cases he : v = o
      · have he' : (v == o) = true := by simp [he]
        have HF : Hid (O mid = o) := by rw [← HV.out]; exact he
        go_wp2
        go_ret
        exact ⟨rfl, Or.inl ⟨mid, by omega, rfl, HF.out⟩⟩
      · have he' : (v == o) = false := by simp [he]
        by_cases hlt2 : v < o
        · have HF : Hid (∀ i, i < mid + 1 → O i < o) := fun i hi2 => by
            rcases Nat.lt_or_ge i mid with c | c
            · have := HAs.out i mid c (by omega); rw [← HV.out] at this; omega
            · obtain rfl : i = mid := by omega
              rw [← HV.out]; exact hlt2
          go_wp2
          go_roundw
          case rel => exact ⟨mid + 1, hi, by go_num, rfl, by omega, hhn, HF, HHi, trivial⟩
          case measure => simp [intOf]; omega
        · have hlt3 : decide (v < o) = false := by simp; omega
          have HF : Hid (∀ i, mid ≤ i → i < n → o < O i) := fun i hi2 hi3 => by
            rcases Nat.lt_or_ge mid i with c | c
            · have := HAs.out mid i c hi3; rw [← HV.out] at this; omega
            · obtain rfl : i = mid := by omega
              rw [← HV.out]; omega
          go_wp2
          go_roundw
          case rel => exact ⟨lo, mid, rfl, rfl, hm1, by omega, HLo, HF, trivial⟩
          case measure => simp [intOf]; omega
    · have kl : ¬ (lo : Int) < (hi : Int) := by omega
      go_wp2
      go_ret
      refine ⟨rfl, Or.inr ⟨rfl, fun i hi2 e => ?_⟩⟩
      rcases Nat.lt_or_ge i lo with c | c
      · have := HLo.out i c; omega
      · have := HHi.out i (by omega) hi2; omega

/-- What the law asks of a row. -/
def Good (n : Nat) (P X O : Nat → Int) (ρ : Nat → Nat) (r : Nat) (p o x : Int) : Prop :=
  ∃ i : Nat, i < n ∧ O i = o ∧ ρ i = r ∧ P i = p ∧ (if X i = 0 then x = 4294967295 else x = (ρ (i - (X i).toNat) : Int))
def RightPost (w : World) (G : Prop) (e : Ending) (w' : World) : Prop := ∃ t : Bool, e = .returned (.bool t) ∧ w' = w ∧ (t = true ↔ G)

set_option maxRecDepth 100000 in
set_option maxHeartbeats 4000000 in
theorem rowRight_calls (a3 a4 a5 : Option Addr) (c3 c4 c5 n g r : Nat) (P X O : Nat → Int) (ρ : Nat → Nat) (p o x : Int) (w : World) (hn : n ≤ 65536) (hr : r ≤ 65536)
    (h3 : Rd .u32 w a3 n P) (h4 : Rd .u8 w a4 n X) (h5 : Rd .i64 w a5 n O) (h6 : Nums .i64 w g n (fun i => (ρ i : Int)))
    (hX : ∀ i, i < n → 0 ≤ X i ∧ X i ≤ i ∧ X i < 256) (hO : ∀ i, i < n → 0 ≤ O i ∧ O i ≤ 9223372036854775807) (hA : ∀ i j, i < j → j < n → O i < O j) (hρ : ∀ i, i < n → ρ i < n) (hx0 : 0 ≤ x) (hx1 : x ≤ 4294967295) :
    Calls Try.prog 20 #[.int .i64 r, .int .u32 p, .int .u64 o, .int .u32 x, .slice a3 n c3, .slice a4 n c4, .slice a5 n c5, .slice (some ⟨g, 0, none⟩) n n] w (RightPost w (Good n P X O ρ r p o x)) := by
  have H3 : Hid (Rd .u32 w a3 n P) := h3
  have H4 : Hid (Rd .u8 w a4 n X) := h4
  have H5 : Hid (Rd .i64 w a5 n O) := h5
  have H6 : Hid (Nums .i64 w g n (fun i => (ρ i : Int))) := h6
  have HXb : Hid (∀ i, i < n → 0 ≤ X i ∧ X i ≤ i ∧ X i < 256) := hX
  have HOb : Hid (∀ i, i < n → 0 ≤ O i ∧ O i ≤ 9223372036854775807) := hO
  have HAs : Hid (∀ i j, i < j → j < n → O i < O j) := hA
  have HRb : Hid (∀ i, i < n → ρ i < n) := hρ
  clear h3 h4 h5 h6 hX hO hA hρ
  go_enter Try.func20, Try.ntmps20
  go_wp2_with fail
  refine (entryAt_calls a5 c5 n O o _ hn H5.out HOb.out HAs.out).mono ?_
  rintro e w1 ⟨rfl, ⟨i, hi, rfl, hOi⟩ | ⟨rfl, hno⟩⟩
  · -- the entry is there, and it is the only one
    have HU : Hid (∀ j, j < n → O j = o → j = i) := fun j hj e => by
      rcases Nat.lt_trichotomy j i with c | c | c
      · have := HAs.out j i c hi; omega
      · exact c
      · have := HAs.out i j c hj; omega
    have HOi : Hid (O i = o) := hOi
    clear hOi
    obtain ⟨b3, rfl, hb3, hc3⟩ := H3.out (by omega)
    obtain ⟨b4, rfl, hb4, hc4⟩ := H4.out (by omega)
    obtain ⟨q, hq⟩ : ∃ q, q = ρ i := ⟨_, rfl⟩
    obtain ⟨pi, hpi⟩ : ∃ q, q = P i := ⟨_, rfl⟩
    obtain ⟨xi, hxi⟩ : ∃ q : Nat, q = (X i).toNat := ⟨_, rfl⟩
    obtain ⟨x0, x1, x2⟩ := HXb.out i hi
    have d6 : w1.cell? ⟨g, i, none⟩ = some (.int .i64 (q : Int)) := by rw [hq]; exact H6.out i hi
    have d3 : w1.cell? ⟨b3, i, none⟩ = some (.int .u32 pi) := by rw [hpi]; exact hc3 i hi
    have exi : X i = (xi : Int) := by omega
    have d4 : w1.cell? ⟨b4, i, none⟩ = some (.int .u8 (xi : Int)) := by rw [← exi]; exact hc4 i hi
    have HG : Hid (Good n P X O ρ r p o x ↔ (q = r ∧ pi = p ∧ (if (xi : Int) = 0 then x = 4294967295 else x = (ρ (i - xi) : Int)))) := by
      rw [hq, hpi]
      constructor
      · rintro ⟨j, hj, g1, g2, g3, g4⟩
        obtain rfl := HU.out j hj g1
        rw [exi] at g4
        simp only [Int.toNat_natCast] at g4
        exact ⟨g2, g3, g4⟩
      · rintro ⟨g2, g3, g4⟩
        refine ⟨i, hi, HOi.out, g2, g3, ?_⟩
        rw [exi]
        simp only [Int.toNat_natCast]
        exact g4
    obtain ⟨t, ht⟩ : ∃ t, t = i - xi := ⟨_, rfl⟩
    have et : (i : Int) - xi = t := by omega
    have htn : t < n := by omega
    obtain ⟨rt, hrt⟩ : ∃ q, q = ρ t := ⟨_, rfl⟩
    have hrtn : rt < n := by rw [hrt]; exact HRb.out t htn
    have d7 : w1.cell? ⟨g, t, none⟩ = some (.int .i64 (rt : Int)) := by rw [hrt]; exact H6.out t htn
    rw [← ht, ← hrt] at HG
    have hqn : q < n := by rw [hq]; exact HRb.out i hi
    have i1 : (i : Int) < (n : Int) := by omega
    have i2 : (0 : Int) ≤ (i : Int) := by omega
    have i3 : ¬ (i : Int) < 0 := by omega
    have i4 : (t : Int) < (n : Int) := by omega
    have hx255 : xi < 256 := by omega
    clear H3 H4 H5 H6 HXb HOb HAs HRb hc3 hc4 hq hpi hxi exi ht hrt x0 x1 x2 HU HOi hb3 hb4
    by_cases g1 : q = r
    · have g1' : ((q : Int) == (r : Int)) = true := by simp [g1]
      by_cases g2 : pi = p
      · have g2' : (pi == p) = true := by simp [g2]
        by_cases g3 : xi = 0
        · have g3' : ((xi : Int) == 0) = true := by simp [g3]
          go_wp2
          go_ret
          refine ⟨_, rfl, rfl, ?_⟩
          rw [HG.out]
          simp [g1, g2, g3]
        · have g3' : ((xi : Int) == 0) = false := by simp [g3]
          go_wp2
          go_ret
          refine ⟨_, rfl, rfl, ?_⟩
          rw [HG.out]
          simp [g1, g2, g3]
      · have g2' : (pi == p) = false := by simp [g2]
        go_wp2
        go_ret
        refine ⟨_, rfl, rfl, ?_⟩
        rw [HG.out]
        simp [g2]
    · have g1' : ((q : Int) == (r : Int)) = false := by simp; omega
      go_wp2
      go_ret
      refine ⟨_, rfl, rfl, ?_⟩
      rw [HG.out]
      simp [g1]
  · have HN : Hid (∀ i, i < n → O i ≠ o) := hno
    clear hno
    go_wp2
    go_ret
    refine ⟨_, rfl, rfl, ?_⟩
    constructor
    · intro h; cases h
    · rintro ⟨i, hi, e, _⟩
      exact (HN.out i hi e).elim
end Go.Proofs.Qxb6605873a
