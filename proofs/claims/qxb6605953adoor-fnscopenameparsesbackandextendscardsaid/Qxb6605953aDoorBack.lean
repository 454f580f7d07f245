/-
  THE WALK of FnScopeNameParsesBackAndExtends (4).
-/
import Derived.Test.Qxb6605953aDoorParse
import Derived.Test.Qxb6605953aDoorExact
import Derived.BigQuiet
namespace Go.Proofs.Qxb6605953aDoor
open Go.RowKit

theorem below_drewN' {B : Nat} {a w : World} (m : Nat) (h : Below B a w) : Below B a (w.drewN m) := ⟨h.os, h.tape, h.output, h.size, h.block⟩

/-- What the next level adds. -/
theorem next_level (a b c l : Int) (n : Nat) (h1 : 1 ≤ n) (h2 : n < 4) : ∃ x, scopeL a b c l (n + 1) = scopeL a b c l n ++ 58 :: Lib.itoa x := by
  match n, h1, h2 with
  | 1, _, _ => exact ⟨b, by simp [scopeL, Lib.join, List.intercalate]⟩
  | 2, _, _ => exact ⟨c, by simp [scopeL, Lib.join, List.intercalate]⟩
  | 3, _, _ => exact ⟨l, by simp [scopeL, Lib.join, List.intercalate]⟩

set_option maxRecDepth 100000 in
set_option maxHeartbeats 4000000 in
theorem back_calls (a b c l d : Int) (w : World) (ha : InR a) (hb : InR b) (hc : InR c) (hl : InR l) (ht : Tab w) :
    Calls Tryd.prog 4 #[.int .i64 a, .int .i64 b, .int .i64 c, .int .i64 l, .int .i64 d] w (LawBack w) := by
  have HT := hide ht
  clear ht
  by_cases h0 : d < 0
  · go_enter Tryd.func4, Tryd.ntmps4
    go_wp2
    go_ret
    exact ⟨rfl, Below.refl _ _⟩
  by_cases h1 : 4 < d
  · go_enter Tryd.func4, Tryd.ntmps4
    go_wp2
    go_ret
    exact ⟨rfl, Below.refl _ _⟩
  obtain ⟨n, rfl⟩ : ∃ n : Nat, d = n := ⟨d.toNat, by omega⟩
  have hn : n ≤ 4 := by omega
  obtain ⟨s, es⟩ : ∃ s : ByteArray, s = ⟨(scopeL a b c l n).toArray⟩ := ⟨_, rfl⟩
  have ES := hide es
  clear es
  go_enter Tryd.func4, Tryd.ntmps4
  go_wp2_with fail
  refine (zzscope_calls a b c l n hn _ ha hb hc hl (HT.out.below ((Below.refl _ w).alloc (Nat.le_refl _) _) HT.out.lt)).mono ?_
  rintro e w1 ⟨rfl, hb1⟩
  rw [← ES.out]
  have HB1 : Hid (Below w.heap.size w w1) := ((Below.refl _ w).alloc (Nat.le_refl _) _).trans (hb1.mono (by simp))
  have HA : Hid (∀ j x, [a, b, c, l][j]? = some x → w1.cell? ⟨w.heap.size, j, none⟩ = some (.int .i64 x)) := fun j x hx => by
    rw [hb1.cell (p := ⟨w.heap.size, j, none⟩) (by simp)]
    match j, hx with
    | 0, hx => simp at hx; subst hx; simp
    | 1, hx => simp at hx; subst hx; simp
    | 2, hx => simp at hx; subst hx; simp
    | 3, hx => simp at hx; subst hx; simp
  have HS1 : w.heap.size + 1 ≤ w1.heap.size := by have := hb1.size; simpa using this
  clear hb1
  go_wp2_with fail
  refine (parse_calls ([a, b, c, l].take n) (by simp; omega) (fun x hx => by have := List.mem_of_mem_take hx; simp at this; rcases this with rfl | rfl | rfl | rfl <;> assumption) s (by rw [ES.out, scope_J a b c l n hn]) w1).mono ?_
  rintro e w2 ⟨rfl, hb2⟩
  have hlen : ([a, b, c, l].take n).length = n := by simp; omega
  rw [hlen]
  obtain ⟨y0, hy0⟩ : ∃ y, y = ([a, b, c, l].take n).getD 0 0 := ⟨_, rfl⟩
  obtain ⟨y1, hy1⟩ : ∃ y, y = ([a, b, c, l].take n).getD 1 0 := ⟨_, rfl⟩
  obtain ⟨y2, hy2⟩ : ∃ y, y = ([a, b, c, l].take n).getD 2 0 := ⟨_, rfl⟩
  obtain ⟨y3, hy3⟩ : ∃ y, y = ([a, b, c, l].take n).getD 3 0 := ⟨_, rfl⟩
  rw [← hy0, ← hy1, ← hy2, ← hy3]
  have HY : Hid (∀ j x, j < n → [a, b, c, l][j]? = some x → [y0, y1, y2, y3][j]? = some x) := fun j x hj hx => by
    have ht : ([a, b, c, l].take n)[j]? = some x := by rw [List.getElem?_take, if_pos hj]; exact hx
    match j, hx with
    | 0, _ => rw [hy0]; simp [List.getD_eq_getElem?_getD, ht]
    | 1, _ => rw [hy1]; simp [List.getD_eq_getElem?_getD, ht]
    | 2, _ => rw [hy2]; simp [List.getD_eq_getElem?_getD, ht]
    | 3, _ => rw [hy3]; simp [List.getD_eq_getElem?_getD, ht]
  have HB2 : Hid (Below w.heap.size w w2) := HB1.out.trans (hb2.mono (by omega))
  have HA2 : Hid (∀ j x, [a, b, c, l][j]? = some x → w2.cell? ⟨w.heap.size, j, none⟩ = some (.int .i64 x)) := fun j x hx => by
    rw [hb2.cell (p := ⟨w.heap.size, j, none⟩) (by simp; omega)]; exact HA.out j x hx
  have HS2 : w.heap.size + 1 ≤ w2.heap.size := by have := hb2.size; omega
  have q0 : ((n : Int) != (n : Int)) = false := by simp
  clear hb2 hlen hy0 hy1 hy2 hy3 HA HB1
  go_wp2_with fail
  obtain ⟨w3, hw3⟩ : ∃ w3, w3 = (w2.alloc (.cells #[.int .i64 y0, .int .i64 y1, .int .i64 y2, .int .i64 y3] 27)).alloc (.cells #[.int .i64 a, .int .i64 b, .int .i64 c, .int .i64 l] 27) := ⟨_, rfl⟩
  rw [← hw3]
  have hb3 : Below w2.heap.size w2 w3 := by rw [hw3]; exact ((Below.refl _ _).alloc (Nat.le_refl _) _).alloc (by simp) _
  have HB3 : Hid (Below w.heap.size w w3) := HB2.out.trans (hb3.mono (by omega))
  have HA3 : Hid (∀ j x, [a, b, c, l][j]? = some x → w3.cell? ⟨w.heap.size, j, none⟩ = some (.int .i64 x)) := fun j x hx => by
    rw [hb3.cell (p := ⟨w.heap.size, j, none⟩) (by simp; omega)]; exact HA2.out j x hx
  have HF : Hid (∀ j x, j < n → [a, b, c, l][j]? = some x → w3.cell? ⟨w2.heap.size, j, none⟩ = some (.int .i64 x)) := fun j x hj hx => by
    have hy := HY.out j x hj hx
    rw [hw3]
    match j, hy with
    | 0, hy => simp at hy; subst hy; simp
    | 1, hy => simp at hy; subst hy; simp
    | 2, hy => simp at hy; subst hy; simp
    | 3, hy => simp at hy; subst hy; simp
  have HG : Hid (∀ j x, [a, b, c, l][j]? = some x → w3.cell? ⟨w2.heap.size + 1, j, none⟩ = some (.int .i64 x)) := fun j x hx => by
    rw [hw3]
    match j, hx with
    | 0, hx => simp at hx; subst hx; simp
    | 1, hx => simp at hx; subst hx; simp
    | 2, hx => simp at hx; subst hx; simp
    | 3, hx => simp at hx; subst hx; simp
  clear hw3 hb3 HB2 HA2 HY
  go_loopw [17] (fun i wr => ∃ k m : Nat, k ≤ n ∧ i = .int .i64 k ∧ wr = w3.drewN m) (fun i _ => n - (intOf i).toNat)
  case atStart => exact ⟨0, 0, Nat.zero_le _, rfl, rfl⟩
  case round =>
    obtain ⟨k, m, hk, rfl, rfl⟩ := hrel
    by_cases hlt : k < n
    · obtain ⟨x, hx⟩ : ∃ x, [a, b, c, l][k]? = some x := ⟨_, List.getElem?_eq_getElem (by simp; omega)⟩
      have g1 := HF.out k x hlt hx
      have g2 := HG.out k x hx
      have kz : (0 : Int) ≤ (k : Int) := by omega
      have k4 : (k : Int) < 4 := by omega
      have kn : (k : Int) < (n : Int) := by omega
      clear hx
      go_wp2
      go_quiet (fail)
      go_wp2
      go_roundw
      case rel => exact ⟨k + 1, m + nq, by omega, by go_num, rfl⟩
      case measure => simp [intOf]; omega
    · obtain rfl : k = n := by omega
      by_cases e0 : k = 0
      · subst e0
        go_wp2
        go_ret
        exact ⟨rfl, below_drewN' _ HB3.out⟩
      by_cases e4 : k = 4
      · subst e4
        go_wp2
        go_ret
        exact ⟨rfl, below_drewN' _ HB3.out⟩
      have k1 : 1 ≤ (k : Int) := by omega
      have k4 : (k : Int) < 4 := by omega
      have a0 := HA3.out 0 a rfl
      have a1 := HA3.out 1 b rfl
      have a2 := HA3.out 2 c rfl
      have a3 := HA3.out 3 l rfl
      obtain ⟨x, hx⟩ := next_level a b c l k (by omega) (by omega)
      obtain ⟨t, et⟩ : ∃ t : ByteArray, t = ⟨(scopeL a b c l (k + 1)).toArray⟩ := ⟨_, rfl⟩
      have ET := hide et
      rw [hx] at et
      have hss : s.size = (scopeL a b c l k).length := by rw [ES.out]; rfl
      have hts : t.size = s.size + 1 + (Lib.itoa x).length := by rw [et, hss]; show List.length _ = _; simp; omega
      have hix : 1 ≤ (Lib.itoa x).length := by
        unfold Lib.itoa
        split
        · simp
        · rw [Lib.decDigits_length]; exact Lib.nDigits_pos _
      have hsl := scopeL_len a b c l k (by omega) ha hb hc hl
      have htl := scopeL_len a b c l (k + 1) (by omega) ha hb hc hl
      have hex : t.extract 0 s.size = s := by
        rw [et, ES.out]
        apply ByteArray.ext
        apply Array.toList_inj.1
        rw [Lib.extract_data]
        show List.take (List.length (scopeL a b c l k) - 0) (List.drop 0 (scopeL a b c l k ++ 58 :: Lib.itoa x)) = scopeL a b c l k
        simp
      have hbt : s.size < t.size := by omega
      have hch : t[s.size]'hbt = 58 := by
        have hA : At t 0 (scopeL a b c l k ++ 58 :: Lib.itoa x) := by rw [et]; exact At.whole _
        obtain ⟨h1, h2⟩ := hA.right 0 58 rfl
        simp only [Nat.zero_add, Nat.add_zero] at h2
        simp only [hss]
        exact h2
      have ht1 : (s.size : Int) + 1 < (t.size : Int) := by omega
      have ht2 : (t.size : Int) ≤ 100 := by have : t.size = (scopeL a b c l (k + 1)).length := by rw [ET.out]; rfl
                                            omega
      have hs2 : (s.size : Int) ≤ 100 := by omega
      have HT3 := hide (HT.out.below (below_drewN' m HB3.out) HT.out.lt)
      clear et hx hss hts hix hsl htl
      go_wp2_with fail
      refine (zzscope_calls a b c l (k + 1) (by omega) _ ha hb hc hl HT3.out).mono ?_
      rintro e w4 ⟨rfl, hb4⟩
      rw [← ET.out]
      have HB4 : Hid (Below w.heap.size w w4) := (below_drewN' m HB3.out).trans (hb4.mono HB3.out.size)
      clear hb4 a0 a1 a2 a3
      go_wp2
      go_ret
      exact ⟨rfl, HB4.out⟩
end Go.Proofs.Qxb6605953aDoor
