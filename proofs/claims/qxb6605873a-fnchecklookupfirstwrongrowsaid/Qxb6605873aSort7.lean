/-
  choosePivot at uint64.
-/
import Derived.Test.Qxb6605873aSort6
set_option linter.unusedVariables false
namespace Go.Proofs.Qxb6605873a
open Go.RowKit Go.Sort

theorem Cnt.make {w0 w : World} {blk : Nat} {d : Array Int} (h : Arr w0 w blk d) : Cnt w0 (w.alloc (.cells #[.int .i64 0] 3)) blk w.heap.size d 0 :=
  ⟨⟨fun t ht => by rw [World.cell?_alloc_past _ _ _ h.lt]; exact h.cell t ht, fun t ht => by rw [World.frozen?_alloc_past _ _ _ h.lt]; exact h.fro t ht, h.below.alloc (by have := h.lt; omega) _, by have := h.lt; simp; omega⟩,
    by rw [World.cell?_alloc_at _ _ _ _ rfl]; rfl, World.frozen?_alloc_at _ _ _ _ rfl, h.lt, Int.le_refl _⟩

def Piv (w0 : World) (blk a b : Nat) (d : Array Int) (e : Ending) (w' : World) : Prop :=
  ∃ (p h : Nat), e = .returned (.tuple #[.int .i64 p, .int .i64 h]) ∧ a ≤ p ∧ p < b ∧ (h = 0 ∨ h = 1 ∨ h = 2) ∧ Arr w0 w' blk d

set_option maxRecDepth 100000 in
set_option maxHeartbeats 2000000 in
theorem choosePivot_calls (w0 : World) (blk c n a b : Nat) (d : Array Int) (w : World) (hd : d.size = n) (hH : Arr w0 w blk d) (hab : a + 12 < b) (hb : b ≤ n) (hsz : n ≤ 1048576) :
    Calls Try.prog 33 #[.slice (some ⟨blk, 0, none⟩) n c, .int .i64 a, .int .i64 b] w (Piv w0 blk a b d) := by
  obtain ⟨l, hl⟩ : ∃ l, l = b - a := ⟨_, rfl⟩
  obtain ⟨q, hq⟩ : ∃ q, q = l / 4 := ⟨_, rfl⟩
  obtain ⟨i, hi⟩ : ∃ i, i = a + q := ⟨_, rfl⟩
  obtain ⟨j, hj⟩ : ∃ j, j = a + q * 2 := ⟨_, rfl⟩
  obtain ⟨k, hk⟩ : ∃ k, k = a + q * 3 := ⟨_, rfl⟩
  have e1 : (b : Int) - a = l := by omega
  have e2 : (l : Int) / 4 = q := by omega
  have e3 : (a : Int) + q = i := by omega
  have e4 : (a : Int) + q * 2 = j := by omega
  have e5 : (a : Int) + q * 3 = k := by omega
  have hq2 : q ≤ n := by omega
  have hln : l ≤ n := by omega
  have hl8 : 12 < l := by omega
  have hi0 : 0 < i := by omega
  have hin : i + 1 < n := by omega
  have hj0 : 0 < j := by omega
  have hjn : j + 1 < n := by omega
  have hk0 : 0 < k := by omega
  have hkn : k + 1 < n := by omega
  have HI : Hid (a + 1 ≤ i ∧ i + 1 < b) := by constructor <;> omega
  have HJ : Hid (a + 1 ≤ j ∧ j + 1 < b) := by constructor <;> omega
  have HK : Hid (a + 1 ≤ k ∧ k + 1 < b) := by constructor <;> omega
  have HD : Hid (d.size = n) := hd
  have HA : Hid (Arr w0 w blk d) := hH
  clear hl hq hi hj hk hd hH
  go_enter Try.func33, Try.ntmps33
  have HC0 : Hid (Cnt w0 (w.alloc (.cells #[.int .i64 0] 3)) blk w.heap.size d 0) := Cnt.make HA.out
  by_cases h50 : 50 ≤ l
  · go_wp2_with fail
    obtain ⟨g, hg⟩ : ∃ g, g = w.heap.size := ⟨_, rfl⟩
    rw [← hg] at HC0
    rw [← hg]
    clear hg
    refine (medianAdjacent_calls w0 blk c n g i d 0 _ HD.out HC0.out hi0 hin (by omega) hsz).mono ?_
    rintro e w1 ⟨m1, v1, rfl, h1, hv1, hC1⟩
    have HC1 : Hid (Cnt w0 w1 blk g d v1) := hC1
    have H1 : Hid (a ≤ m1 ∧ m1 < b ∧ m1 < n) := by have := HI.out; refine ⟨?_, ?_, ?_⟩ <;> omega
    clear hC1 h1 HC0 HA
    go_wp2_with fail
    refine (medianAdjacent_calls w0 blk c n g j d v1 _ HD.out HC1.out hj0 hjn (by omega) hsz).mono ?_
    rintro e w2 ⟨m2, v2, rfl, h2, hv2, hC2⟩
    have HC2 : Hid (Cnt w0 w2 blk g d v2) := hC2
    have H2 : Hid (a ≤ m2 ∧ m2 < b ∧ m2 < n) := by have := HJ.out; refine ⟨?_, ?_, ?_⟩ <;> omega
    clear hC2 h2 HC1
    go_wp2_with fail
    refine (medianAdjacent_calls w0 blk c n g k d v2 _ HD.out HC2.out hk0 hkn (by omega) hsz).mono ?_
    rintro e w3 ⟨m3, v3, rfl, h3, hv3, hC3⟩
    have HC3 : Hid (Cnt w0 w3 blk g d v3) := hC3
    have H3 : Hid (a ≤ m3 ∧ m3 < b ∧ m3 < n) := by have := HK.out; refine ⟨?_, ?_, ?_⟩ <;> omega
    clear hC3 h3 HC2
    go_wp2_with fail
    refine (median_calls w0 blk c n g m1 m2 m3 d v3 _ HD.out HC3.out H1.out.2.2 H2.out.2.2 H3.out.2.2 (by omega) hsz).mono ?_
    rintro e w4 ⟨m4, v4, rfl, h4, hv4, hC4⟩
    have HC4 : Hid (Cnt w0 w4 blk g d v4) := hC4
    have HR : Hid (a ≤ m4 ∧ m4 < b) := by have t1 := H1.out; have t2 := H2.out; have t3 := H3.out; refine ⟨?_, ?_⟩ <;> omega
    clear hC4 h4 HC3
    have c4 := HC4.out.cell
    have HA4 : Hid (Arr w0 w4 blk d) := HC4.out.arr
    clear HC4
    by_cases z0 : v4 = 0
    · subst z0
      go_wp2
      go_ret2
      exact ⟨m4, 1, rfl, HR.out.1, HR.out.2, by omega, HA4.out⟩
    · have z0' : (v4 == 0) = false := by simp [z0]
      by_cases z1 : v4 = 12
      · subst z1
        go_wp2
        go_ret2
        exact ⟨m4, 2, rfl, HR.out.1, HR.out.2, by omega, HA4.out⟩
      · have z1' : (v4 == 12) = false := by simp [z1]
        go_wp2
        go_ret2
        exact ⟨m4, 0, rfl, HR.out.1, HR.out.2, by omega, HA4.out⟩
  · go_wp2_with fail
    obtain ⟨g, hg⟩ : ∃ g, g = w.heap.size := ⟨_, rfl⟩
    rw [← hg] at HC0
    rw [← hg]
    clear hg
    refine (median_calls w0 blk c n g i j k d 0 _ HD.out HC0.out (by omega) (by omega) (by omega) (by omega) hsz).mono ?_
    rintro e w4 ⟨m4, v4, rfl, h4, hv4, hC4⟩
    have HC4 : Hid (Cnt w0 w4 blk g d v4) := hC4
    have HR : Hid (a ≤ m4 ∧ m4 < b) := by have t1 := HI.out; have t2 := HJ.out; have t3 := HK.out; refine ⟨?_, ?_⟩ <;> omega
    clear hC4 h4 HC0 HA
    have c4 := HC4.out.cell
    have HA4 : Hid (Arr w0 w4 blk d) := HC4.out.arr
    clear HC4
    by_cases z0 : v4 = 0
    · subst z0
      go_wp2
      go_ret2
      exact ⟨m4, 1, rfl, HR.out.1, HR.out.2, by omega, HA4.out⟩
    · have z0' : (v4 == 0) = false := by simp [z0]
      by_cases z1 : v4 = 12
      · subst z1
        go_wp2
        go_ret2
        exact ⟨m4, 2, rfl, HR.out.1, HR.out.2, by omega, HA4.out⟩
      · have z1' : (v4 == 12) = false := by simp [z1]
        go_wp2
        go_ret2
        exact ⟨m4, 0, rfl, HR.out.1, HR.out.2, by omega, HA4.out⟩
end Go.Proofs.Qxb6605873a
