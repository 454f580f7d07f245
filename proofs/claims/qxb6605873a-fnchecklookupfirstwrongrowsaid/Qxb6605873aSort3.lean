/-
  heapSortOrdered, reverseRangeOrdered at uint64.
-/
import Derived.Test.Qxb6605873aSort2
set_option linter.unusedVariables false
namespace Go.Proofs.Qxb6605873a
open Go.RowKit Go.Sort

theorem sift_size (hi first : Nat) : ∀ (k r : Nat) (d : Array Int), hi - r ≤ k → (siftDown ltInt hi first r d).size = d.size := by
  intro k
  induction k with
  | zero => intro r d h; rw [sift_end (by omega)]
  | succ k ih =>
    intro r d h
    rw [siftDown]
    split
    · rfl
    · split
      · split
        · rfl
        · split
          · rw [ih _ _ (by omega), size_swp]
          · rfl
      · split
        · rfl
        · rw [ih _ _ (by omega), size_swp]

set_option maxRecDepth 100000 in
set_option maxHeartbeats 2000000 in
theorem heapSort_calls (w0 : World) (blk c n a b : Nat) (d : Array Int) (w : World) (hd : d.size = n) (hH : Arr w0 w blk d) (hab : a < b) (hb : b ≤ n) (hsz : n ≤ 1048576) :
    Calls Try.prog 31 #[.slice (some ⟨blk, 0, none⟩) n c, .int .i64 a, .int .i64 b] w fun e w' =>
      e = .returned (.tuple #[]) ∧ Arr w0 w' blk (heapSort ltInt d a b) := by
  obtain ⟨q, hq⟩ : ∃ q, q = b - a := ⟨_, rfl⟩
  have e1 : (b : Int) - a = (q : Int) := by omega
  have HQ : Hid (q = b - a) := hq
  have HB : Hid (a + q ≤ n) := by show a + q ≤ n; omega
  have hq0 : 0 < q := by omega
  have hqn : q ≤ n := by omega
  clear hq
  obtain ⟨m, hm⟩ : ∃ m, m = (q - 1) / 2 := ⟨_, rfl⟩
  have E2 : Hid (((q : Int) - 1) / 2 = (m : Int)) := by show ((q : Int) - 1) / 2 = (m : Int); omega
  have HM : Hid (m = (q - 1) / 2) := hm
  have HMQ : Hid (m < q) := by show m < q; omega
  have hm0 : m ≤ n := by omega
  clear hm
  go_enter Try.func31, Try.ntmps31
  go_wp2
  go_loopw [9] (fun vi wr => ∃ (k : Nat) (dk : Array Int), vi = .int .i64 ((k : Int) - 1) ∧ k ≤ m + 1 ∧ dk.size = n ∧ Arr w0 wr blk dk ∧
      heapBuild ltInt q a k dk = heapBuild ltInt q a (m + 1) d) (fun vi _ => (intOf vi + 1).toNat)
  case atStart => exact ⟨m + 1, d, by rw [E2.out]; congr 1; omega, by omega, hd, hH, rfl⟩
  case round =>
    obtain ⟨k, dk, rfl, hk, hsk, hwr, hO⟩ := hrel
    have HO : Hid (heapBuild ltInt q a k dk = heapBuild ltInt q a (m + 1) d) := hO
    have HW : Hid (Arr w0 wr blk dk) := hwr
    have HS : Hid (dk.size = n) := hsk
    clear hO hwr hsk hH hd
    cases k with
    | zero =>
      have x0 : ((0 : Nat) : Int) - 1 = -1 := rfl
      simp only [x0]
      clear x0
      go_wp2
      go_loopw [10] (fun vi wr => ∃ (k : Nat) (dk : Array Int), vi = .int .i64 ((k : Int) - 1) ∧ k ≤ q ∧ dk.size = n ∧ Arr w0 wr blk dk ∧
          heapPop ltInt a k dk = heapSort ltInt d a b) (fun vi _ => (intOf vi + 1).toNat)
      case atStart =>
        refine ⟨q, dk, rfl, Nat.le_refl _, HS.out, HW.out, ?_⟩
        unfold heapSort
        rw [← HQ.out, ← HM.out, ← HO.out, heapBuild]
      case round =>
        obtain ⟨k, dj, rfl, hk, hsk, hwr, hO⟩ := hrel
        obtain ⟨G, HG, hcw, hfw⟩ := hwr.fam
        have HO2 : Hid (heapPop ltInt a k dj = heapSort ltInt d a b) := hO
        have HW2 : Hid (Arr w0 wr blk dj) := hwr
        have HS2 : Hid (dj.size = n) := hsk
        rw [hsk] at hcw hfw
        clear hO hwr hsk
        cases k with
        | zero =>
          go_wp2
          go_end0
          refine ⟨rfl, ?_⟩
          rw [← HO2.out, heapPop]
          exact HW2.out
        | succ k =>
          have hB := HB.out
          have c1 := hcw a (by omega)
          have f1 := hfw a (by omega)
          have c2 := hcw (a + k) (by omega)
          have f2 := hfw (a + k) (by omega)
          clear hcw hfw
          obtain ⟨v1, hv1⟩ := cell?_setCell_some (p := ⟨blk, a, none⟩) (x := .int .u64 (G (a + k))) c2
          obtain ⟨v2, hv2⟩ := cell?_setCell_some (p := ⟨blk, a + k, none⟩) (x := .int .u64 (G a)) c1
          have x0 : ((k + 1 : Nat) : Int) - 1 = (k : Int) := by omega
          simp only [x0]
          go_wp2
          go_region
          all_goals go_wp2_with fail
          have HW3 : Hid (Arr w0 ((wr.setCell ⟨blk, a, none⟩ (.int .u64 (G (a + k)))).setCell ⟨blk, a + k, none⟩ (.int .u64 (G a))).drew blk (swp dj a (a + k))) := by
            rw [HG.out, HG.out]
            exact (HW2.out.swp (by rw [HS2.out]; omega) (by rw [HS2.out]; omega)).drewN 1
          refine (siftDown_calls w0 blk c n 0 k a (swp dj a (a + k)) _ (by rw [size_swp]; exact HS2.out) HW3.out (by omega) (by omega) hsz).mono ?_
          rintro e w' ⟨rfl, hb'⟩
          go_wp2
          go_roundw
          case rel => exact ⟨k, _, rfl, by omega, by rw [sift_size _ _ _ _ _ (Nat.le_refl _), size_swp]; exact HS2.out, hb', by rw [← HO2.out, heapPop]⟩
          case measure => simp [intOf]
    | succ k =>
      have hMQ := HMQ.out
      have hB := HB.out
      have x0 : ((k + 1 : Nat) : Int) - 1 = (k : Int) := by omega
      simp only [x0]
      go_wp2_with (first | (go_at_call 41; refine (siftDown_calls w0 blk c n k q a dk _ HS.out HW.out (by omega) HB.out hsz).mono ?_; rintro e w' ⟨rfl, hb'⟩))
      go_roundw
      case rel => exact ⟨k, _, rfl, by omega, by rw [sift_size _ _ _ _ _ (Nat.le_refl _)]; exact HS.out, hb', by rw [← HO.out, heapBuild]⟩
      case measure => simp [intOf]

set_option maxRecDepth 100000 in
set_option maxHeartbeats 2000000 in
theorem reverseRange_calls (w0 : World) (blk c n a b : Nat) (d : Array Int) (w : World) (hd : d.size = n) (hH : Arr w0 w blk d) (hab : a < b) (hb : b ≤ n) (hsz : n ≤ 1048576) :
    Calls Try.prog 34 #[.slice (some ⟨blk, 0, none⟩) n c, .int .i64 a, .int .i64 b] w fun e w' =>
      e = .returned (.tuple #[]) ∧ ∃ d', Arr w0 w' blk d' ∧ PermIn a b d d' := by
  go_enter Try.func34, Try.ntmps34
  go_wp2
  go_loopw [6, 7] (fun vi vj wr => ∃ (i j : Nat) (dk : Array Int), vi = .int .i64 i ∧ vj = .int .i64 j ∧ a ≤ i ∧ j < b ∧ i ≤ j + 1 ∧ dk.size = n ∧ Arr w0 wr blk dk ∧ PermIn a b d dk)
     (fun vi vj _ => (intOf vj).toNat + 1 - (intOf vi).toNat)
  case atStart => exact ⟨a, b - 1, d, rfl, by congr 1; omega, Nat.le_refl _, by omega, by omega, hd, hH, permIn_refl _ _ _⟩
  case round =>
    obtain ⟨i, j, dk, rfl, rfl, h1, h2, h3, hsk, hwr, hO⟩ := hrel
    obtain ⟨G, HG, hcw, hfw⟩ := hwr.fam
    have HO : Hid (PermIn a b d dk) := hO
    have HW : Hid (Arr w0 wr blk dk) := hwr
    have HS : Hid (dk.size = n) := hsk
    rw [hsk] at hcw hfw
    clear hO hwr hsk hH hd
    by_cases hij : i < j
    · have c1 := hcw i (by omega)
      have f1 := hfw i (by omega)
      have c2 := hcw j (by omega)
      have f2 := hfw j (by omega)
      clear hcw hfw
      go_wp2
      go_region
      all_goals go_wp2
      all_goals go_roundw
      case rel =>
        refine ⟨i + 1, j - 1, swp dk i j, by go_num, by congr 1; omega, by omega, by omega, by omega, by rw [size_swp]; exact HS.out, ?_, ?_⟩
        · rw [HG.out, HG.out]
          exact (HW.out.drewN _).swp (by rw [HS.out]; omega) (by rw [HS.out]; omega)
        · exact permIn_trans _ _ _ _ _ HO.out (swp_permIn _ _ _ _ _ h1 (by omega) (by omega) h2 (by rw [HS.out]; omega))
      case measure => simp [intOf]; omega
    · clear hcw hfw
      go_wp2
      go_end0
      exact ⟨rfl, dk, HW.out, HO.out⟩
end Go.Proofs.Qxb6605873a
