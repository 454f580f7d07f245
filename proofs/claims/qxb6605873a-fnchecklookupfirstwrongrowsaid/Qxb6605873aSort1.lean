/-
  insertionSortOrdered at uint64.
-/
import Derived.Test.Qxb6605873aSort0
set_option linter.unusedVariables false
namespace Go.Proofs.Qxb6605873a
open Go.RowKit Go.Sort

theorem insInner_go (a j : Nat) (d : Array Int) (hj : a < j) (hl : ltInt d[j]! d[j - 1]! = true) : insInner ltInt a j d = insInner ltInt a (j - 1) (swp d j (j - 1)) := by
  cases j with
  | zero => omega
  | succ k =>
    have hl' : ltInt d[k + 1]! d[k]! = true := hl
    show (if (decide (k + 1 > a) && ltInt d[k + 1]! d[k]!) = true then insInner ltInt a k (swp d (k + 1) k) else d) = insInner ltInt a k (swp d (k + 1) k)
    rw [if_pos (by rw [hl', decide_eq_true hj]; rfl)]
theorem insInner_stop (a j : Nat) (d : Array Int) (h : j ≤ a ∨ ltInt d[j]! d[j - 1]! = false) : insInner ltInt a j d = d := by
  cases j with
  | zero => rfl
  | succ k =>
    show (if (decide (k + 1 > a) && ltInt d[k + 1]! d[k]!) = true then insInner ltInt a k (swp d (k + 1) k) else d) = d
    refine if_neg (fun hc => ?_)
    rw [Bool.and_eq_true, decide_eq_true_eq] at hc
    rcases h with h | h
    · omega
    · have h' : ltInt d[k + 1]! d[k]! = false := h
      rw [hc.2] at h'
      cases h'
theorem insOuter_go (a b i : Nat) (d : Array Int) (h : i < b) : insOuter ltInt a b i d = insOuter ltInt a b (i + 1) (insInner ltInt a i d) := by rw [insOuter, if_pos h]

/-- The contents under a name of their own. -/
theorem Arr.fam {w0 w : World} {b : Nat} {d : Array Int} (h : Arr w0 w b d) : ∃ G : Nat → Int, Hid (∀ t, G t = d[t]!) ∧ (∀ t, t < d.size → w.cell? ⟨b, t, none⟩ = some (.int .u64 (G t))) ∧ (∀ t, t < d.size → w.frozen? ⟨b, t, none⟩ = false) :=
  ⟨fun t => d[t]!, fun _ => rfl, h.cell, h.fro⟩

set_option maxRecDepth 100000 in
set_option maxHeartbeats 1000000 in
theorem insertionSort_calls (w0 : World) (blk c n a b : Nat) (d : Array Int) (w : World) (hd : d.size = n) (hH : Arr w0 w blk d) (hab : a ≤ b) (hb : b ≤ n) (hsz : n ≤ 1048576) :
    Calls Try.prog 30 #[.slice (some ⟨blk, 0, none⟩) n c, .int .i64 a, .int .i64 b] w fun e w' =>
      e = .returned (.tuple #[]) ∧ Arr w0 w' blk (Go.Sort.insertionSort ltInt d a b) := by
  go_enter Try.func30, Try.ntmps30
  go_wp2
  go_loopw [6] (fun vi wr => ∃ (i : Nat) (dk : Array Int), vi = .int .i64 i ∧ a < i ∧ i ≤ b + 1 ∧ dk.size = n ∧ Arr w0 wr blk dk ∧
      insOuter ltInt a b i dk = insOuter ltInt a b (a + 1) d) (fun vi _ => b + 1 - (intOf vi).toNat)
  case atStart => exact ⟨a + 1, d, by go_num, by omega, by omega, hd, hH, rfl⟩
  case round =>
    obtain ⟨i, dk, rfl, hai, hib, hsk, hwr, hO⟩ := hrel
    have HO : Hid (insOuter ltInt a b i dk = insOuter ltInt a b (a + 1) d) := hO
    clear hO
    by_cases hlt : i < b
    · go_wp2
      go_loopw [7] (fun vj wr2 => ∃ (j : Nat) (dj : Array Int), vj = .int .i64 j ∧ a ≤ j ∧ j ≤ i ∧ dj.size = n ∧ Arr w0 wr2 blk dj ∧
          insInner ltInt a j dj = insInner ltInt a i dk) (fun vj _ => (intOf vj).toNat)
      case atStart => exact ⟨i, dk, rfl, by omega, Nat.le_refl _, hsk, hwr, rfl⟩
      case round =>
        obtain ⟨j, dj, rfl, haj, hji, hsj, hw2, hI⟩ := hrel
        obtain ⟨G, HG, hcw, hfw⟩ := hw2.fam
        have HW : Hid (Arr w0 wr blk dj) := hw2
        have HS : Hid (dj.size = n) := hsj
        have HI : Hid (insInner ltInt a j dj = insInner ltInt a i dk) := hI
        rw [hsj] at hcw hfw
        clear hw2 hI hH hwr hsj hsk hd
        have k1 : (j : Int) < (n : Int) := by omega
        have k2 : (0 : Int) ≤ (j : Int) := by omega
        by_cases hja : a < j
        · have k3 : (j : Int) - 1 < (n : Int) := by omega
          have k4 : (0 : Int) ≤ (j : Int) - 1 := by omega
          have c1 := hcw j (by omega)
          have c2 := hcw (j - 1) (by omega)
          have f1 := hfw j (by omega)
          have f2 := hfw (j - 1) (by omega)
          clear hcw hfw
          cases hl : ltInt (G j) (G (j - 1)) with
          | true =>
            go_wp2
            go_quiet (first | (go_at_call 36; refine Calls.quiet_of_same (less_calls _ _ _)))
            go_wp2
            go_region
            all_goals go_wp2
            all_goals go_roundw
            case rel =>
              refine ⟨j - 1, swp dj j (j - 1), by congr 1; omega, by omega, by omega, by rw [size_swp]; exact HS.out, ?_, ?_⟩
              · rw [HG.out, HG.out]
                exact (HW.out.drewN _).swp (by rw [HS.out]; omega) (by rw [HS.out]; omega)
              · rw [← HI.out, insInner_go a j dj hja (by rw [← HG.out, ← HG.out]; exact hl)]
            case measure => simp [intOf]; omega
          | false =>
            go_wp2
            go_quiet (first | (go_at_call 36; refine Calls.quiet_of_same (less_calls _ _ _)))
            go_wp2
            go_roundw
            case rel => exact ⟨i + 1, dj, by go_num, by omega, by omega, HS.out, HW.out.drewN _, by rw [← HO.out, insOuter_go _ _ _ _ hlt, ← HI.out, insInner_stop _ _ _ (Or.inr (by rw [← HG.out, ← HG.out]; exact hl))]⟩
            case measure => simp [intOf]; omega
        · go_wp2
          go_quiet (first | (go_at_call 36; refine Calls.quiet_of_same (less_calls _ _ _)))
          go_wp2
          go_roundw
          case rel => exact ⟨i + 1, dj, by go_num, by omega, by omega, HS.out, HW.out.drewN _, by rw [← HO.out, insOuter_go _ _ _ _ hlt, ← HI.out, insInner_stop _ _ _ (Or.inl (by omega))]⟩
          case measure => simp [intOf]; omega
    · go_wp2
      go_end0
      refine ⟨rfl, ?_⟩
      unfold Go.Sort.insertionSort
      rw [← HO.out, insOuter, if_neg hlt]
      exact hwr
end Go.Proofs.Qxb6605873a
