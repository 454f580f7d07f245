/-
  siftDownOrdered, heapSortOrdered, reverseRangeOrdered at uint64.
-/
import Derived.Test.Qxb6605873aSort1
import Derived.BigRegion
set_option linter.unusedVariables false
namespace Go.Proofs.Qxb6605873a
open Go.RowKit Go.Sort

theorem Arr.cells {w0 w : World} {b : Nat} {d : Array Int} {G : Nat → Int} (h : Arr w0 w b d) (hG : ∀ t, G t = d[t]!) {n : Nat} (hn : d.size = n) (t : Nat) (ht : t < n) : w.cell? ⟨b, t, none⟩ = some (.int .u64 (G t)) := by
  rw [hG]; exact h.cell t (by omega)
theorem Arr.fros {w0 w : World} {b : Nat} {d : Array Int} (h : Arr w0 w b d) {n : Nat} (hn : d.size = n) (t : Nat) (ht : t < n) : w.frozen? ⟨b, t, none⟩ = false := h.fro t (by omega)

theorem sift_end {hi first root : Nat} {d : Array Int} (h : hi ≤ 2 * root + 1) : siftDown ltInt hi first root d = d := by
  rw [siftDown, dif_pos h]
theorem sift_r_stop {hi first root : Nat} {d : Array Int} (h : 2 * root + 2 < hi) (h1 : ltInt d[first + (2 * root + 1)]! d[first + (2 * root + 2)]! = true) (h2 : ltInt d[first + root]! d[first + (2 * root + 2)]! = false) : siftDown ltInt hi first root d = d := by
  rw [siftDown, dif_neg (by omega)]
  have e : first + (2 * root + 1) + 1 = first + (2 * root + 2) := by omega
  rw [e, h1, h2]; simp [show 2 * root + 1 + 1 < hi by omega]
theorem sift_r_go {hi first root : Nat} {d : Array Int} (h : 2 * root + 2 < hi) (h1 : ltInt d[first + (2 * root + 1)]! d[first + (2 * root + 2)]! = true) (h2 : ltInt d[first + root]! d[first + (2 * root + 2)]! = true) : siftDown ltInt hi first root d = siftDown ltInt hi first (2 * root + 2) (swp d (first + root) (first + (2 * root + 2))) := by
  rw [siftDown, dif_neg (by omega)]
  have e : first + (2 * root + 1) + 1 = first + (2 * root + 2) := by omega
  rw [e, h1, h2]; simp [show 2 * root + 1 + 1 < hi by omega]
theorem sift_l_stop {hi first root : Nat} {d : Array Int} (h : 2 * root + 1 < hi) (h1 : 2 * root + 2 < hi → ltInt d[first + (2 * root + 1)]! d[first + (2 * root + 2)]! = false) (h2 : ltInt d[first + root]! d[first + (2 * root + 1)]! = false) : siftDown ltInt hi first root d = d := by
  rw [siftDown, dif_neg (by omega)]
  have e : first + (2 * root + 1) + 1 = first + (2 * root + 2) := by omega
  rw [e, h2]
  by_cases hh : 2 * root + 2 < hi
  · rw [h1 hh]; simp
  · simp [show ¬ 2 * root + 1 + 1 < hi by omega]
theorem sift_l_go {hi first root : Nat} {d : Array Int} (h : 2 * root + 1 < hi) (h1 : 2 * root + 2 < hi → ltInt d[first + (2 * root + 1)]! d[first + (2 * root + 2)]! = false) (h2 : ltInt d[first + root]! d[first + (2 * root + 1)]! = true) : siftDown ltInt hi first root d = siftDown ltInt hi first (2 * root + 1) (swp d (first + root) (first + (2 * root + 1))) := by
  rw [siftDown, dif_neg (by omega)]
  have e : first + (2 * root + 1) + 1 = first + (2 * root + 2) := by omega
  rw [e, h2]
  by_cases hh : 2 * root + 2 < hi
  · rw [h1 hh]; simp
  · simp [show ¬ 2 * root + 1 + 1 < hi by omega]

set_option maxRecDepth 100000 in
set_option maxHeartbeats 2000000 in
theorem siftDown_calls (w0 : World) (blk c n lo hi first : Nat) (d : Array Int) (w : World) (hd : d.size = n) (hH : Arr w0 w blk d) (hlo : lo ≤ hi) (hb : first + hi ≤ n) (hsz : n ≤ 1048576) :
    Calls Try.prog 41 #[.slice (some ⟨blk, 0, none⟩) n c, .int .i64 lo, .int .i64 hi, .int .i64 first] w fun e w' =>
      e = .returned (.tuple #[]) ∧ Arr w0 w' blk (siftDown ltInt hi first lo d) := by
  go_enter Try.func41, Try.ntmps41
  go_wp2
  go_loopw [8] (fun vi wr => ∃ (r : Nat) (dk : Array Int), vi = .int .i64 r ∧ r ≤ hi ∧ dk.size = n ∧ Arr w0 wr blk dk ∧
      siftDown ltInt hi first r dk = siftDown ltInt hi first lo d) (fun vi _ => hi - (intOf vi).toNat)
  case atStart => exact ⟨lo, d, rfl, hlo, hd, hH, rfl⟩
  case round =>
    obtain ⟨r, dk, rfl, hr, hsk, hwr, hO⟩ := hrel
    obtain ⟨G, HG, hcw, hfw⟩ := hwr.fam
    have HO : Hid (siftDown ltInt hi first r dk = siftDown ltInt hi first lo d) := hO
    have HW : Hid (Arr w0 wr blk dk) := hwr
    have HS : Hid (dk.size = n) := hsk
    rw [hsk] at hcw hfw
    clear hO hwr hsk hH hd
    by_cases h1 : 2 * r + 1 < hi
    · have k1 : ¬ (hi : Int) ≤ 2 * (r : Int) + 1 := by omega
      have c0 := hcw (first + r) (by omega)
      have f0 := hfw (first + r) (by omega)
      have b0 : (0 : Int) ≤ (first : Int) + r := by omega
      have y0 : IntKind.i64.wrap ((first : Int) + r) = (first : Int) + r := IntWalk.i64_in _ (by omega)
      have t0 : ((first : Int) + r).toNat = first + r := by omega
      have t1 : ((first : Int) + (2 * r + 1)).toNat = first + (2 * r + 1) := by omega
      have y2 : IntKind.i64.wrap ((first : Int) + (2 * r + 1)) = (first : Int) + (2 * r + 1) := IntWalk.i64_in _ (by omega)
      have b1 : (first : Int) + r < (n : Int) := by omega
      have b2 : (0 : Int) ≤ (first : Int) + (2 * r + 1) := by omega
      have b3 : (first : Int) + (2 * r + 1) < (n : Int) := by omega
      have c1 := hcw (first + (2 * r + 1)) (by omega)
      have f1 := hfw (first + (2 * r + 1)) (by omega)
      by_cases h2 : 2 * r + 2 < hi
      · have k2 : 2 * (r : Int) + 1 + 1 < (hi : Int) := by omega
        have b4 : (0 : Int) ≤ (first : Int) + (2 * r + 1) + 1 := by omega
        have b5 : (first : Int) + (2 * r + 1) + 1 < (n : Int) := by omega
        have c2 := hcw (first + (2 * r + 1) + 1) (by omega)
        have f2 := hfw (first + (2 * r + 1) + 1) (by omega)
        clear hcw hfw
        cases hl : ltInt (G (first + (2 * r + 1))) (G (first + (2 * r + 1) + 1)) with
        | true =>
          have y1 : IntKind.i64.wrap ((first : Int) + (2 * r + 1 + 1)) = (first : Int) + (2 * r + 1 + 1) := IntWalk.i64_in _ (by omega)
          have t2 : ((first : Int) + (2 * r + 1 + 1)).toNat = first + (2 * r + 2) := by omega
          have b6 : (0 : Int) ≤ (first : Int) + (2 * r + 1 + 1) := by omega
          have b7 : (first : Int) + (2 * r + 1 + 1) < (n : Int) := by omega
          have HL : Hid (ltInt dk[first + (2 * r + 1)]! dk[first + (2 * r + 2)]! = true) := by rw [← HG.out, ← HG.out]; exact hl
          cases hm : ltInt (G (first + r)) (G (first + (2 * r + 2))) with
          | true =>
            go_wp2
            go_quiet (first | (go_at_call 36; refine Calls.quiet_of_same (less_calls _ _ _)))
            go_wp2
            obtain ⟨wr1, hw1⟩ : ∃ x, x = wr.drewN nq := ⟨_, rfl⟩
            rw [← hw1]
            have HW1 : Hid (Arr w0 wr1 blk dk) := by rw [hw1]; exact HW.out.drewN nq
            clear hw1
            replace c0 := HW1.out.cells HG.out HS.out (first + r) (by omega)
            replace f0 := HW1.out.fros HS.out (first + r) (by omega)
            replace c1 := HW1.out.cells HG.out HS.out (first + (2 * r + 2)) (by omega)
            replace f1 := HW1.out.fros HS.out (first + (2 * r + 2)) (by omega)
            go_quiet (first | (go_at_call 36; refine Calls.quiet_of_same (less_calls _ _ _)))
            go_wp2
            go_region
            all_goals go_wp2
            all_goals go_roundw
            case rel =>
              refine ⟨2 * r + 2, swp dk (first + r) (first + (2 * r + 2)), by go_num, by omega, by rw [size_swp]; exact HS.out, ?_, ?_⟩
              · rw [HG.out, HG.out]
                exact (HW1.out.drewN _).swp (by rw [HS.out]; omega) (by rw [HS.out]; omega)
              · rw [← HO.out, sift_r_go h2 HL.out (by rw [← HG.out, ← HG.out]; exact hm)]
            case measure => simp [intOf]; omega
          | false =>
            go_wp2
            go_quiet (first | (go_at_call 36; refine Calls.quiet_of_same (less_calls _ _ _)))
            go_wp2
            obtain ⟨wr1, hw1⟩ : ∃ x, x = wr.drewN nq := ⟨_, rfl⟩
            rw [← hw1]
            have HW1 : Hid (Arr w0 wr1 blk dk) := by rw [hw1]; exact HW.out.drewN nq
            clear hw1
            replace c0 := HW1.out.cells HG.out HS.out (first + r) (by omega)
            replace f0 := HW1.out.fros HS.out (first + r) (by omega)
            replace c1 := HW1.out.cells HG.out HS.out (first + (2 * r + 2)) (by omega)
            replace f1 := HW1.out.fros HS.out (first + (2 * r + 2)) (by omega)
            go_quiet (first | (go_at_call 36; refine Calls.quiet_of_same (less_calls _ _ _)))
            go_wp2
            (try simp only [Exit.inBlock, Exit.then]); refine bodyPost_ret (results_none rfl _ _ _) rfl ?_
            refine ⟨rfl, ?_⟩
            rw [← HO.out, sift_r_stop h2 HL.out (by rw [← HG.out, ← HG.out]; exact hm)]
            exact HW1.out.drewN _
        | false =>
          have HL : Hid (ltInt dk[first + (2 * r + 1)]! dk[first + (2 * r + 2)]! = false) := by rw [← HG.out, ← HG.out]; exact hl
          cases hm : ltInt (G (first + r)) (G (first + (2 * r + 1))) with
          | true =>
            go_wp2
            go_quiet (first | (go_at_call 36; refine Calls.quiet_of_same (less_calls _ _ _)))
            go_wp2
            obtain ⟨wr1, hw1⟩ : ∃ x, x = wr.drewN nq := ⟨_, rfl⟩
            rw [← hw1]
            have HW1 : Hid (Arr w0 wr1 blk dk) := by rw [hw1]; exact HW.out.drewN nq
            clear hw1
            replace c0 := HW1.out.cells HG.out HS.out (first + r) (by omega)
            replace f0 := HW1.out.fros HS.out (first + r) (by omega)
            replace c1 := HW1.out.cells HG.out HS.out (first + (2 * r + 1)) (by omega)
            replace f1 := HW1.out.fros HS.out (first + (2 * r + 1)) (by omega)
            go_quiet (first | (go_at_call 36; refine Calls.quiet_of_same (less_calls _ _ _)))
            go_wp2
            go_region
            all_goals go_wp2
            all_goals go_roundw
            case rel =>
              refine ⟨2 * r + 1, swp dk (first + r) (first + (2 * r + 1)), by go_num, by omega, by rw [size_swp]; exact HS.out, ?_, ?_⟩
              · rw [HG.out, HG.out]
                exact (HW1.out.drewN _).swp (by rw [HS.out]; omega) (by rw [HS.out]; omega)
              · rw [← HO.out, sift_l_go h1 (fun _ => HL.out) (by rw [← HG.out, ← HG.out]; exact hm)]
            case measure => simp [intOf]; omega
          | false =>
            go_wp2
            go_quiet (first | (go_at_call 36; refine Calls.quiet_of_same (less_calls _ _ _)))
            go_wp2
            obtain ⟨wr1, hw1⟩ : ∃ x, x = wr.drewN nq := ⟨_, rfl⟩
            rw [← hw1]
            have HW1 : Hid (Arr w0 wr1 blk dk) := by rw [hw1]; exact HW.out.drewN nq
            clear hw1
            replace c0 := HW1.out.cells HG.out HS.out (first + r) (by omega)
            replace f0 := HW1.out.fros HS.out (first + r) (by omega)
            replace c1 := HW1.out.cells HG.out HS.out (first + (2 * r + 1)) (by omega)
            replace f1 := HW1.out.fros HS.out (first + (2 * r + 1)) (by omega)
            go_quiet (first | (go_at_call 36; refine Calls.quiet_of_same (less_calls _ _ _)))
            go_wp2
            (try simp only [Exit.inBlock, Exit.then]); refine bodyPost_ret (results_none rfl _ _ _) rfl ?_
            refine ⟨rfl, ?_⟩
            rw [← HO.out, sift_l_stop h1 (fun _ => HL.out) (by rw [← HG.out, ← HG.out]; exact hm)]
            exact HW1.out.drewN _
      · have k2 : decide (2 * (r : Int) + 1 + 1 < (hi : Int)) = false := by simp; omega
        clear hcw hfw
        cases hm : ltInt (G (first + r)) (G (first + (2 * r + 1))) with
        | true =>
          go_wp2
          go_quiet (first | (go_at_call 36; refine Calls.quiet_of_same (less_calls _ _ _)))
          go_wp2
          obtain ⟨wr1, hw1⟩ : ∃ x, x = wr.drewN nq := ⟨_, rfl⟩
          rw [← hw1]
          have HW1 : Hid (Arr w0 wr1 blk dk) := by rw [hw1]; exact HW.out.drewN nq
          clear hw1
          replace c0 := HW1.out.cells HG.out HS.out (first + r) (by omega)
          replace f0 := HW1.out.fros HS.out (first + r) (by omega)
          replace c1 := HW1.out.cells HG.out HS.out (first + (2 * r + 1)) (by omega)
          replace f1 := HW1.out.fros HS.out (first + (2 * r + 1)) (by omega)
          go_quiet (first | (go_at_call 36; refine Calls.quiet_of_same (less_calls _ _ _)))
          go_wp2
          go_region
          all_goals go_wp2
          all_goals go_roundw
          case rel =>
            refine ⟨2 * r + 1, swp dk (first + r) (first + (2 * r + 1)), by go_num, by omega, by rw [size_swp]; exact HS.out, ?_, ?_⟩
            · rw [HG.out, HG.out]
              exact (HW1.out.drewN _).swp (by rw [HS.out]; omega) (by rw [HS.out]; omega)
            · rw [← HO.out, sift_l_go h1 (fun hh => absurd hh h2) (by rw [← HG.out, ← HG.out]; exact hm)]
          case measure => simp [intOf]; omega
        | false =>
          go_wp2
          go_quiet (first | (go_at_call 36; refine Calls.quiet_of_same (less_calls _ _ _)))
          go_wp2
          obtain ⟨wr1, hw1⟩ : ∃ x, x = wr.drewN nq := ⟨_, rfl⟩
          rw [← hw1]
          have HW1 : Hid (Arr w0 wr1 blk dk) := by rw [hw1]; exact HW.out.drewN nq
          clear hw1
          replace c0 := HW1.out.cells HG.out HS.out (first + r) (by omega)
          replace f0 := HW1.out.fros HS.out (first + r) (by omega)
          replace c1 := HW1.out.cells HG.out HS.out (first + (2 * r + 1)) (by omega)
          replace f1 := HW1.out.fros HS.out (first + (2 * r + 1)) (by omega)
          go_quiet (first | (go_at_call 36; refine Calls.quiet_of_same (less_calls _ _ _)))
          go_wp2
          (try simp only [Exit.inBlock, Exit.then]); refine bodyPost_ret (results_none rfl _ _ _) rfl ?_
          refine ⟨rfl, ?_⟩
          rw [← HO.out, sift_l_stop h1 (fun hh => absurd hh h2) (by rw [← HG.out, ← HG.out]; exact hm)]
          exact HW1.out.drewN _
    · have k1 : (hi : Int) ≤ 2 * (r : Int) + 1 := by omega
      go_wp2
      go_end0
      refine ⟨rfl, ?_⟩
      rw [← HO.out, sift_end (by omega)]
      exact HW.out
end Go.Proofs.Qxb6605873a
