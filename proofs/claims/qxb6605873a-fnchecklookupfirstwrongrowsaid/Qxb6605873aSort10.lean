/-
  partialInsertionSort at uint64.
-/
import Derived.Test.Qxb6605873aSort4
set_option linter.unusedVariables false
namespace Go.Proofs.Qxb6605873a
open Go.RowKit Go.Sort

theorem Arr.fam0 {w0 w : World} {b : Nat} {d : Array Int} (h : Arr w0 w b d) : ∃ G : Nat → Int, Hid (∀ t, G t = d[t]!) := ⟨fun t => d[t]!, fun _ => rfl⟩

theorem shiftDown_go {j : Nat} {d : Array Int} (h : 1 ≤ j) (hl : ltInt d[j]! d[j - 1]! = true) : shiftDown ltInt j d = shiftDown ltInt (j - 1) (swp d j (j - 1)) := by
  obtain ⟨k, rfl⟩ : ∃ k, j = k + 1 := ⟨j - 1, by omega⟩
  rw [shiftDown]
  simp only [Nat.add_sub_cancel] at hl ⊢
  simp [hl]
theorem shiftDown_stop {j : Nat} {d : Array Int} (h : j = 0 ∨ ltInt d[j]! d[j - 1]! = false) : shiftDown ltInt j d = d := by
  cases j with
  | zero => rw [shiftDown]
  | succ k =>
    rw [shiftDown]
    simp only [Nat.add_sub_cancel] at h
    rcases h with h | h
    · omega
    · simp [h]
theorem shiftUp_go {b j : Nat} {d : Array Int} (h : j < b) (hl : ltInt d[j]! d[j - 1]! = true) : shiftUp ltInt b j d = shiftUp ltInt b (j + 1) (swp d j (j - 1)) := by
  rw [shiftUp, if_pos h]; simp [hl]
theorem shiftUp_stop {b j : Nat} {d : Array Int} (h : ¬ j < b ∨ ltInt d[j]! d[j - 1]! = false) : shiftUp ltInt b j d = d := by
  rw [shiftUp]
  by_cases e : j < b
  · rw [if_pos e]
    rcases h with h | h
    · omega
    · simp [h]
  · rw [if_neg e]
theorem scanSorted_go {b i : Nat} {d : Array Int} (h : (decide (i < b) && !ltInt d[i]! d[i - 1]!) = true) : scanSorted ltInt d b i = scanSorted ltInt d b (i + 1) := by
  rw [scanSorted, if_pos h]
theorem scanSorted_stop {b i : Nat} {d : Array Int} (h : (decide (i < b) && !ltInt d[i]! d[i - 1]!) = false) : scanSorted ltInt d b i = i := by
  rw [scanSorted, if_neg (by rw [h]; exact Bool.false_ne_true)]
theorem size_shiftDown : ∀ (j : Nat) (d : Array Int), (shiftDown ltInt j d).size = d.size
  | 0, d => by rw [shiftDown]
  | j + 1, d => by
    rw [shiftDown]
    split
    · rfl
    · rw [size_shiftDown j, size_swp]
theorem size_shiftUp (b : Nat) : ∀ (k j : Nat) (d : Array Int), b - j ≤ k → (shiftUp ltInt b j d).size = d.size
  | 0, j, d, h => by rw [shiftUp_stop (Or.inl (by omega))]
  | k + 1, j, d, h => by
    rw [shiftUp]
    split
    · split
      · rfl
      · rw [size_shiftUp b k _ _ (by omega), size_swp]
    · rfl

set_option maxRecDepth 100000 in
set_option maxHeartbeats 4000000 in
theorem partialIns_calls (w0 : World) (blk c n a b : Nat) (d : Array Int) (w : World) (hd : d.size = n) (hH : Arr w0 w blk d) (hab : a < b) (hb : b ≤ n) (hsz : n ≤ 1048576) :
    Calls Try.prog 35 #[.slice (some ⟨blk, 0, none⟩) n c, .int .i64 a, .int .i64 b] w fun e w' =>
      e = .returned (.bool (partialInsertionSort ltInt d a b).2) ∧ Arr w0 w' blk (partialInsertionSort ltInt d a b).1 := by
  go_enter Try.func35, Try.ntmps35
  obtain ⟨R, hR⟩ : ∃ R, R = partialInsertionSort ltInt d a b := ⟨_, rfl⟩
  rw [← hR]
  have HR : Hid (partialIns ltInt a b 5 (a + 1) d = R) := hR.symm
  clear hR
  go_wp2
  go_loopw [7, 8] (fun vi vs wr => ∃ (i s : Nat) (dk : Array Int), vi = .int .i64 i ∧ vs = .int .i64 s ∧ s ≤ 5 ∧ a < i ∧ i ≤ b ∧ dk.size = n ∧ Arr w0 wr blk dk ∧ partialIns ltInt a b (5 - s) i dk = R)
     (fun _ vs _ => 5 - (intOf vs).toNat)
  case atStart => exact ⟨a + 1, 0, d, by go_num, rfl, by omega, by omega, by omega, hd, hH, HR.out⟩
  case round =>
    obtain ⟨i, s, dk, rfl, rfl, hs5, hai, hib, hsk, hwr, hO⟩ := hrel
    have HO : Hid (partialIns ltInt a b (5 - s) i dk = R) := hO
    have HA : Hid (Arr w0 wr blk dk) := hwr
    have HS : Hid (dk.size = n) := hsk
    obtain ⟨G, HG⟩ := hwr.fam0
    clear hO hwr hsk HR hd hH
    by_cases hs : s < 5
    · go_wp2
      go_loopw [7] (fun vi wr => ∃ (i' : Nat), vi = .int .i64 i' ∧ a < i' ∧ i' ≤ b ∧ Hid (scanSorted ltInt dk b i' = scanSorted ltInt dk b i) ∧ Hid (Arr w0 wr blk dk)) (fun vi _ => b - (intOf vi).toNat)
      case atStart => exact ⟨i, rfl, hai, hib, rfl, HA⟩
      case round =>
        obtain ⟨i', rfl, h1, h2, HE, hA⟩ := hrel
        clear HA
        go_upto_region 5 with fail
        go_cut [32] from 17 to 34 (fun s32 wx => s32 = .bool (decide (i' < b) && !ltInt (G i') (G (i' - 1))) ∧ Hid (Arr w0 wx blk dk))
        case first =>
          by_cases hij : i' < b
          · have c1 := hA.out.cells HG.out HS.out i' (by omega)
            have c2 := hA.out.cells HG.out HS.out (i' - 1) (by omega)
            go_quiet (first | (go_at_call 36; refine Calls.quiet_of_same (less_calls _ _ _)))
            go_wp2_with fail
            go_meet
            case rel => exact ⟨by simp [hij], hA.out.drewN _⟩
          · have hdd : decide ((i' : Int) < (b : Int)) = false := by simp; omega
            go_quiet (first | (go_at_call 36; refine Calls.quiet_of_same (less_calls _ _ _)))
            go_wp2_with fail
            go_meet
            case rel => exact ⟨by simp [hij], hA.out.drewN _⟩
        case rest =>
          obtain ⟨rfl, HA⟩ := hcut
          clear hA
          cases hb2 : (decide (i' < b) && !ltInt (G i') (G (i' - 1))) with
          | true =>
            have hij : i' < b := by simp at hb2; exact hb2.1
            have HL : Hid ((decide (i' < b) && !ltInt dk[i']! dk[i' - 1]!) = true) := by rw [← HG.out, ← HG.out]; exact hb2
            go_wp2
            go_roundw
            case rel => exact ⟨i' + 1, by go_num, by omega, by omega, by show _ = _; rw [← scanSorted_go HL.out]; exact HE.out, HA⟩
            case measure => simp [intOf]; omega
          | false =>
            have HE2 : Hid (scanSorted ltInt dk b i = i') := by
              show scanSorted ltInt dk b i = i'
              rw [← HE.out]
              exact scanSorted_stop (by rw [← HG.out, ← HG.out]; exact hb2)
            have HO2 : Hid (partialIns ltInt a b (4 - s + 1) i dk = R) := by show partialIns ltInt a b (4 - s + 1) i dk = R; rw [← HO.out, show 5 - s = 4 - s + 1 by omega]
            clear hb2 HE HO
            by_cases hib2 : i' = b
            · have HF : Hid (R = (dk, true)) := by
                show R = (dk, true)
                rw [← HO2.out, partialIns_succ, HE2.out, if_pos hib2]
              subst hib2
              go_wp2
              go_ret
              rw [HF.out]
              exact ⟨rfl, HA.out⟩
            · have hne : ((i' : Int) == (b : Int)) = false := by simp; omega
              by_cases h50 : b - a < 50
              · have k50 : (b : Int) - a < 50 := by omega
                have HF : Hid (R = (dk, false)) := by
                  show R = (dk, false)
                  rw [← HO2.out, partialIns_succ, HE2.out, if_neg hib2, if_pos h50]
                go_wp2
                go_ret
                rw [HF.out]
                exact ⟨rfl, HA.out⟩
              · have k50 : ¬ (b : Int) - a < 50 := by omega
                have HF : Hid (R = partialIns ltInt a b (4 - s) i' (fixUp ltInt b i' (fixDown ltInt a i' (swp dk i' (i' - 1))))) := by
                  show R = _
                  rw [← HO2.out, partialIns_succ, HE2.out, if_neg hib2, if_neg h50]
                have hlt : i' < b := by omega
                clear HE2 HO2 hib2
                have c1 := HA.out.cells HG.out HS.out i' (by omega)
                have c2 := HA.out.cells HG.out HS.out (i' - 1) (by omega)
                have f1 := HA.out.fros HS.out i' (by omega)
                have f2 := HA.out.fros HS.out (i' - 1) (by omega)
                obtain ⟨d1, hd1⟩ : ∃ x, x = swp dk i' (i' - 1) := ⟨_, rfl⟩
                have HA1 : Hid (Arr w0 ((wc.setCell ⟨blk, i', none⟩ (.int .u64 (G (i' - 1)))).setCell ⟨blk, i' - 1, none⟩ (.int .u64 (G i'))).drew blk d1) := by
                  rw [HG.out, HG.out, hd1]
                  exact (HA.out.swp (by rw [HS.out]; omega) (by rw [HS.out]; omega)).drewN 1
                have HS1 : Hid (d1.size = n) := by rw [hd1]; show (swp dk i' (i' - 1)).size = n; rw [size_swp]; exact HS.out
                rw [← hd1] at HF
                clear hd1
                go_wp2
                go_region
                clear c1 c2 f1 f2 HG HS HA
                obtain ⟨w1, hw1⟩ : ∃ x, x = ((wc.setCell ⟨blk, i', none⟩ (.int .u64 (G (i' - 1)))).setCell ⟨blk, i' - 1, none⟩ (.int .u64 (G i'))).drew := ⟨_, rfl⟩
                rw [← hw1] at HA1
                rw [← hw1]
                clear hw1
                go_upto_if 61 with fail
                go_cut [] from 13 to 132 (fun wx => Hid (Arr w0 wx blk (fixDown ltInt a i' d1)))
                case first =>
                  clear HF
                  by_cases h2a : i' - a ≥ 2
                  · have k2a : (2 : Int) ≤ (i' : Int) - a := by omega
                    have HX : Hid (fixDown ltInt a i' d1 = shiftDown ltInt (i' - 1) d1) := by show fixDown ltInt a i' d1 = _; unfold fixDown; rw [if_pos h2a]
                    go_wp2
                    go_loopw [9] (fun vj wr => ∃ (j : Nat) (dj : Array Int), vj = .int .i64 j ∧ j < n ∧ dj.size = n ∧ Arr w0 wr blk dj ∧ shiftDown ltInt j dj = fixDown ltInt a i' d1) (fun vj _ => (intOf vj).toNat)
                    case atStart => exact ⟨i' - 1, d1, by congr 1; omega, by omega, HS1.out, HA1.out, HX.out.symm⟩
                    case round =>
                      obtain ⟨j, dj, rfl, hjn, hsj, hwj, hE⟩ := hrel
                      obtain ⟨G, HG⟩ := hwj.fam0
                      have HA : Hid (Arr w0 wr blk dj) := hwj
                      have HS : Hid (dj.size = n) := hsj
                      have HE : Hid (shiftDown ltInt j dj = fixDown ltInt a i' d1) := hE
                      clear hwj hsj hE HA1 HS1 HX
                      by_cases hj0 : 1 ≤ j
                      · have c1 := HA.out.cells HG.out HS.out j (by omega)
                        have c2 := HA.out.cells HG.out HS.out (j - 1) (by omega)
                        have f1 := HA.out.fros HS.out j (by omega)
                        have f2 := HA.out.fros HS.out (j - 1) (by omega)
                        have b1 : (j : Int) < n := by omega
                        have b2 : (0 : Int) ≤ (j : Int) - 1 := by omega
                        have b3 : (j : Int) - 1 < n := by omega
                        go_wp2
                        go_quiet (first | (go_at_call 36; refine Calls.quiet_of_same (less_calls _ _ _)))
                        go_wp2
                        · have hl : Hid (ltInt (G j) (G (j - 1)) = false) := by
                            rename_i h
                            show ltInt (G j) (G (j - 1)) = false
                            revert h
                            cases ltInt (G j) (G (j - 1)) <;> simp
                          go_meet
                          case rel =>
                            show Arr _ _ _ _
                            rw [← HE.out, shiftDown_stop (Or.inr (by rw [← HG.out, ← HG.out]; exact hl.out))]
                            exact HA.out.drewN _
                        · have hl : Hid (ltInt (G j) (G (j - 1)) = true) := by
                            rename_i h
                            show ltInt (G j) (G (j - 1)) = true
                            revert h
                            cases ltInt (G j) (G (j - 1)) <;> simp
                          go_region
                          all_goals go_wp2
                          all_goals go_roundw
                          case rel =>
                            refine ⟨j - 1, swp dj j (j - 1), by congr 1; omega, by omega, by rw [size_swp]; exact HS.out, ?_, ?_⟩
                            · rw [HG.out, HG.out]
                              exact (HA.out.drewN _).swp (by rw [HS.out]; omega) (by rw [HS.out]; omega)
                            · rw [← HE.out, shiftDown_go hj0 (by rw [← HG.out, ← HG.out]; exact hl.out)]
                          case measure => simp [intOf]; omega
                      · have k0 : ¬ (1 : Int) ≤ (j : Int) := by omega
                        go_wp2
                        go_meet
                        case rel =>
                          show Arr _ _ _ _
                          rw [← HE.out, shiftDown_stop (Or.inl (by omega))]
                          exact HA.out
                  · have k2a : ¬ (2 : Int) ≤ (i' : Int) - a := by omega
                    go_wp2
                    go_meet
                    case rel => show Arr _ _ _ _; unfold fixDown; rw [if_neg h2a]; exact HA1.out
                case rest =>
                  have HA1' : Hid (Arr w0 wc blk (fixDown ltInt a i' d1)) := hcut
                  clear hcut HA1
                  obtain ⟨d2, hd2⟩ : ∃ x, x = fixDown ltInt a i' d1 := ⟨_, rfl⟩
                  have HS2 : Hid (d2.size = n) := by
                    rw [hd2]
                    show (fixDown ltInt a i' d1).size = n
                    unfold fixDown
                    split
                    · rw [size_shiftDown]; exact HS1.out
                    · exact HS1.out
                  rw [← hd2] at HA1' HF
                  clear hd2 HS1
                  have HS3 : Hid ((fixUp ltInt b i' d2).size = n) := by
                    show (fixUp ltInt b i' d2).size = n
                    unfold fixUp
                    split
                    · rw [size_shiftUp _ _ _ _ (Nat.le_refl _)]; exact HS2.out
                    · exact HS2.out
                  by_cases h2a : b - i' ≥ 2
                  · have k2a : (2 : Int) ≤ (b : Int) - i' := by omega
                    have HX : Hid (fixUp ltInt b i' d2 = shiftUp ltInt b (i' + 1) d2) := by show fixUp ltInt b i' d2 = _; unfold fixUp; rw [if_pos h2a]
                    go_wp2
                    go_loopw [10] (fun vj wr => ∃ (j : Nat) (dj : Array Int), vj = .int .i64 j ∧ 1 ≤ j ∧ j ≤ b ∧ dj.size = n ∧ Arr w0 wr blk dj ∧ shiftUp ltInt b j dj = fixUp ltInt b i' d2) (fun vj _ => b - (intOf vj).toNat)
                    case atStart => exact ⟨i' + 1, d2, by go_num, by omega, by omega, HS2.out, HA1'.out, HX.out.symm⟩
                    case round =>
                      obtain ⟨j, dj, rfl, hj0, hjb, hsj, hwj, hE⟩ := hrel
                      obtain ⟨G, HG⟩ := hwj.fam0
                      have HA : Hid (Arr w0 wr blk dj) := hwj
                      have HS : Hid (dj.size = n) := hsj
                      have HE : Hid (shiftUp ltInt b j dj = fixUp ltInt b i' d2) := hE
                      clear hwj hsj hE HA1' HS2 HX
                      by_cases hjb2 : j < b
                      · have c1 := HA.out.cells HG.out HS.out j (by omega)
                        have c2 := HA.out.cells HG.out HS.out (j - 1) (by omega)
                        have f1 := HA.out.fros HS.out j (by omega)
                        have f2 := HA.out.fros HS.out (j - 1) (by omega)
                        have b1 : (j : Int) < n := by omega
                        have b2 : (0 : Int) ≤ (j : Int) - 1 := by omega
                        have b3 : (j : Int) - 1 < n := by omega
                        go_wp2
                        go_quiet (first | (go_at_call 36; refine Calls.quiet_of_same (less_calls _ _ _)))
                        go_wp2
                        · have hl : Hid (ltInt (G j) (G (j - 1)) = false) := by
                            rename_i h
                            show ltInt (G j) (G (j - 1)) = false
                            revert h
                            cases ltInt (G j) (G (j - 1)) <;> simp
                          have HA3 : Hid (Arr w0 (wr.drewN nq) blk (fixUp ltInt b i' d2)) := by
                            show Arr _ _ _ _
                            rw [← HE.out, shiftUp_stop (Or.inr (by rw [← HG.out, ← HG.out]; exact hl.out))]
                            exact HA.out.drewN _
                          go_roundw
                          case rel => exact ⟨i', s + 1, _, rfl, by go_num, by omega, by omega, by omega, HS3.out, HA3.out, by rw [show 5 - (s + 1) = 4 - s by omega]; exact HF.out.symm⟩
                          case measure => simp [intOf]; omega
                        · have hl : Hid (ltInt (G j) (G (j - 1)) = true) := by
                            rename_i h
                            show ltInt (G j) (G (j - 1)) = true
                            revert h
                            cases ltInt (G j) (G (j - 1)) <;> simp
                          go_region
                          all_goals go_wp2
                          all_goals go_roundw
                          case rel =>
                            refine ⟨j + 1, swp dj j (j - 1), by go_num, by omega, by omega, by rw [size_swp]; exact HS.out, ?_, ?_⟩
                            · rw [HG.out, HG.out]
                              exact (HA.out.drewN _).swp (by rw [HS.out]; omega) (by rw [HS.out]; omega)
                            · rw [← HE.out, shiftUp_go hjb2 (by rw [← HG.out, ← HG.out]; exact hl.out)]
                          case measure => simp [intOf]; omega
                      · have k0 : ¬ (j : Int) < (b : Int) := by omega
                        have HA3 : Hid (Arr w0 wr blk (fixUp ltInt b i' d2)) := by
                          show Arr _ _ _ _
                          rw [← HE.out, shiftUp_stop (Or.inl (by omega))]
                          exact HA.out
                        go_wp2
                        go_roundw
                        case rel => exact ⟨i', s + 1, _, rfl, by go_num, by omega, by omega, by omega, HS3.out, HA3.out, by rw [show 5 - (s + 1) = 4 - s by omega]; exact HF.out.symm⟩
                        case measure => simp [intOf]; omega
                  · have k2a : ¬ (2 : Int) ≤ (b : Int) - i' := by omega
                    have HA3 : Hid (Arr w0 wc blk (fixUp ltInt b i' d2)) := by show Arr _ _ _ _; unfold fixUp; rw [if_neg h2a]; exact HA1'.out
                    go_wp2
                    go_roundw
                    case rel => exact ⟨i', s + 1, _, rfl, by go_num, by omega, by omega, by omega, HS3.out, HA3.out, by rw [show 5 - (s + 1) = 4 - s by omega]; exact HF.out.symm⟩
                    case measure => simp [intOf]; omega
    · go_wp2
      go_ret
      have e : 5 - s = 0 := by omega
      have h := HO.out
      rw [e, partialIns] at h
      rw [← h]
      exact ⟨rfl, HA.out⟩
end Go.Proofs.Qxb6605873a
