/-
  partitionOrdered at uint64.
-/
import Derived.Test.Qxb6605873aSort4
set_option linter.unusedVariables false
namespace Go.Proofs.Qxb6605873a
open Go.RowKit Go.Sort

/-- What partition leaves. -/
def PartPost (w0 : World) (blk a b n : Nat) (d : Array Int) (e : Ending) (w' : World) : Prop :=
  ∃ (m : Nat) (ap : Bool) (d' : Array Int), e = .returned (.tuple #[.int .i64 m, .bool ap]) ∧ Arr w0 w' blk d' ∧ d'.size = n ∧ a ≤ m ∧ m < b ∧ PermIn a b d d' ∧
    (∀ t, a ≤ t → t < m → ltInt d'[t]! d'[m]! = true) ∧ (∀ t, m < t → t < b → ltInt d'[t]! d'[m]! = false)

abbrev LT (p : Int) : Int → Bool := fun x => ltInt x p

theorem PInv.fin {p : Int} {a b n : Nat} {d dk : Array Int} {i j : Nat} (h : PInv (LT p) p a b n d dk i j) (h1 : j < i) :
    (swp dk j a).size = n ∧ a ≤ j ∧ j < b ∧ PermIn a b d (swp dk j a) ∧
    (∀ t, a ≤ t → t < j → ltInt (swp dk j a)[t]! (swp dk j a)[j]! = true) ∧ (∀ t, j < t → t < b → ltInt (swp dk j a)[t]! (swp dk j a)[j]! = false) := by
  obtain ⟨ha, hij, hj, hb, sz, perm, piv, lo, hi⟩ := h
  have hpj : (swp dk j a)[j]! = p := by
    rw [swp_get dk (by omega) (by omega) j]
    by_cases e : j = a
    · subst e; simp [piv]
    · simp [e, piv]
  refine ⟨by rw [size_swp]; exact sz, by omega, hj, permIn_trans _ _ _ _ _ perm (swp_permIn _ _ _ _ _ (by omega) hj (Nat.le_refl _) (by omega) (by omega)), fun t t1 t2 => ?_, fun t t1 t2 => ?_⟩
  · rw [hpj, swp_get dk (by omega) (by omega) t]
    by_cases e : t = a
    · rw [if_pos e]; exact lo j (by omega) (by omega)
    · rw [if_neg e, if_neg (by omega)]; exact lo t (by omega) (by omega)
  · rw [hpj, swp_other _ _ _ _ (by omega) (by omega)]
    exact hi t t1 t2

set_option maxRecDepth 100000 in
set_option maxHeartbeats 4000000 in
theorem partition_calls (w0 : World) (blk c n a b pv : Nat) (d : Array Int) (w : World) (hd : d.size = n) (hH : Arr w0 w blk d) (hap : a ≤ pv) (hpb : pv < b) (hb : b ≤ n) (hsz : n ≤ 1048576) :
    Calls Try.prog 38 #[.slice (some ⟨blk, 0, none⟩) n c, .int .i64 a, .int .i64 b, .int .i64 pv] w (PartPost w0 blk a b n d) := by
  have HP0 : Hid (PInv (LT d[pv]!) d[pv]! a b n d (swp d a pv) (a + 1) (b - 1)) := PInv.start hd hap hpb hb
  obtain ⟨p, hp⟩ : ∃ p, p = d[pv]! := ⟨_, rfl⟩
  have HP : Hid (p = d[pv]!) := hp
  rw [← hp] at HP0
  have HW0 : Hid (Arr w0 w blk d) := hH
  have HS0 : Hid (d.size = n) := hd
  obtain ⟨G, HG, hcw, hfw⟩ := hH.fam
  rw [hd] at hcw hfw
  have c1 := hcw a (by omega)
  have f1 := hfw a (by omega)
  have c2 := hcw pv (by omega)
  have f2 := hfw pv (by omega)
  obtain ⟨v1, hv1⟩ := cell?_setCell_some (p := ⟨blk, a, none⟩) (x := .int .u64 (G pv)) c2
  obtain ⟨v2, hv2⟩ := cell?_setCell_some (p := ⟨blk, pv, none⟩) (x := .int .u64 (G a)) c1
  have HA : Hid (Arr w0 ((w.setCell ⟨blk, a, none⟩ (.int .u64 (G pv))).setCell ⟨blk, pv, none⟩ (.int .u64 (G a))).drew blk (swp d a pv)) := by
    rw [HG.out, HG.out]
    exact (HW0.out.swp (by rw [HS0.out]; omega) (by rw [HS0.out]; omega)).drewN 1
  obtain ⟨dk, hdk⟩ : ∃ x, x = swp d a pv := ⟨_, rfl⟩
  rw [← hdk] at HA HP0
  obtain ⟨i, hi⟩ : ∃ i, i = a + 1 := ⟨_, rfl⟩
  obtain ⟨j, hj⟩ : ∃ j, j = b - 1 := ⟨_, rfl⟩
  have HPI : Hid (PInv (LT p) p a b n d dk i j) := by rw [hi, hj]; exact HP0.out
  have e0 : (a : Int) + 1 = (i : Int) := by omega
  have e1 : (b : Int) - 1 = (j : Int) := by omega
  clear hcw hfw hp hH hd HP0 hi hj hdk
  go_enter Try.func38, Try.ntmps38
  go_wp2
  go_region
  all_goals go_wp2
  clear c1 f1 c2 f2 hv1 hv2 HG e0 e1
  obtain ⟨G, HG, _, _⟩ := HA.out.fam
  go_loopw [10] (fun vi wr => ∃ (i' : Nat), vi = .int .i64 i' ∧ Hid (PInv (LT p) p a b n d dk i' j) ∧ Hid (Arr w0 wr blk dk) ∧ i ≤ i') (fun vi _ => j + 1 - (intOf vi).toNat)
  case atStart => exact ⟨i, rfl, HPI, HA, Nat.le_refl _⟩
  case round =>
    obtain ⟨i', rfl, hP, hA, hii⟩ := hrel
    clear HA HPI
    have h1 := hP.out.ha
    have h2 := hP.out.hij
    have h3 := hP.out.hj
    have HS : Hid (dk.size = n) := hP.out.sz
    go_upto_region 3 with fail
    go_cut [43] from 30 to 45 (fun s43 wx => s43 = .bool (decide (i' ≤ j) && ltInt (G i') (G a)) ∧ Hid (Arr w0 wx blk dk))
    case first =>
      have ca := hA.out.cells HG.out HS.out a (by omega)
      by_cases hij : i' ≤ j
      · have ci := hA.out.cells HG.out HS.out i' (by omega)
        go_quiet (first | (go_at_call 36; refine Calls.quiet_of_same (less_calls _ _ _)))
        go_wp2_with fail
        go_meet
        case rel => exact ⟨by simp [hij], hA.out.drewN _⟩
      · have hd : decide ((i' : Int) ≤ (j : Int)) = false := by simp; omega
        go_quiet (first | (go_at_call 36; refine Calls.quiet_of_same (less_calls _ _ _)))
        go_wp2_with fail
        go_meet
        case rel => exact ⟨by simp [hij], hA.out.drewN _⟩
    case rest =>
      obtain ⟨rfl, HA⟩ := hcut
      clear hA
      have TL : Hid ((ltInt (G i') (G a)) = LT p dk[i']!) := by show _ = _; rw [HG.out, HG.out, hP.out.piv]
      cases hb : (decide (i' ≤ j) && ltInt (G i') (G a)) with
      | true =>
        have hij : i' ≤ j := by simp at hb; exact hb.1
        have HL : Hid (LT p dk[i']! = true) := by rw [← TL.out]; simp only [Bool.and_eq_true] at hb; exact hb.2
        go_wp2
        go_roundw
        case rel => exact ⟨i' + 1, by go_num, hP.out.up hij HL.out, HA, by omega⟩
        case measure => simp [intOf]; omega
      | false =>
        have HU : Hid (i' ≤ j → LT p dk[i']! = false) := fun hij => by
          rw [← TL.out]; simpa [hij] using hb
        clear TL HS
        go_wp2
        go_loopw [11] (fun vj wr => ∃ (j' : Nat), vj = .int .i64 j' ∧ Hid (PInv (LT p) p a b n d dk i' j') ∧ Hid (Arr w0 wr blk dk) ∧ j' ≤ j) (fun vj _ => (intOf vj).toNat)
        case atStart => exact ⟨j, rfl, hP, HA, Nat.le_refl _⟩
        case round =>
          obtain ⟨j', rfl, hP2, hA, hjj⟩ := hrel
          clear HA hb h1 h2 h3 hP
          have h1 := hP2.out.ha
          have h2 := hP2.out.hij
          have h3 := hP2.out.hj
          have HS : Hid (dk.size = n) := hP2.out.sz
          go_upto_region 5 with fail
          go_cut [60] from 46 to 62 (fun s43 wx => s43 = .bool (decide (i' ≤ j') && !ltInt (G j') (G a)) ∧ Hid (Arr w0 wx blk dk))
          case first =>
            have ca := hA.out.cells HG.out HS.out a (by omega)
            by_cases hij : i' ≤ j'
            · have ci := hA.out.cells HG.out HS.out j' (by omega)
              go_quiet (first | (go_at_call 36; refine Calls.quiet_of_same (less_calls _ _ _)))
              go_wp2_with fail
              go_meet
              case rel => exact ⟨by simp [hij], hA.out.drewN _⟩
            · have hd : decide ((i' : Int) ≤ (j' : Int)) = false := by simp; omega
              go_quiet (first | (go_at_call 36; refine Calls.quiet_of_same (less_calls _ _ _)))
              go_wp2_with fail
              go_meet
              case rel => exact ⟨by simp [hij], hA.out.drewN _⟩
          case rest =>
            obtain ⟨rfl, HA⟩ := hcut
            clear hA
            have TL : Hid ((!ltInt (G j') (G a)) = !(LT p dk[j']!)) := by show _ = _; rw [HG.out, HG.out, hP2.out.piv]
            cases hb : (decide (i' ≤ j') && !ltInt (G j') (G a)) with
            | true =>
              have hij : i' ≤ j' := by simp at hb; exact hb.1
              have HL : Hid (LT p dk[j']! = false) := by
                have t := TL.out
                simp only [Bool.and_eq_true] at hb
                rw [hb.2] at t
                show LT p dk[j']! = false
                cases e : LT p dk[j']! with
                | true => rw [e] at t; cases t
                | false => rfl
              go_wp2
              go_roundw
              case rel => exact ⟨j' - 1, by congr 1; omega, hP2.out.down hij HL.out, HA, by omega⟩
              case measure => simp [intOf]; omega
            | false =>
              have HD : Hid (i' ≤ j' → LT p dk[j']! = true) := fun hij => by
                have t := TL.out
                simp only [hij, decide_true, Bool.true_and] at hb
                rw [hb] at t
                cases e : LT p dk[j']! with
                | true => rfl
                | false => rw [e] at t; cases t
              clear TL hb
              by_cases hgt : j' < i'
              · have c1 := HA.out.cells HG.out HS.out j' (by omega)
                have c2 := HA.out.cells HG.out HS.out a (by omega)
                have f1 := HA.out.fros HS.out j' (by omega)
                have f2 := HA.out.fros HS.out a (by omega)
                obtain ⟨v1, hv1⟩ := cell?_setCell_some (p := ⟨blk, j', none⟩) (x := .int .u64 (G a)) c2
                obtain ⟨v2, hv2⟩ := cell?_setCell_some (p := ⟨blk, a, none⟩) (x := .int .u64 (G j')) c1
                obtain ⟨q1, q2, q3, q4, q5, q6⟩ := hP2.out.fin hgt
                have Q1 : Hid ((swp dk j' a).size = n) := q1
                have Q2 : Hid (a ≤ j') := q2
                have Q4 : Hid (PermIn a b d (swp dk j' a)) := q4
                have Q5 : Hid (∀ t, a ≤ t → t < j' → ltInt (swp dk j' a)[t]! (swp dk j' a)[j']! = true) := q5
                have Q6 : Hid (∀ t, j' < t → t < b → ltInt (swp dk j' a)[t]! (swp dk j' a)[j']! = false) := q6
                have Q7 : Hid (Arr w0 ((wc.setCell ⟨blk, j', none⟩ (.int .u64 (G a))).setCell ⟨blk, a, none⟩ (.int .u64 (G j'))).drew blk (swp dk j' a)) := by
                  rw [HG.out, HG.out]
                  exact (HA.out.swp (by rw [HS.out]; omega) (by rw [HS.out]; omega)).drewN 1
                clear q1 q2 q4 q5 q6
                go_wp2
                go_region
                all_goals go_wp2
                all_goals go_ret2
                exact ⟨j', true, _, rfl, Q7.out, Q1.out, Q2.out, q3, Q4.out, Q5.out, Q6.out⟩
              · have hij : i' ≤ j' := by omega
                have hL1 := HU.out (by omega)
                have hL2 := HD.out hij
                have HSW : Hid (PInv (LT p) p a b n d (swp dk i' j') (i' + 1) (j' - 1)) := hP2.out.swap hij hL1 hL2
                have hne : i' ≠ j' := fun e => by rw [e, hL2] at hL1; cases hL1
                clear hL1 hL2
                have c1 := HA.out.cells HG.out HS.out i' (by omega)
                have c2 := HA.out.cells HG.out HS.out j' (by omega)
                have f1 := HA.out.fros HS.out i' (by omega)
                have f2 := HA.out.fros HS.out j' (by omega)
                have HA0 : Hid (Arr w0 ((wc.setCell ⟨blk, i', none⟩ (.int .u64 (G j'))).setCell ⟨blk, j', none⟩ (.int .u64 (G i'))).drew blk (swp dk i' j')) := by
                  rw [HG.out, HG.out]
                  exact (HA.out.swp (by rw [HS.out]; omega) (by rw [HS.out]; omega)).drewN 1
                go_wp2
                go_region
                all_goals go_wp2
                clear c1 c2 f1 f2
                go_loopw [10, 11] (fun vi vj wr => ∃ (i j : Nat) (dk : Array Int), vi = .int .i64 i ∧ vj = .int .i64 j ∧ PInv (LT p) p a b n d dk i j ∧ Arr w0 wr blk dk)
                   (fun vi vj _ => (intOf vj).toNat + 1 - (intOf vi).toNat)
                case atStart => exact ⟨i' + 1, j' - 1, _, by go_num, by congr 1; omega, HSW.out, HA0.out⟩
                case round =>
                  clear HSW HA0 HA HU HD hP2 HG
                  obtain ⟨i, j, dk, rfl, rfl, hP, hA⟩ := hrel
                  obtain ⟨G, HG, _, _⟩ := hA.fam
                  have HA : Hid (Arr w0 wr blk dk) := hA
                  have HPI : Hid (PInv (LT p) p a b n d dk i j) := hP
                  clear hA hP
                  go_wp2
                  go_loopw [10] (fun vi wr => ∃ (i' : Nat), vi = .int .i64 i' ∧ Hid (PInv (LT p) p a b n d dk i' j) ∧ Hid (Arr w0 wr blk dk) ∧ i ≤ i') (fun vi _ => j + 1 - (intOf vi).toNat)
                  case atStart => exact ⟨i, rfl, HPI, HA, Nat.le_refl _⟩
                  case round =>
                    obtain ⟨i', rfl, hP, hA, hii⟩ := hrel
                    clear HA HPI
                    have h1 := hP.out.ha
                    have h2 := hP.out.hij
                    have h3 := hP.out.hj
                    have HS : Hid (dk.size = n) := hP.out.sz
                    go_upto_region 13 with fail
                    go_cut [112] from 99 to 114 (fun s43 wx => s43 = .bool (decide (i' ≤ j) && ltInt (G i') (G a)) ∧ Hid (Arr w0 wx blk dk))
                    case first =>
                      have ca := hA.out.cells HG.out HS.out a (by omega)
                      by_cases hij : i' ≤ j
                      · have ci := hA.out.cells HG.out HS.out i' (by omega)
                        go_quiet (first | (go_at_call 36; refine Calls.quiet_of_same (less_calls _ _ _)))
                        go_wp2_with fail
                        go_meet
                        case rel => exact ⟨by simp [hij], hA.out.drewN _⟩
                      · have hd : decide ((i' : Int) ≤ (j : Int)) = false := by simp; omega
                        go_quiet (first | (go_at_call 36; refine Calls.quiet_of_same (less_calls _ _ _)))
                        go_wp2_with fail
                        go_meet
                        case rel => exact ⟨by simp [hij], hA.out.drewN _⟩
                    case rest =>
                      obtain ⟨rfl, HA⟩ := hcut
                      clear hA
                      have TL : Hid ((ltInt (G i') (G a)) = LT p dk[i']!) := by show _ = _; rw [HG.out, HG.out, hP.out.piv]
                      cases hb : (decide (i' ≤ j) && ltInt (G i') (G a)) with
                      | true =>
                        have hij : i' ≤ j := by simp at hb; exact hb.1
                        have HL : Hid (LT p dk[i']! = true) := by rw [← TL.out]; simp only [Bool.and_eq_true] at hb; exact hb.2
                        go_wp2
                        go_roundw
                        case rel => exact ⟨i' + 1, by go_num, hP.out.up hij HL.out, HA, by omega⟩
                        case measure => simp [intOf]; omega
                      | false =>
                        have HU : Hid (i' ≤ j → LT p dk[i']! = false) := fun hij => by
                          rw [← TL.out]; simpa [hij] using hb
                        clear TL HS
                        go_wp2
                        go_loopw [11] (fun vj wr => ∃ (j' : Nat), vj = .int .i64 j' ∧ Hid (PInv (LT p) p a b n d dk i' j') ∧ Hid (Arr w0 wr blk dk) ∧ j' ≤ j) (fun vj _ => (intOf vj).toNat)
                        case atStart => exact ⟨j, rfl, hP, HA, Nat.le_refl _⟩
                        case round =>
                          obtain ⟨j', rfl, hP2, hA, hjj⟩ := hrel
                          clear HA hb h1 h2 h3 hP
                          have h1 := hP2.out.ha
                          have h2 := hP2.out.hij
                          have h3 := hP2.out.hj
                          have HS : Hid (dk.size = n) := hP2.out.sz
                          go_upto_region 15 with fail
                          go_cut [129] from 115 to 131 (fun s43 wx => s43 = .bool (decide (i' ≤ j') && !ltInt (G j') (G a)) ∧ Hid (Arr w0 wx blk dk))
                          case first =>
                            have ca := hA.out.cells HG.out HS.out a (by omega)
                            by_cases hij : i' ≤ j'
                            · have ci := hA.out.cells HG.out HS.out j' (by omega)
                              go_quiet (first | (go_at_call 36; refine Calls.quiet_of_same (less_calls _ _ _)))
                              go_wp2_with fail
                              go_meet
                              case rel => exact ⟨by simp [hij], hA.out.drewN _⟩
                            · have hd : decide ((i' : Int) ≤ (j' : Int)) = false := by simp; omega
                              go_quiet (first | (go_at_call 36; refine Calls.quiet_of_same (less_calls _ _ _)))
                              go_wp2_with fail
                              go_meet
                              case rel => exact ⟨by simp [hij], hA.out.drewN _⟩
                          case rest =>
                            obtain ⟨rfl, HA⟩ := hcut
                            clear hA
                            have TL : Hid ((!ltInt (G j') (G a)) = !(LT p dk[j']!)) := by show _ = _; rw [HG.out, HG.out, hP2.out.piv]
                            cases hb : (decide (i' ≤ j') && !ltInt (G j') (G a)) with
                            | true =>
                              have hij : i' ≤ j' := by simp at hb; exact hb.1
                              have HL : Hid (LT p dk[j']! = false) := by
                                have t := TL.out
                                simp only [Bool.and_eq_true] at hb
                                rw [hb.2] at t
                                show LT p dk[j']! = false
                                cases e : LT p dk[j']! with
                                | true => rw [e] at t; cases t
                                | false => rfl
                              go_wp2
                              go_roundw
                              case rel => exact ⟨j' - 1, by congr 1; omega, hP2.out.down hij HL.out, HA, by omega⟩
                              case measure => simp [intOf]; omega
                            | false =>
                              have HD : Hid (i' ≤ j' → LT p dk[j']! = true) := fun hij => by
                                have t := TL.out
                                simp only [hij, decide_true, Bool.true_and] at hb
                                rw [hb] at t
                                cases e : LT p dk[j']! with
                                | true => rfl
                                | false => rw [e] at t; cases t
                              clear TL hb
                              by_cases hgt : j' < i'
                              · have c1 := HA.out.cells HG.out HS.out j' (by omega)
                                have c2 := HA.out.cells HG.out HS.out a (by omega)
                                have f1 := HA.out.fros HS.out j' (by omega)
                                have f2 := HA.out.fros HS.out a (by omega)
                                obtain ⟨v1, hv1⟩ := cell?_setCell_some (p := ⟨blk, j', none⟩) (x := .int .u64 (G a)) c2
                                obtain ⟨v2, hv2⟩ := cell?_setCell_some (p := ⟨blk, a, none⟩) (x := .int .u64 (G j')) c1
                                obtain ⟨q1, q2, q3, q4, q5, q6⟩ := hP2.out.fin hgt
                                have Q1 : Hid ((swp dk j' a).size = n) := q1
                                have Q2 : Hid (a ≤ j') := q2
                                have Q4 : Hid (PermIn a b d (swp dk j' a)) := q4
                                have Q5 : Hid (∀ t, a ≤ t → t < j' → ltInt (swp dk j' a)[t]! (swp dk j' a)[j']! = true) := q5
                                have Q6 : Hid (∀ t, j' < t → t < b → ltInt (swp dk j' a)[t]! (swp dk j' a)[j']! = false) := q6
                                have Q7 : Hid (Arr w0 ((wc.setCell ⟨blk, j', none⟩ (.int .u64 (G a))).setCell ⟨blk, a, none⟩ (.int .u64 (G j'))).drew blk (swp dk j' a)) := by
                                  rw [HG.out, HG.out]
                                  exact (HA.out.swp (by rw [HS.out]; omega) (by rw [HS.out]; omega)).drewN 1
                                clear q1 q2 q4 q5 q6
                                go_wp2
                                go_region
                                all_goals go_wp2
                                all_goals go_ret2
                                exact ⟨j', false, _, rfl, Q7.out, Q1.out, Q2.out, q3, Q4.out, Q5.out, Q6.out⟩
                              · have hij : i' ≤ j' := by omega
                                have hL1 := HU.out (by omega)
                                have hL2 := HD.out hij
                                have HSW : Hid (PInv (LT p) p a b n d (swp dk i' j') (i' + 1) (j' - 1)) := hP2.out.swap hij hL1 hL2
                                have hne : i' ≠ j' := fun e => by rw [e, hL2] at hL1; cases hL1
                                clear hL1 hL2
                                have c1 := HA.out.cells HG.out HS.out i' (by omega)
                                have c2 := HA.out.cells HG.out HS.out j' (by omega)
                                have f1 := HA.out.fros HS.out i' (by omega)
                                have f2 := HA.out.fros HS.out j' (by omega)
                                go_wp2
                                go_region
                                all_goals go_wp2
                                all_goals go_roundw
                                case rel =>
                                  refine ⟨i' + 1, j' - 1, swp dk i' j', by go_num, by congr 1; omega, HSW.out, ?_⟩
                                  rw [HG.out, HG.out]
                                  exact (HA.out.swp (by rw [HS.out]; omega) (by rw [HS.out]; omega)).drewN 1
                                case measure => simp [intOf]; omega
end Go.Proofs.Qxb6605873a
