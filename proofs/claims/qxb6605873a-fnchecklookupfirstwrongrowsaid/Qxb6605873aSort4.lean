/-
  partitionEqualOrdered at uint64.
-/
import Derived.Test.Qxb6605873aSort2
import Derived.Deep.CutRange
set_option linter.unusedVariables false
namespace Go.Proofs.Qxb6605873a
open Go.RowKit Go.Sort

/-- What the scans and the swaps of a partition keep: left of i what belongs to the left, right of j what does not; the pivot lies at a. -/
structure PInv (L : Int → Bool) (p : Int) (a b n : Nat) (d dk : Array Int) (i j : Nat) : Prop where
  ha : a < i
  hij : i ≤ j + 1
  hj : j < b
  hb : b ≤ n
  sz : dk.size = n
  perm : PermIn a b d dk
  piv : dk[a]! = p
  lo : ∀ t, a < t → t < i → L dk[t]! = true
  hi : ∀ t, j < t → t < b → L dk[t]! = false

theorem PInv.up {L : Int → Bool} {p : Int} {a b n : Nat} {d dk : Array Int} {i j : Nat} (h : PInv L p a b n d dk i j) (h1 : i ≤ j) (h2 : L dk[i]! = true) : PInv L p a b n d dk (i + 1) j :=
  ⟨by have := h.ha; omega, by omega, h.hj, h.hb, h.sz, h.perm, h.piv, fun t h3 h4 => by
    by_cases e : t = i
    · rw [e]; exact h2
    · exact h.lo t h3 (by omega), h.hi⟩
theorem PInv.down {L : Int → Bool} {p : Int} {a b n : Nat} {d dk : Array Int} {i j : Nat} (h : PInv L p a b n d dk i j) (h1 : i ≤ j) (h2 : L dk[j]! = false) : PInv L p a b n d dk i (j - 1) :=
  ⟨h.ha, by have := h.ha; omega, by have := h.hj; omega, h.hb, h.sz, h.perm, h.piv, h.lo, fun t h3 h4 => by
    by_cases e : t = j
    · rw [e]; exact h2
    · exact h.hi t (by omega) h4⟩
theorem PInv.swap {L : Int → Bool} {p : Int} {a b n : Nat} {d dk : Array Int} {i j : Nat} (h : PInv L p a b n d dk i j) (h1 : i ≤ j) (h2 : L dk[i]! = false) (h3 : L dk[j]! = true) : PInv L p a b n d (swp dk i j) (i + 1) (j - 1) := by
  obtain ⟨ha, hij, hj, hb, sz, perm, piv, lo, hi⟩ := h
  have hne : i ≠ j := fun e => by rw [e, h3] at h2; cases h2
  refine ⟨by omega, by omega, by omega, hb, by rw [size_swp]; exact sz, permIn_trans _ _ _ _ _ perm (swp_permIn _ _ _ _ _ (by omega) (by omega) (by omega) hj (by rw [sz]; exact hb)), ?_, ?_, ?_⟩
  · rw [swp_other _ _ _ _ (by omega) (by omega)]; exact piv
  · intro t h4 h5
    by_cases e : t = i
    · subst e; rw [swp_left _ _ _ (by omega) hne]; exact h3
    · rw [swp_other _ _ _ _ e (by omega)]; exact lo t h4 (by omega)
  · intro t h4 h5
    by_cases e : t = j
    · subst e; rw [swp_right _ _ _ (by omega)]; exact h2
    · rw [swp_other _ _ _ _ (by omega) e]; exact hi t (by omega) h5

theorem PInv.start {L : Int → Bool} {a b n pv : Nat} {d : Array Int} (hd : d.size = n) (h1 : a ≤ pv) (h2 : pv < b) (hb : b ≤ n) : PInv L d[pv]! a b n d (swp d a pv) (a + 1) (b - 1) := by
  refine ⟨by omega, by omega, by omega, hb, by rw [size_swp]; exact hd, swp_permIn _ _ _ _ _ (Nat.le_refl _) (by omega) h1 h2 (by omega), ?_, fun t h3 h4 => by omega, fun t h3 h4 => by omega⟩
  rw [swp_get d (by omega) (by omega) a]
  by_cases e : a = pv
  · subst e; simp
  · simp [e]

/-- What partitionEqual leaves. -/
def EqPost (w0 : World) (blk a b n pv : Nat) (d : Array Int) (e : Ending) (w' : World) : Prop :=
  ∃ (m : Nat) (d' : Array Int), e = .returned (.int .i64 m) ∧ Arr w0 w' blk d' ∧ d'.size = n ∧ a < m ∧ m ≤ b ∧ PermIn a b d d' ∧ (∀ t, a ≤ t → t < m → ltInt d[pv]! d'[t]! = false) ∧ (∀ t, m ≤ t → t < b → ltInt d[pv]! d'[t]! = true)

abbrev LE (p : Int) : Int → Bool := fun x => !ltInt p x

set_option maxRecDepth 100000 in
set_option maxHeartbeats 2000000 in
theorem partitionEqual_calls (w0 : World) (blk c n a b pv : Nat) (d : Array Int) (w : World) (hd : d.size = n) (hH : Arr w0 w blk d) (hap : a ≤ pv) (hpb : pv < b) (hb : b ≤ n) (hsz : n ≤ 1048576) :
    Calls Try.prog 37 #[.slice (some ⟨blk, 0, none⟩) n c, .int .i64 a, .int .i64 b, .int .i64 pv] w (EqPost w0 blk a b n pv d) := by
  have HP0 : Hid (PInv (LE d[pv]!) d[pv]! a b n d (swp d a pv) (a + 1) (b - 1)) := PInv.start hd hap hpb hb
  obtain ⟨p, hp⟩ : ∃ p, p = d[pv]! := ⟨_, rfl⟩
  have HP : Hid (p = d[pv]!) := hp
  rw [← hp] at HP0
  have HW0 : Hid (Arr w0 w blk d) := hH
  have HS0 : Hid (d.size = n) := hd
  obtain ⟨G, HG, hcw, hfw⟩ := hH.fam
  rw [hd] at hcw hfw
  have c1 := hcw a (by omega)
  have f1 := hfw a (by omega)
  have c2 := hcw pv (by omega)
  have f2 := hfw pv (by omega)
  obtain ⟨v1, hv1⟩ := cell?_setCell_some (p := ⟨blk, a, none⟩) (x := .int .u64 (G pv)) c2
  obtain ⟨v2, hv2⟩ := cell?_setCell_some (p := ⟨blk, pv, none⟩) (x := .int .u64 (G a)) c1
  have HW1 : Hid (Arr w0 ((w.setCell ⟨blk, a, none⟩ (.int .u64 (G pv))).setCell ⟨blk, pv, none⟩ (.int .u64 (G a))).drew blk (swp d a pv)) := by
    rw [HG.out, HG.out]
    exact (HW0.out.swp (by rw [HS0.out]; omega) (by rw [HS0.out]; omega)).drewN 1
  clear hcw hfw hp hH hd
  go_enter Try.func37, Try.ntmps37
  go_wp2
  go_region
  all_goals go_wp2
  clear c1 f1 c2 f2 hv1 hv2 HG
  go_loopw [9, 10] (fun vi vj wr => ∃ (i j : Nat) (dk : Array Int), vi = .int .i64 i ∧ vj = .int .i64 j ∧ PInv (LE p) p a b n d dk i j ∧ Arr w0 wr blk dk)
     (fun vi vj _ => (intOf vj).toNat + 1 - (intOf vi).toNat)
  case atStart => exact ⟨a + 1, b - 1, _, by go_num, by congr 1; omega, HP0.out, HW1.out⟩
  case round =>
    obtain ⟨i, j, dk, rfl, rfl, hP, hA⟩ := hrel
    obtain ⟨G, HG, _, _⟩ := hA.fam
    have HA : Hid (Arr w0 wr blk dk) := hA
    have HPI : Hid (PInv (LE p) p a b n d dk i j) := hP
    clear HW1 HP0 hA hP
    go_wp2
    go_loopw [9] (fun vi wr => ∃ (i' : Nat), vi = .int .i64 i' ∧ Hid (PInv (LE p) p a b n d dk i' j) ∧ Hid (Arr w0 wr blk dk) ∧ i ≤ i') (fun vi _ => j + 1 - (intOf vi).toNat)
    case atStart => exact ⟨i, rfl, HPI, HA, Nat.le_refl _⟩
    case round =>
      obtain ⟨i', rfl, hP, hA, hii⟩ := hrel
      clear HA HPI
      have h1 := hP.out.ha
      have h2 := hP.out.hij
      have h3 := hP.out.hj
      have HS : Hid (dk.size = n) := hP.out.sz
      go_upto_region 3 with fail
      go_cut [43] from 29 to 45 (fun s43 wx => s43 = .bool (decide (i' ≤ j) && !ltInt (G a) (G i')) ∧ Hid (Arr w0 wx blk dk))
      case first =>
        have ca := hA.out.cells HG.out HS.out a (by omega)
        by_cases hij : i' ≤ j
        · have ci := hA.out.cells HG.out HS.out i' (by omega)
          go_quiet (first | (go_at_call 36; refine Calls.quiet_of_same (less_calls _ _ _)))
          go_wp2_with fail
          go_meet
          case rel => exact ⟨by simp [hij], hA.out.drewN _⟩
        · have hd : decide ((i' : Int) ≤ (j : Int)) = false := by simp; omega
          go_quiet (first | (go_at_call 36; refine Calls.quiet_of_same (less_calls _ _ _)))
          go_wp2_with fail
          go_meet
          case rel => exact ⟨by simp [hij], hA.out.drewN _⟩
      case rest =>
        obtain ⟨rfl, HA⟩ := hcut
        clear hA
        have TL : Hid ((!ltInt (G a) (G i')) = LE p dk[i']!) := by show _ = _; rw [HG.out, HG.out, hP.out.piv]
        cases hb : (decide (i' ≤ j) && !ltInt (G a) (G i')) with
        | true =>
          have hij : i' ≤ j := by simp at hb; exact hb.1
          have HL : Hid (LE p dk[i']! = true) := by rw [← TL.out]; simp only [Bool.and_eq_true] at hb; exact hb.2
          go_wp2
          go_roundw
          case rel => exact ⟨i' + 1, by go_num, hP.out.up hij HL.out, HA, by omega⟩
          case measure => simp [intOf]; omega
        | false =>
          have HU : Hid (i' ≤ j → LE p dk[i']! = false) := fun hij => by
            rw [← TL.out]; simpa [hij] using hb
          clear TL HS
          go_wp2
          go_loopw [10] (fun vj wr => ∃ (j' : Nat), vj = .int .i64 j' ∧ Hid (PInv (LE p) p a b n d dk i' j') ∧ Hid (Arr w0 wr blk dk) ∧ j' ≤ j) (fun vj _ => (intOf vj).toNat)
          case atStart => exact ⟨j, rfl, hP, HA, Nat.le_refl _⟩
          case round =>
            obtain ⟨j', rfl, hP2, hA, hjj⟩ := hrel
            clear HA hb h1 h2 h3 hP
            have h1 := hP2.out.ha
            have h2 := hP2.out.hij
            have h3 := hP2.out.hj
            have HS : Hid (dk.size = n) := hP2.out.sz
            go_upto_region 5 with fail
            go_cut [59] from 46 to 61 (fun s43 wx => s43 = .bool (decide (i' ≤ j') && ltInt (G a) (G j')) ∧ Hid (Arr w0 wx blk dk))
            case first =>
              have ca := hA.out.cells HG.out HS.out a (by omega)
              by_cases hij : i' ≤ j'
              · have ci := hA.out.cells HG.out HS.out j' (by omega)
                go_quiet (first | (go_at_call 36; refine Calls.quiet_of_same (less_calls _ _ _)))
                go_wp2_with fail
                go_meet
                case rel => exact ⟨by simp [hij], hA.out.drewN _⟩
              · have hd : decide ((i' : Int) ≤ (j' : Int)) = false := by simp; omega
                go_quiet (first | (go_at_call 36; refine Calls.quiet_of_same (less_calls _ _ _)))
                go_wp2_with fail
                go_meet
                case rel => exact ⟨by simp [hij], hA.out.drewN _⟩
            case rest =>
              obtain ⟨rfl, HA⟩ := hcut
              clear hA
              have TL : Hid ((ltInt (G a) (G j')) = !(LE p dk[j']!)) := by show _ = _; rw [HG.out, HG.out, hP2.out.piv]; simp [LE]
              cases hb : (decide (i' ≤ j') && ltInt (G a) (G j')) with
              | true =>
                have hij : i' ≤ j' := by simp at hb; exact hb.1
                have HL : Hid (LE p dk[j']! = false) := by
                  have t := TL.out
                  simp only [Bool.and_eq_true] at hb
                  rw [hb.2] at t
                  show LE p dk[j']! = false
                  cases e : LE p dk[j']! with
                  | true => rw [e] at t; cases t
                  | false => rfl
                go_wp2
                go_roundw
                case rel => exact ⟨j' - 1, by congr 1; omega, hP2.out.down hij HL.out, HA, by omega⟩
                case measure => simp [intOf]; omega
              | false =>
                have HD : Hid (i' ≤ j' → LE p dk[j']! = true) := fun hij => by
                  have t := TL.out
                  simp only [hij, decide_true, Bool.true_and] at hb
                  rw [hb] at t
                  cases e : LE p dk[j']! with
                  | true => rfl
                  | false => rw [e] at t; cases t
                clear TL hb
                by_cases hgt : j' < i'
                · go_wp2
                  go_ret
                  refine ⟨i', dk, rfl, HA.out, HS.out, h1, by omega, hP2.out.perm, fun t t1 t2 => ?_, fun t t1 t2 => ?_⟩
                  · rw [← HP.out]
                    by_cases e : t = a
                    · rw [e, hP2.out.piv]; simp [ltInt]
                    · have := hP2.out.lo t (by omega) t2
                      simpa [LE] using this
                  · rw [← HP.out]
                    have := hP2.out.hi t (by omega) t2
                    simpa [LE] using this
                · have hij : i' ≤ j' := by omega
                  have hL1 := HU.out (by omega)
                  have hL2 := HD.out hij
                  have HSW : Hid (PInv (LE p) p a b n d (swp dk i' j') (i' + 1) (j' - 1)) := hP2.out.swap hij hL1 hL2
                  have hne : i' ≠ j' := fun e => by rw [e, hL2] at hL1; cases hL1
                  clear hL1 hL2
                  have c1 := HA.out.cells HG.out HS.out i' (by omega)
                  have c2 := HA.out.cells HG.out HS.out j' (by omega)
                  have f1 := HA.out.fros HS.out i' (by omega)
                  have f2 := HA.out.fros HS.out j' (by omega)
                  go_wp2
                  go_region
                  all_goals go_wp2
                  all_goals go_roundw
                  case rel =>
                    refine ⟨i' + 1, j' - 1, swp dk i' j', by go_num, by congr 1; omega, HSW.out, ?_⟩
                    rw [HG.out, HG.out]
                    exact (HA.out.swp (by rw [HS.out]; omega) (by rw [HS.out]; omega)).drewN 1
                  case measure => simp [intOf]; omega
end Go.Proofs.Qxb6605873a
