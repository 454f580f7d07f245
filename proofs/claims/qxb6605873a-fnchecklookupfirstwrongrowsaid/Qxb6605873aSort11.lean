/-
  pdqsortOrdered at uint64, slices.Sort.
-/
import Derived.Test.Qxb6605873aSort3
import Derived.Test.Qxb6605873aSort5
import Derived.Test.Qxb6605873aSort9
import Derived.Test.Qxb6605873aSort10
set_option linter.unusedVariables false
namespace Go.Proofs.Qxb6605873a
open Go.RowKit Go.Sort

/-- R is d sorted within [a, b). -/
def Done (a b : Nat) (d R : Array Int) : Prop := PermIn a b d R ∧ SortedIn ltInt a b R

/-- Both sides of the pivot's place sorted, the pivot between them: all is sorted. -/
theorem glue_done {a b m : Nat} {d d' R : Array Int} (hP : PermIn a b d d') (hR : PermIn a b d' R) (hm : R[m]! = d'[m]!) (hlo : ∀ t, a ≤ t → t < m → ltInt R[t]! d'[m]! = true)
    (hhi : ∀ t, m < t → t < b → ltInt R[t]! d'[m]! = false) (s1 : SortedIn ltInt a m R) (s2 : SortedIn ltInt (m + 1) b R) : Done a b d R :=
  ⟨permIn_trans _ _ _ _ _ hP hR, sorted_glue swo_ltInt s1 s2 (fun t t1 t2 => by rw [hm]; exact hlo t t1 t2) (fun t t1 t2 => by rw [hm]; exact hhi t t1 t2)⟩

theorem eq_round {a b n pv m : Nat} {d d' : Array Int} (hd : d.size = n) (hb : b ≤ n) (ha0 : 0 < a) (hB : Go.Sort.Below ltInt a b d) (hnl : ltInt d[a - 1]! d[pv]! = false)
    (h1 : a < m) (h2 : m ≤ b) (hP : PermIn a b d d') (hle : ∀ t, a ≤ t → t < m → ltInt d[pv]! d'[t]! = false) (hgt : ∀ t, m ≤ t → t < b → ltInt d[pv]! d'[t]! = true) :
    Go.Sort.Below ltInt m b d' ∧ ∀ R, Done m b d' R → Done a b d R := by
  obtain ⟨p, hp⟩ : ∃ p, p = d[pv]! := ⟨_, rfl⟩
  rw [← hp] at hnl hle hgt
  -- nothing in [a, b) is less than the pivot: so it is ahead of the partition, so it is behind it
  have low : ∀ t, a ≤ t → t < b → ltInt d[t]! p = false := by
    intro t t1 t2
    rcases hB with e | hB
    · omega
    · have q := hB t t1 t2
      unfold ltInt at *
      simp only [decide_eq_false_iff_not] at *
      omega
  have low' : ∀ t, a ≤ t → t < b → ltInt d'[t]! p = false := permIn_all d d' a b (fun x => ltInt x p = false) (by omega) hP low
  have hs : d'.size = n := hP.1.trans hd
  refine ⟨Or.inr fun t t1 t2 => ?_, fun R hR => ?_⟩
  · have q1 := hgt t t1 t2
    have q2 := hle (m - 1) (by omega) (by omega)
    unfold ltInt at *
    simp only [decide_eq_false_iff_not, decide_eq_true_eq] at *
    omega
  · have same : ∀ t, t < m → R[t]! = d'[t]! := fun t ht => hR.1.2.1 t (Or.inl ht)
    have up : ∀ t, m ≤ t → t < b → ltInt p R[t]! = true := permIn_all d' R m b (fun x => ltInt p x = true) (by omega) hR.1 hgt
    have wide := permIn_mono d' R m b a b (by omega) (Nat.le_refl _) (by omega) hR.1
    exact ⟨permIn_trans _ _ _ _ _ hP wide, sorted_glue_eq swo_ltInt p hR.2 (fun t t1 t2 => by rw [same t t2]; exact hle t t1 t2) (fun t t1 t2 => by rw [same t t2]; exact low' t t1 (by omega)) up⟩

theorem part_left {a b n m : Nat} {d d' : Array Int} (hd : d.size = n) (hb : b ≤ n) (hB : Go.Sort.Below ltInt a b d) (h1 : a ≤ m) (h2 : m < b) (hP : PermIn a b d d')
    (hlo : ∀ t, a ≤ t → t < m → ltInt d'[t]! d'[m]! = true) (hhi : ∀ t, m < t → t < b → ltInt d'[t]! d'[m]! = false) :
    Go.Sort.Below ltInt a m d' ∧ ∀ L, Done a m d' L → Go.Sort.Below ltInt (m + 1) b L ∧ ∀ R, Done (m + 1) b L R → Done a b d R := by
  have hs : d'.size = n := hP.1.trans hd
  refine ⟨(hB.perm (by omega) hP).mono (by omega), fun L hL => ?_⟩
  have hsL : L.size = n := hL.1.1.trans hs
  have hiL : ∀ t, m < t → t < b → ltInt L[t]! d'[m]! = false := fun t t1 t2 => by rw [hL.1.2.1 t (Or.inr (by omega))]; exact hhi t t1 t2
  have loL := permIn_all d' L a m (fun x => ltInt x d'[m]! = true) (by omega) hL.1 hlo
  have midL : L[m]! = d'[m]! := hL.1.2.1 m (Or.inr (Nat.le_refl _))
  refine ⟨Or.inr fun t t1 t2 => by rw [Nat.add_sub_cancel, midL]; exact hiL t (by omega) t2, fun R hR => ?_⟩
  have same : ∀ t, t ≤ m → R[t]! = L[t]! := fun t ht => hR.1.2.1 t (Or.inl (by omega))
  have hiR := permIn_all L R (m + 1) b (fun x => ltInt x d'[m]! = false) (by omega) hR.1 (fun t t1 t2 => hiL t (by omega) t2)
  refine glue_done hP (permIn_trans _ _ _ _ _ (permIn_mono _ _ a m a b (Nat.le_refl _) (by omega) (by omega) hL.1) (permIn_mono _ _ (m + 1) b a b (by omega) (Nat.le_refl _) (by omega) hR.1))
    ((same m (Nat.le_refl _)).trans midL) (fun t t1 t2 => by rw [same t (by omega)]; exact loL t t1 t2) (fun t t1 t2 => hiR t (by omega) t2)
    (hL.2.congr fun t _ t2 => same t (by omega)) hR.2

theorem part_right {a b n m : Nat} {d d' : Array Int} (hd : d.size = n) (hb : b ≤ n) (hB : Go.Sort.Below ltInt a b d) (h1 : a ≤ m) (h2 : m < b) (hP : PermIn a b d d')
    (hlo : ∀ t, a ≤ t → t < m → ltInt d'[t]! d'[m]! = true) (hhi : ∀ t, m < t → t < b → ltInt d'[t]! d'[m]! = false) :
    Go.Sort.Below ltInt (m + 1) b d' ∧ ∀ L, Done (m + 1) b d' L → Go.Sort.Below ltInt a m L ∧ ∀ R, Done a m L R → Done a b d R := by
  have hs : d'.size = n := hP.1.trans hd
  refine ⟨Or.inr fun t t1 t2 => by rw [Nat.add_sub_cancel]; exact hhi t (by omega) t2, fun L hL => ?_⟩
  have hsL : L.size = n := hL.1.1.trans hs
  have lowL : ∀ t, t ≤ m → L[t]! = d'[t]! := fun t ht => hL.1.2.1 t (Or.inl (by omega))
  have loL : ∀ t, a ≤ t → t < m → ltInt L[t]! d'[m]! = true := fun t t1 t2 => by rw [lowL t (by omega)]; exact hlo t t1 t2
  have hiL := permIn_all d' L (m + 1) b (fun x => ltInt x d'[m]! = false) (by omega) hL.1 (fun t t1 t2 => hhi t (by omega) t2)
  have hBd' : Go.Sort.Below ltInt a m d' := (hB.perm (by omega) hP).mono (by omega)
  refine ⟨?_, fun R hR => ?_⟩
  · rcases hBd' with e | q
    · exact Or.inl e
    · exact Or.inr fun t t1 t2 => by rw [lowL t (by omega), lowL (a - 1) (by omega)]; exact q t t1 t2
  have same : ∀ t, m ≤ t → R[t]! = L[t]! := fun t ht => hR.1.2.1 t (Or.inr ht)
  have loR := permIn_all L R a m (fun x => ltInt x d'[m]! = true) (by omega) hR.1 loL
  exact glue_done hP (permIn_trans _ _ _ _ _ (permIn_mono _ _ (m + 1) b a b (by omega) (Nat.le_refl _) (by omega) hL.1) (permIn_mono _ _ a m a b (Nat.le_refl _) (by omega) (by omega) hR.1))
    ((same m (Nat.le_refl _)).trans (lowL m (Nat.le_refl _))) loR (fun t t1 t2 => by rw [same t (by omega)]; exact hiL t (by omega) t2)
    hR.2 (hL.2.congr fun t t1 _ => same t (by omega))

theorem done_of_perm {a b : Nat} {d d' R : Array Int} (h : PermIn a b d d') (hR : Done a b d' R) : Done a b d R := ⟨permIn_trans _ _ _ _ _ h hR.1, hR.2⟩

def PdqPost (w0 : World) (blk a b : Nat) (d : Array Int) (e : Ending) (w' : World) : Prop :=
  e = .returned (.tuple #[]) ∧ ∃ d', Arr w0 w' blk d' ∧ Done a b d d'

/-- The loop's state. -/
structure St (w0 wr : World) (blk n A B : Nat) (d : Array Int) (a b lim : Nat) (dk : Array Int) : Prop where
  hA : A ≤ a
  hab : a ≤ b
  hB : b ≤ B
  lim : lim ≤ 64
  sz : dk.size = n
  arr : Arr w0 wr blk dk
  below : Go.Sort.Below ltInt a b dk
  inv : ∀ R, Done a b dk R → Done A B d R

set_option maxRecDepth 100000 in
set_option maxHeartbeats 8000000 in
theorem pdq_calls (w0 : World) (blk c n : Nat) (hsz : n ≤ 1048576) : ∀ (z A B lim : Nat) (d : Array Int) (w : World), B - A ≤ z → d.size = n → Arr w0 w blk d → A ≤ B → B ≤ n → lim ≤ 64 → Go.Sort.Below ltInt A B d →
    Calls Try.prog 28 #[.slice (some ⟨blk, 0, none⟩) n c, .int .i64 A, .int .i64 B, .int .i64 lim] w (PdqPost w0 blk A B d) := by
  intro z
  induction z using Nat.strongRecOn with
  | ind z ih0 =>
  intro A B lim d w hz hd hH hAB hBn hlim hBel
  have ih : Hid _ := ih0
  have ST0 : Hid (St w0 w blk n A B d A B lim d) := ⟨Nat.le_refl _, hAB, Nat.le_refl _, hlim, hd, hH, hBel, fun R h => h⟩
  clear ih0 hd hH hlim hBel
  go_enter Try.func28, Try.ntmps28
  go_wp2
  go_loopw [1, 2, 3, 8, 9] (fun v1 v2 v3 v8 v9 wr => ∃ (a b lim : Nat) (wb wp : Bool) (dk : Array Int), v1 = .int .i64 a ∧ v2 = .int .i64 b ∧ v3 = .int .i64 lim ∧ v8 = .bool wb ∧ v9 = .bool wp ∧ Hid (St w0 wr blk n A B d a b lim dk))
    (fun v1 v2 _ _ _ _ => (intOf v2).toNat - (intOf v1).toNat)
  case atStart => exact ⟨A, B, lim, true, true, d, rfl, rfl, rfl, rfl, rfl, ST0⟩
  case round =>
    obtain ⟨a, b, lim, wb, wp, dk, rfl, rfl, rfl, rfl, rfl, ST⟩ := hrel
    clear ST0
    have hAa := ST.out.hA
    have hab := ST.out.hab
    have hbB := ST.out.hB
    have hlim := ST.out.lim
    have HS : Hid (dk.size = n) := ST.out.sz
    obtain ⟨l, hl⟩ : ∃ l, l = b - a := ⟨_, rfl⟩
    have e1 : (b : Int) - a = l := by omega
    have HL : Hid (l = b - a) := hl
    have hln : l ≤ n := by omega
    clear hl
    by_cases h12 : l ≤ 12
    · have k12 : (l : Int) ≤ 12 := by omega
      go_wp2_with fail
      refine (insertionSort_calls w0 blk c n a b dk _ HS.out ST.out.arr hab (by omega) hsz).mono ?_
      rintro e w' ⟨rfl, hA'⟩
      have HF : Hid (Done A B d (Go.Sort.insertionSort ltInt dk a b)) := by
        have := insertionSort_holds swo_ltInt dk a b hab (by rw [HS.out]; omega)
        exact ST.out.inv _ this
      have HA' : Hid (Arr w0 w' blk (Go.Sort.insertionSort ltInt dk a b)) := hA'
      clear hA' ST
      go_wp2
      (try simp only [Exit.inBlock, Exit.then]); refine bodyPost_ret (results_none rfl _ _ _) rfl ?_
      exact ⟨rfl, _, HA'.out, HF.out⟩
    · have k12 : ¬ (l : Int) ≤ 12 := by omega
      by_cases hl0 : lim = 0
      · subst hl0
        go_wp2_with fail
        refine (heapSort_calls w0 blk c n a b dk _ HS.out ST.out.arr (by have := HL.out; omega) (by omega) hsz).mono ?_
        rintro e w' ⟨rfl, hA'⟩
        have HF : Hid (Done A B d (heapSort ltInt dk a b)) := by
          have := heapSort_holds swo_ltInt dk a b hab (by rw [HS.out]; omega)
          exact ST.out.inv _ this
        have HA' : Hid (Arr w0 w' blk (heapSort ltInt dk a b)) := hA'
        clear hA' ST
        go_wp2
        (try simp only [Exit.inBlock, Exit.then]); refine bodyPost_ret (results_none rfl _ _ _) rfl ?_
        exact ⟨rfl, _, HA'.out, HF.out⟩
      · have kl0 : ((lim : Int) == 0) = false := by simp; omega
        have hab12 : a + 12 < b := by have := HL.out; omega
        go_upto_if 35 with fail
        go_cut [3] from 19 to 133 (fun s3 wx => ∃ (lim' : Nat) (d1 : Array Int), s3 = .int .i64 lim' ∧ lim' ≤ 64 ∧ Hid (PermIn a b dk d1) ∧ Hid (Arr w0 wx blk d1))
        case first =>
          cases wb with
          | true =>
            go_wp2
            go_meet
            case rel => exact ⟨lim, dk, rfl, hlim, permIn_refl _ _ _, ST.out.arr⟩
          | false =>
            go_wp2_with fail
            refine (breakPatterns_calls w0 blk c n a b dk _ HS.out ST.out.arr hab12 (by omega) hsz).mono ?_
            rintro e w' ⟨rfl, d1, hA', hP'⟩
            have HA' : Hid (Arr w0 w' blk d1) := hA'
            have HP' : Hid (PermIn a b dk d1) := hP'
            clear hA' hP'
            go_wp2
            go_meet
            case rel => exact ⟨lim - 1, d1, by congr 1; omega, by omega, HP', HA'⟩
        case rest =>
          obtain ⟨lim2, d1, rfl, hlim2, HP1, HA1⟩ := hcut
          have HS1 : Hid (d1.size = n) := by show d1.size = n; rw [HP1.out.1]; exact HS.out
          go_wp2_with fail
          refine (choosePivot_calls w0 blk c n a b d1 _ HS1.out HA1.out hab12 (by omega) hsz).mono ?_
          rintro e w2 ⟨pv, h, rfl, hp1, hp2, hh, hA2⟩
          have HA2 : Hid (Arr w0 w2 blk d1) := hA2
          clear hA2 HA1
          go_upto_if 50 with fail
          go_cut [11, 12] from 19 to 133 (fun s11 s12 wx => ∃ (pv h : Nat) (d2 : Array Int), s11 = .int .i64 pv ∧ s12 = .int .i64 h ∧ a ≤ pv ∧ pv < b ∧ h ≤ 2 ∧ Hid (PermIn a b dk d2) ∧ Hid (Arr w0 wx blk d2))
          case first =>
            by_cases h2 : h = 2
            · subst h2
              go_wp2_with fail
              refine (reverseRange_calls w0 blk c n a b d1 _ HS1.out HA2.out (by omega) (by omega) hsz).mono ?_
              rintro e w' ⟨rfl, d2, hA', hP'⟩
              have HA' : Hid (Arr w0 w' blk d2) := hA'
              have HP' : Hid (PermIn a b dk d2) := permIn_trans _ _ _ _ _ HP1.out hP'
              clear hA' hP'
              go_wp2
              go_meet
              case rel => exact ⟨b - 1 - (pv - a), 1, d2, by congr 1; omega, rfl, by omega, by omega, by omega, HP', HA'⟩
            · have k2 : ((h : Int) == 2) = false := by simp; omega
              go_wp2
              go_meet
              case rel => exact ⟨pv, h, d1, rfl, rfl, hp1, hp2, by omega, HP1, HA2⟩
          case rest =>
            clear hp1 hp2 hh HA2
            obtain ⟨pv, h, d2, rfl, rfl, hp1, hp2, hh, HP2, HA2⟩ := hcut
            have HS2 : Hid (d2.size = n) := by show d2.size = n; rw [HP2.out.1]; exact HS.out
            go_upto_region 15 with fail
            go_cut [68] from 19 to 133 (fun s68 wx => s68 = .bool (wb && wp && decide (h = 1)) ∧ Hid (Arr w0 wx blk d2))
            case first =>
              cases wb with
              | false =>
                go_wp2_with fail
                go_meet
                case rel => exact ⟨rfl, HA2⟩
              | true =>
                cases wp with
                | false =>
                  go_wp2_with fail
                  go_meet
                  case rel => exact ⟨rfl, HA2⟩
                | true =>
                  by_cases h1 : h = 1
                  · subst h1
                    go_wp2_with fail
                    go_meet
                    case rel => exact ⟨rfl, HA2⟩
                  · have k2 : ((h : Int) == 1) = false := by simp; omega
                    go_wp2_with fail
                    go_meet
                    case rel => exact ⟨by simp [h1], HA2⟩
            case rest =>
            clear HA2
            obtain ⟨rfl, HA2⟩ := hcut
            go_upto_if 68 with fail
            go_cut [] from 19 to 133 (fun wx => ∃ (d3 : Array Int), Hid (PermIn a b dk d3) ∧ Hid (Arr w0 wx blk d3))
            case first =>
              cases hc : (wb && wp && decide (h = 1)) with
              | true =>
                clear hc
                go_wp2_with fail
                refine (partialIns_calls w0 blk c n a b d2 _ HS2.out HA2.out (by omega) (by omega) hsz).mono ?_
                rintro e w' ⟨rfl, hA'⟩
                obtain ⟨q1, q2⟩ := partialInsertionSort_holds swo_ltInt d2 a b (by omega) (by rw [HS2.out]; omega) (ST.out.below.perm (by rw [HS.out]; omega) HP2.out)
                obtain ⟨R, hR⟩ : ∃ R, R = partialInsertionSort ltInt d2 a b := ⟨_, rfl⟩
                rw [← hR] at hA' q1 q2
                rw [← hR]
                obtain ⟨R1, R2⟩ := R
                have HA' : Hid (Arr w0 w' blk R1) := hA'
                have Q1 : Hid (PermIn a b dk R1) := permIn_trans _ _ _ _ _ HP2.out q1
                have Q2 : Hid (R2 = true → SortedIn ltInt a b R1) := q2
                clear hA' q1 q2 hR
                cases R2 with
                | true =>
                  have HF : Hid (Done A B d R1) := ST.out.inv _ ⟨Q1.out, Q2.out rfl⟩
                  clear ST
                  go_wp2
                  (try simp only [Exit.inBlock, Exit.then]); refine bodyPost_ret (results_none rfl _ _ _) rfl ?_
                  exact ⟨rfl, _, HA'.out, HF.out⟩
                | false =>
                  go_wp2
                  go_meet
                  case rel => exact ⟨R1, Q1, HA'⟩
              | false =>
                go_wp2
                go_meet
                case rel => exact ⟨d2, HP2, HA2⟩
            case rest =>
              obtain ⟨d3, HP3, HA3⟩ := hcut
              clear HP2 HA2 HS2 HP1 HS1
              have HS3 : Hid (d3.size = n) := by show d3.size = n; rw [HP3.out.1]; exact HS.out
              have HB3 : Hid (Go.Sort.Below ltInt a b d3) := ST.out.below.perm (by rw [HS.out]; omega) HP3.out
              have HI3 : Hid (∀ R, Done a b d3 R → Done A B d R) := fun R hR => ST.out.inv R (done_of_perm HP3.out hR)
              clear ST HP3 HS
              obtain ⟨G, HG⟩ := HA3.out.fam0
              go_upto_region 17 with fail
              go_cut [87] from 19 to 133 (fun s87 wx => s87 = .bool (decide (0 < a) && !ltInt (G (a - 1)) (G pv)) ∧ Hid (Arr w0 wx blk d3))
              case first =>
                by_cases ha0 : 0 < a
                · have c1 := HA3.out.cells HG.out HS3.out (a - 1) (by omega)
                  have c2 := HA3.out.cells HG.out HS3.out pv (by omega)
                  have k0 : (0 : Int) < (a : Int) := by omega
                  have b1 : (0 : Int) ≤ (a : Int) - 1 := by omega
                  have b2 : (a : Int) - 1 < n := by omega
                  have b3 : (pv : Int) < n := by omega
                  go_quiet (first | (go_at_call 36; refine Calls.quiet_of_same (less_calls _ _ _)))
                  go_wp2_with fail
                  go_meet
                  case rel => exact ⟨by simp [ha0], HA3.out.drewN _⟩
                · have hdd : decide ((a : Int) > 0) = false := by simp; omega
                  have hdd2 : decide ((0 : Int) < (a : Int)) = false := by simp; omega
                  go_quiet (first | (go_at_call 36; refine Calls.quiet_of_same (less_calls _ _ _)))
                  go_wp2_with fail
                  go_meet
                  case rel => exact ⟨by simp [ha0], HA3.out.drewN _⟩
              case rest =>
                obtain ⟨rfl, HA4⟩ := hcut
                clear HA3
                cases hb2 : (decide (0 < a) && !ltInt (G (a - 1)) (G pv)) with
                | true =>
                  have ha0 : 0 < a := by simp at hb2; exact hb2.1
                  have HNL : Hid (ltInt d3[a - 1]! d3[pv]! = false) := by rw [← HG.out, ← HG.out]; simp at hb2; exact hb2.2
                  clear hb2
                  go_wp2_with fail
                  refine (partitionEqual_calls w0 blk c n a b pv d3 _ HS3.out HA4.out hp1 hp2 (by omega) hsz).mono ?_
                  rintro e w' ⟨m, d4, rfl, hA5, hs4, h1, h2, q3, q4, q5⟩
                  obtain ⟨B5, I5⟩ := eq_round HS3.out (by omega : b ≤ n) ha0 HB3.out HNL.out h1 h2 q3 q4 q5
                  have ST5 : Hid (St w0 w' blk n A B d m b lim2 d4) := ⟨by omega, h2, hbB, hlim2, hs4, hA5, B5, fun R hR => HI3.out R (I5 R hR)⟩
                  clear hA5 hs4 q3 q4 q5 B5 I5 HB3 HI3 HA4 HNL
                  go_wp2
                  go_roundw
                  case rel => exact ⟨m, b, lim2, wb, wp, d4, rfl, rfl, rfl, rfl, rfl, ST5⟩
                  case measure => simp [intOf]; omega
                | false =>
                  clear hb2
                  go_wp2_with fail
                  refine (partition_calls w0 blk c n a b pv d3 _ HS3.out HA4.out hp1 hp2 (by omega) hsz).mono ?_
                  rintro e w' ⟨m, ap, d4, rfl, hA5, hs4, h1, h2, q3, q4, q5⟩
                  obtain ⟨BL, IL⟩ := part_left HS3.out (by omega : b ≤ n) HB3.out h1 h2 q3 q4 q5
                  obtain ⟨BR, IR⟩ := part_right HS3.out (by omega : b ≤ n) HB3.out h1 h2 q3 q4 q5
                  have HS4 : Hid (d4.size = n) := hs4
                  have HA5 : Hid (Arr w0 w' blk d4) := hA5
                  have HBL : Hid (Go.Sort.Below ltInt a m d4) := BL
                  have HBR : Hid (Go.Sort.Below ltInt (m + 1) b d4) := BR
                  have HIL : Hid _ := IL
                  have HIR : Hid _ := IR
                  clear hA5 hs4 q3 q4 q5 BL IL BR IR HB3 HA4 HS3
                  have hlz := HL.out
                  by_cases hlr : m - a < b - m
                  · have klr : (m : Int) - a < (b : Int) - m := by omega
                    go_wp2_with fail
                    refine (ih.out (m - a) (by omega) a m lim2 d4 _ (Nat.le_refl _) HS4.out HA5.out h1 (by omega) hlim2 HBL.out).mono ?_
                    rintro e w6 ⟨rfl, L, hA6, hL⟩
                    obtain ⟨B6, I6⟩ := HIL.out L hL
                    have ST6 : Hid (St w0 w6 blk n A B d (m + 1) b lim2 L) := ⟨by omega, by omega, hbB, hlim2, by rw [hL.1.1]; exact HS4.out, hA6, B6, fun R hR => HI3.out R (I6 R hR)⟩
                    clear hA6 hL B6 I6 HIL HIR HBL HBR HA5 HI3 HS4
                    go_wp2
                    go_roundw
                    case rel => exact ⟨m + 1, b, lim2, _, ap, L, by go_num, rfl, rfl, rfl, rfl, ST6⟩
                    case measure => simp [intOf]; omega
                  · have klr : ¬ (m : Int) - a < (b : Int) - m := by omega
                    obtain ⟨m1, hm1⟩ : ∃ m1, m1 = m + 1 := ⟨_, rfl⟩
                    have em : (m : Int) + 1 = (m1 : Int) := by omega
                    rw [← hm1] at HBR HIR
                    have hmb : m1 ≤ b := by omega
                    have hmz : b - m1 < z := by omega
                    clear hm1
                    go_wp2_with fail
                    refine (ih.out (b - m1) hmz m1 b lim2 d4 _ (Nat.le_refl _) HS4.out HA5.out hmb (by omega) hlim2 HBR.out).mono ?_
                    rintro e w6 ⟨rfl, L, hA6, hL⟩
                    obtain ⟨B6, I6⟩ := HIR.out L hL
                    have ST6 : Hid (St w0 w6 blk n A B d a m lim2 L) := ⟨hAa, h1, by omega, hlim2, by rw [hL.1.1]; exact HS4.out, hA6, B6, fun R hR => HI3.out R (I6 R hR)⟩
                    clear hA6 hL B6 I6 HIL HIR HBL HBR HA5 HI3 HS4
                    go_wp2
                    go_roundw
                    case rel => exact ⟨a, m, lim2, _, ap, L, rfl, rfl, rfl, rfl, rfl, ST6⟩
                    case measure => simp [intOf]; omega
end Go.Proofs.Qxb6605873a
