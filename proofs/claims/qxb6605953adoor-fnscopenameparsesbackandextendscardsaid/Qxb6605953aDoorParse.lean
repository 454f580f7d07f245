/-
  THE WALK of parseScope (7) at a text that scopeName writes.
-/
import Derived.Test.Qxb6605953aDoorText
namespace Go.Proofs.Qxb6605953aDoor
open Go.RowKit

/-- out, as far as it is filled. -/
def Outs (w : World) (b : Nat) (L : List Int) (n : Nat) : Prop := ∀ j, j < 4 → w.cell? ⟨b, j, none⟩ = some (.int .i64 (if j < n then L.getD j 0 else 0)) ∧ w.frozen? ⟨b, j, none⟩ = false

/-- What parseScope hands out. -/
def Parsed (L : List Int) (w : World) (e : Ending) (w' : World) : Prop :=
  e = .returned (.tuple #[.agg #[.int .i64 (L.getD 0 0), .int .i64 (L.getD 1 0), .int .i64 (L.getD 2 0), .int .i64 (L.getD 3 0)], .int .i64 L.length, .bool true]) ∧ Below w.heap.size w w'

/-- What stands behind a field. -/
def T : List Int → List UInt8
  | [] => []
  | y :: r => 58 :: J (y :: r)
theorem J_split (x : Int) (r : List Int) : J (x :: r) = Lib.itoa x ++ T r := by cases r <;> rw [J] <;> rfl
theorem J_pos (x : Int) (r : List Int) : 0 < (J (x :: r)).length := by
  rw [J_split, List.length_append]
  have h : 0 < (Lib.itoa x).length := by
    unfold Lib.itoa
    split
    · simp
    · rw [Lib.decDigits_length]; exact Lib.nDigits_pos _
  omega
theorem drop_one {L : List Int} {k : Nat} {x : Int} (h : L.drop k = [x]) : k + 1 = L.length := by
  have := congrArg List.length h
  simp at this
  omega
theorem drop_next {L : List Int} {k : Nat} {x : Int} {r : List Int} (h : L.drop k = x :: r) : L.drop (k + 1) = r := by
  have := congrArg List.tail h
  simpa using this
theorem drop_lt {L : List Int} {k : Nat} {x : Int} {r : List Int} (hL : L.length ≤ 4) (h : L.drop k = x :: r) : k < 4 := by
  have := congrArg List.length h
  simp at this
  omega
theorem drop_getD {L : List Int} {k : Nat} {x : Int} {r : List Int} (h : L.drop k = x :: r) : L.getD k 0 = x := by
  have : (L.drop k)[0]? = some x := by rw [h]; rfl
  rw [List.getElem?_drop, Nat.add_zero] at this
  simp [List.getD_eq_getElem?_getD, this]
theorem outs_step {w : World} {b : Nat} {L : List Int} {k : Nat} {x : Int} {r : List Int} (h : Outs w b L k) (hd : L.drop k = x :: r) : Outs (w.setCell ⟨b, k, none⟩ (.int .i64 x)) b L (k + 1) := fun j hj => by
  obtain ⟨h1, h2⟩ := h j hj
  refine ⟨?_, by rw [World.frozen?_setCell]; exact h2⟩
  by_cases e : k = j
  · subst e
    rw [if_pos (by omega), drop_getD hd]
    exact World.cell?_setCell_same _ _ _ h1
  · rw [cell_set_ne e, h1]
    by_cases hlt : j < k
    · rw [if_pos hlt, if_pos (by omega)]
    · rw [if_neg hlt, if_neg (by omega)]
theorem outs_at {w : World} {b : Nat} {L : List Int} {n : Nat} (h : Outs w b L n) (hn : n = L.length) (j : Nat) (hj : j < 4) : w.cell? ⟨b, j, none⟩ = some (.int .i64 (L.getD j 0)) := by
  rw [(h j hj).1]
  by_cases e : j < n
  · rw [if_pos e]
  · rw [if_neg e]
    have : L[j]? = none := List.getElem?_eq_none (by omega)
    simp [List.getD_eq_getElem?_getD, this]
theorem put4 {W : World} {b : Nat} (h : Room W b 4) (a0 a1 a2 a3 : Value) : (W.setCell ⟨b, 0, none⟩ a0).cell? ⟨b, 0, none⟩ = some a0 ∧ ((W.setCell ⟨b, 0, none⟩ a0).setCell ⟨b, 1, none⟩ a1).cell? ⟨b, 1, none⟩ = some a1 ∧
    (((W.setCell ⟨b, 0, none⟩ a0).setCell ⟨b, 1, none⟩ a1).setCell ⟨b, 2, none⟩ a2).cell? ⟨b, 2, none⟩ = some a2 ∧ ((((W.setCell ⟨b, 0, none⟩ a0).setCell ⟨b, 1, none⟩ a1).setCell ⟨b, 2, none⟩ a2).setCell ⟨b, 3, none⟩ a3).cell? ⟨b, 3, none⟩ = some a3 := by
  obtain ⟨v0, h0⟩ := (h 0 (by omega)).1
  obtain ⟨v1, h1⟩ := ((h.setCell ⟨b, 0, none⟩ a0) 1 (by omega)).1
  obtain ⟨v2, h2⟩ := (((h.setCell ⟨b, 0, none⟩ a0).setCell ⟨b, 1, none⟩ a1) 2 (by omega)).1
  obtain ⟨v3, h3⟩ := ((((h.setCell ⟨b, 0, none⟩ a0).setCell ⟨b, 1, none⟩ a1).setCell ⟨b, 2, none⟩ a2) 3 (by omega)).1
  exact ⟨World.cell?_setCell_same _ _ _ h0, World.cell?_setCell_same _ _ _ h1, World.cell?_setCell_same _ _ _ h2, World.cell?_setCell_same _ _ _ h3⟩
theorem below4 {w W : World} (h : Below w.heap.size w W) (a0 a1 a2 a3 : Value) : Below w.heap.size w ((((W.setCell ⟨w.heap.size, 0, none⟩ a0).setCell ⟨w.heap.size, 1, none⟩ a1).setCell ⟨w.heap.size, 2, none⟩ a2).setCell ⟨w.heap.size, 3, none⟩ a3) :=
  (((h.setCell (Nat.le_refl _) _).setCell (Nat.le_refl _) _).setCell (Nat.le_refl _) _).setCell (Nat.le_refl _) _
theorem J_len : ∀ (L : List Int), (∀ x ∈ L, InR x) → (J L).length ≤ 22 * L.length
  | [], _ => by simp [J]
  | [x], h => by rw [J_one]; have := Lib.itoa_length_le x (h x (by simp)).1 (h x (by simp)).2; simp; omega
  | x :: y :: r, h => by
    rw [J_cons]
    have h1 := Lib.itoa_length_le x (h x (by simp)).1 (h x (by simp)).2
    have h2 := J_len (y :: r) (fun z hz => h z (by simp [hz]))
    simp only [List.length_append, List.length_cons] at h2 ⊢
    omega
theorem fresh4 (w : World) (j : Nat) (hj : j < 4) (z : Value) : (∃ v, (w.alloc (.cells #[z, z, z, z] 27)).cell? ⟨w.heap.size, j, none⟩ = some v ∧ v = z) ∧ (w.alloc (.cells #[z, z, z, z] 27)).frozen? ⟨w.heap.size, j, none⟩ = false := by
  match j, hj with
  | 0, _ => simp
  | 1, _ => simp
  | 2, _ => simp
  | 3, _ => simp

set_option maxRecDepth 100000 in
set_option maxHeartbeats 16000000 in
theorem parse_calls (L : List Int) (hL : L.length ≤ 4) (hR : ∀ x ∈ L, InR x) (s : ByteArray) (hs : s = ⟨(J L).toArray⟩) (w : World) : Calls Tryd.prog 7 #[.string s] w (Parsed L w) := by
  cases L with
  | nil =>
    obtain rfl : s = ⟨#[]⟩ := hs
    go_enter Tryd.func7, Tryd.ntmps7
    go_wp2
    exact bodyPost_ret (v := .tuple #[.agg #[.int .i64 0, .int .i64 0, .int .i64 0, .int .i64 0], .int .i64 0, .bool true]) (by simp [results, Tryd.results7, go_sem]) rfl ⟨rfl, ((Below.refl _ _).alloc (Nat.le_refl _) _).alloc (by simp) _⟩
  | cons x0 L0 =>
    have HAt : Hid (At s 0 (J (x0 :: L0))) := by rw [hs]; exact At.whole _
    have HSz : Hid (s.size = (J (x0 :: L0)).length) := by rw [hs]; rfl
    have hpos : 0 < s.size := by rw [HSz.out]; exact J_pos _ _
    have h4 : L0.length ≤ 3 := by simpa using hL
    have hsz : s.size ≤ 100 := by rw [HSz.out]; have := J_len (x0 :: L0) hR; simp only [List.length_cons] at this; omega
    clear hs
    have hs0 : ((s.size : Int) == 0) = false := by rw [beq_eq_false_iff_ne]; omega
    obtain ⟨y0, hy0⟩ : ∃ y, y = (x0 :: L0).getD 0 0 := ⟨_, rfl⟩
    obtain ⟨y1, hy1⟩ : ∃ y, y = (x0 :: L0).getD 1 0 := ⟨_, rfl⟩
    obtain ⟨y2, hy2⟩ : ∃ y, y = (x0 :: L0).getD 2 0 := ⟨_, rfl⟩
    obtain ⟨y3, hy3⟩ : ∃ y, y = (x0 :: L0).getD 3 0 := ⟨_, rfl⟩
    have Y0 := hide hy0
    have Y1 := hide hy1
    have Y2 := hide hy2
    have Y3 := hide hy3
    clear hy0 hy1 hy2 hy3
    go_enter Tryd.func7, Tryd.ntmps7
    go_wp2_with fail
    go_loopw [6, 7] (fun n i wr => ∃ (k q : Nat) (x : Int) (r : List Int), n = .int .i64 k ∧ i = .int .i64 q ∧ Hid ((x0 :: L0).drop k = x :: r) ∧ Hid (At s q (J (x :: r))) ∧ Hid (q + (J (x :: r)).length = s.size) ∧ k < 4 ∧ Hid (Outs wr (w.heap.size + 1) (x0 :: L0) k) ∧ Hid (Room wr w.heap.size 4) ∧ Hid (Below w.heap.size w wr)) (fun n _ _ => 4 - (intOf n).toNat)
    case atStart =>
      refine ⟨0, 0, x0, L0, rfl, rfl, rfl, HAt, ?_, by omega, ?_, ?_, ((Below.refl _ _).alloc (Nat.le_refl _) _).alloc (by simp) _⟩
      · show _ = _
        rw [Nat.zero_add]; exact HSz.out.symm
      · intro j hj
        match j, hj with
        | 0, _ => simp
        | 1, _ => simp
        | 2, _ => simp
        | 3, _ => simp
      · intro j hj
        match j, hj with
        | 0, _ => simp
        | 1, _ => simp
        | 2, _ => simp
        | 3, _ => simp
    case round =>
      obtain ⟨k, q, x, r, rfl, rfl, HDr, HA, HZ, hk, HO, HRm, HB⟩ := hrel
      clear HAt HSz
      have hx : InR x := hR x (List.mem_of_mem_drop (by rw [HDr.out]; exact List.mem_cons_self))
      by_cases hneg : x < 0
      · obtain ⟨U, rfl⟩ : ∃ U : Nat, x = -(U : Int) := ⟨x.natAbs, by omega⟩
        have HI : Lib.itoa (-(U : Int)) = 45 :: Lib.decDigits U := Lib.itoa_neg U (by omega)
        obtain ⟨b0, c0⟩ : ∃ h : q < s.size, s[q] = 45 := by
          have h := HA.out
          rw [J_split, HI] at h
          exact h 0 45 rfl
        have HD : Hid (At s (q + 1) (Lib.decDigits U)) := by
          have h := HA.out
          rw [J_split, HI] at h
          exact (At.right (l := [45]) h.left)
        have HE : Hid (q + 1 + Lib.nDigits U + (T r).length = s.size) := by
          have h := HZ.out
          rw [J_split, HI] at h
          simp [Lib.decDigits_length] at h
          show _ = _
          omega
        have HTl : Hid (At s (q + 1 + Lib.nDigits U) (T r)) := by
          have h := HA.out
          rw [J_split, HI] at h
          have h2 := h.right
          simp only [List.length_cons, Lib.decDigits_length] at h2
          rw [show q + (Lib.nDigits U + 1) = q + 1 + Lib.nDigits U by omega] at h2
          exact h2
        have hU1 : 1 ≤ U := by omega
        have hUm : U ≤ 9223372036854775808 := by have := hx.1; omega
        obtain ⟨nd, hnd⟩ : ∃ nd, nd = Lib.nDigits U := ⟨_, rfl⟩
        rw [← hnd] at HE HTl
        have hnd1 : 1 ≤ nd := by rw [hnd]; exact Lib.nDigits_pos U
        have HN := hide hnd
        clear hnd HI HA HZ
        have b0' : (q : Int) < (s.size : Int) := by omega
        go_wp2_with fail
        go_loop [10, 7] (fun u i => ∃ (v m j : Nat), u = .int .u64 v ∧ i = .int .i64 m ∧ j ≤ nd ∧ Hid (m = q + 1 + j) ∧ Hid (v = U / 10 ^ (nd - j))) (fun _ i => s.size - (intOf i).toNat)
        case atStart => exact ⟨0, q + 1, 0, rfl, by go_num, Nat.zero_le _, rfl, by show _ = _; rw [Nat.sub_zero, HN.out, Nat.div_eq_of_lt (Lib.lt_pow_nDigits U)]⟩
        case round =>
          obtain ⟨v, m, j, rfl, rfl, hj, HM, HV⟩ := hrel
          by_cases hlt : j < nd
          · obtain ⟨bj, cj⟩ := dec_at HD.out j (by rw [← HN.out]; exact hlt)
            rw [← HN.out] at cj
            obtain ⟨y, hy⟩ : ∃ y, y = Lib.dg U (nd - 1 - j) := ⟨_, rfl⟩
            rw [← hy] at cj
            have hyv : y.toNat = 48 + U / 10 ^ (nd - 1 - j) % 10 := by rw [hy]; exact dg_val _ _
            obtain ⟨v', hv'⟩ : ∃ v', v' = U / 10 ^ (nd - 1 - j) := ⟨_, rfl⟩
            have hst : v' = v * 10 + (y.toNat - 48) := by
              rw [hyv, hv', HV.out, show nd - j = (nd - 1 - j) + 1 by omega]
              have := div_step U (nd - 1 - j)
              omega
            have hvU : v' ≤ U := by rw [hv']; exact div_le _ _
            have y1 : (48 : Int) ≤ (y.toNat : Int) := by omega
            have y2 : (y.toNat : Int) ≤ 57 := by omega
            have HV' := hide hv'
            clear hv' hyv hy
            obtain ⟨bm, cm⟩ : ∃ h : m < s.size, s[m] = y := by
              have e := HM.out
              subst e
              exact ⟨bj, cj⟩
            clear bj cj
            have bm' : (m : Int) < (s.size : Int) := by omega
            have o1 : (v : Int) * 10 + ((y.toNat : Int) - 48) ≤ 18446744073709551615 := by omega
            have o2 : (v : Int) * 10 ≤ 18446744073709551615 := by omega
            go_wp2
            go_round
            case rel =>
              exact ⟨v', m + 1, j + 1, by rw [hst]; go_num, by go_num, by omega, by have := HM.out; show _ = _; omega, by show _ = _; rw [HV'.out, show nd - (j + 1) = nd - 1 - j by omega]⟩
            case measure => simp [intOf]; omega
          · obtain rfl : nd = j := by omega
            obtain rfl : U = v := by have h := HV.out; simp at h; exact h.symm
            have hm := HM.out
            have s1 : ((m : Int) == ((q : Int) + 1)) = false := by rw [beq_eq_false_iff_ne]; omega
            obtain ⟨b1, c1⟩ := dec_at HD.out 0 (by rw [← HN.out]; omega)
            simp only [Nat.add_zero] at b1 c1
            rw [← HN.out, Nat.sub_zero] at c1
            have hz0 : 1 < nd → (Lib.dg U (nd - 1)).toNat ≠ 48 := fun h => by
              rw [dg_val]
              have := first_ne U (by rw [← HN.out]; exact h)
              rw [← HN.out] at this
              omega
            obtain ⟨z1, hz1⟩ : ∃ z, z = Lib.dg U (nd - 1) := ⟨_, rfl⟩
            rw [← hz1] at c1 hz0
            have b1' : ((q : Int) + 1) < (s.size : Int) := by omega
            obtain ⟨⟨r0, f0⟩⟩ : True ∧ True := ⟨trivial, trivial⟩
            obtain ⟨rk, fk⟩ := HO.out k hk
            have HE' := HE.out
            clear hz1 HD HV
            have s4 : ((U : Int) == 0) = false := by rw [beq_eq_false_iff_ne]; omega
            by_cases hmin : U = 9223372036854775808
            · subst hmin
              have hw1 : wrap64 9223372036854775808 = -9223372036854775808 := by kernel_rfl
              by_cases hn1 : nd = 1
              · have s2 : ¬ 1 < (m : Int) - ((q : Int) + 1) := by omega
                have HO' : Hid (Outs (wr.setCell ⟨w.heap.size + 1, k, none⟩ (.int .i64 (-9223372036854775808))) (w.heap.size + 1) (x0 :: L0) (k + 1)) := outs_step HO.out HDr.out
                have HB' : Hid (Below w.heap.size w (wr.setCell ⟨w.heap.size + 1, k, none⟩ (.int .i64 (-9223372036854775808)))) := HB.out.setCell (by simp) _
                have HRm' := hide (HRm.out.setCell ⟨w.heap.size + 1, k, none⟩ (.int .i64 (-9223372036854775808)))
                cases r with
                | nil =>
                  have hme : m = s.size := by simp [T] at HE'; omega
                  have m1 : ¬ (m : Int) < (s.size : Int) := by omega
                  have m2 : ((m : Int) == (s.size : Int)) = true := by rw [beq_iff_eq]; omega
                  have m3 : m ≤ 100 := by omega
                  have hlen : k + 1 = (x0 :: L0).length := drop_one HDr.out
                  have HLen := hide hlen
                  have d0 := outs_at HO'.out hlen 0 (by omega)
                  rw [← Y0.out] at d0
                  obtain ⟨⟨w0, g0⟩, t0⟩ := HRm'.out 0 (by omega)
                  have d1 := outs_at HO'.out hlen 1 (by omega)
                  rw [← Y1.out] at d1
                  obtain ⟨⟨w1, g1⟩, t1⟩ := HRm'.out 1 (by omega)
                  have d2 := outs_at HO'.out hlen 2 (by omega)
                  rw [← Y2.out] at d2
                  obtain ⟨⟨w2, g2⟩, t2⟩ := HRm'.out 2 (by omega)
                  have d3 := outs_at HO'.out hlen 3 (by omega)
                  rw [← Y3.out] at d3
                  obtain ⟨⟨w3, g3⟩, t3⟩ := HRm'.out 3 (by omega)
                  obtain ⟨p0, p1, p2, p3⟩ := put4 HRm'.out (.int .i64 y0) (.int .i64 y1) (.int .i64 y2) (.int .i64 y3)
                  have HB2 := hide (below4 HB'.out (.int .i64 y0) (.int .i64 y1) (.int .i64 y2) (.int .i64 y3))
                  clear hme hlen hm hn1 HE' hz0
                  go_wp2
                  exact bodyPost_ret (v := .tuple #[.agg #[.int .i64 y0, .int .i64 y1, .int .i64 y2, .int .i64 y3], .int .i64 ((k : Int) + 1), .bool true]) (by simp [results, Tryd.results7, go_sem, p0, p1, p2, p3]) rfl
                    ⟨by rw [← HLen.out, Y0.out, Y1.out, Y2.out, Y3.out]; rfl, HB2.out⟩
                | cons x1 r1 =>
                  obtain ⟨bm, cm⟩ : ∃ h : m < s.size, s[m] = 58 := by
                    obtain ⟨h1, h2⟩ := HTl.out 0 58 rfl
                    subst hm
                    exact ⟨h1, h2⟩
                  have m1 : (m : Int) < (s.size : Int) := by omega
                  have m2 : ((m : Int) == (s.size : Int)) = false := by rw [beq_eq_false_iff_ne]; omega
                  have Hm := hide hm
                  have HE2 := hide HE'
                  clear hm hn1 HE' hz0
                  go_wp2
                  go_roundw
                  case rel =>
                    exact ⟨k + 1, m + 1, x1, r1, by go_num, by go_num, drop_next HDr.out, by have h := At.right (l := [58]) HTl.out; have e := Hm.out; rw [← e] at h; exact h, by show _ = _; have h := HE2.out; have e := Hm.out; simp only [T, List.length_cons] at h; omega, drop_lt hL (drop_next HDr.out), HO'.out, HRm'.out, HB'.out⟩
                  case measure => simp [intOf]; omega
              · have s2 : 1 < (m : Int) - ((q : Int) + 1) := by omega
                have s3 : ((z1.toNat : Int) == 48) = false := by rw [beq_eq_false_iff_ne]; have := hz0 (by omega); omega
                have HO' : Hid (Outs (wr.setCell ⟨w.heap.size + 1, k, none⟩ (.int .i64 (-9223372036854775808))) (w.heap.size + 1) (x0 :: L0) (k + 1)) := outs_step HO.out HDr.out
                have HB' : Hid (Below w.heap.size w (wr.setCell ⟨w.heap.size + 1, k, none⟩ (.int .i64 (-9223372036854775808)))) := HB.out.setCell (by simp) _
                have HRm' := hide (HRm.out.setCell ⟨w.heap.size + 1, k, none⟩ (.int .i64 (-9223372036854775808)))
                cases r with
                | nil =>
                  have hme : m = s.size := by simp [T] at HE'; omega
                  have m1 : ¬ (m : Int) < (s.size : Int) := by omega
                  have m2 : ((m : Int) == (s.size : Int)) = true := by rw [beq_iff_eq]; omega
                  have m3 : m ≤ 100 := by omega
                  have hlen : k + 1 = (x0 :: L0).length := drop_one HDr.out
                  have HLen := hide hlen
                  have d0 := outs_at HO'.out hlen 0 (by omega)
                  rw [← Y0.out] at d0
                  obtain ⟨⟨w0, g0⟩, t0⟩ := HRm'.out 0 (by omega)
                  have d1 := outs_at HO'.out hlen 1 (by omega)
                  rw [← Y1.out] at d1
                  obtain ⟨⟨w1, g1⟩, t1⟩ := HRm'.out 1 (by omega)
                  have d2 := outs_at HO'.out hlen 2 (by omega)
                  rw [← Y2.out] at d2
                  obtain ⟨⟨w2, g2⟩, t2⟩ := HRm'.out 2 (by omega)
                  have d3 := outs_at HO'.out hlen 3 (by omega)
                  rw [← Y3.out] at d3
                  obtain ⟨⟨w3, g3⟩, t3⟩ := HRm'.out 3 (by omega)
                  obtain ⟨p0, p1, p2, p3⟩ := put4 HRm'.out (.int .i64 y0) (.int .i64 y1) (.int .i64 y2) (.int .i64 y3)
                  have HB2 := hide (below4 HB'.out (.int .i64 y0) (.int .i64 y1) (.int .i64 y2) (.int .i64 y3))
                  clear hme hlen hm hn1 HE' hz0
                  go_wp2
                  exact bodyPost_ret (v := .tuple #[.agg #[.int .i64 y0, .int .i64 y1, .int .i64 y2, .int .i64 y3], .int .i64 ((k : Int) + 1), .bool true]) (by simp [results, Tryd.results7, go_sem, p0, p1, p2, p3]) rfl
                    ⟨by rw [← HLen.out, Y0.out, Y1.out, Y2.out, Y3.out]; rfl, HB2.out⟩
                | cons x1 r1 =>
                  obtain ⟨bm, cm⟩ : ∃ h : m < s.size, s[m] = 58 := by
                    obtain ⟨h1, h2⟩ := HTl.out 0 58 rfl
                    subst hm
                    exact ⟨h1, h2⟩
                  have m1 : (m : Int) < (s.size : Int) := by omega
                  have m2 : ((m : Int) == (s.size : Int)) = false := by rw [beq_eq_false_iff_ne]; omega
                  have Hm := hide hm
                  have HE2 := hide HE'
                  clear hm hn1 HE' hz0
                  go_wp2
                  go_roundw
                  case rel =>
                    exact ⟨k + 1, m + 1, x1, r1, by go_num, by go_num, drop_next HDr.out, by have h := At.right (l := [58]) HTl.out; have e := Hm.out; rw [← e] at h; exact h, by show _ = _; have h := HE2.out; have e := Hm.out; simp only [T, List.length_cons] at h; omega, drop_lt hL (drop_next HDr.out), HO'.out, HRm'.out, HB'.out⟩
                  case measure => simp [intOf]; omega
            · have u1 : (U : Int) ≤ 9223372036854775807 := by omega
              by_cases hn1 : nd = 1
              · have s2 : ¬ 1 < (m : Int) - ((q : Int) + 1) := by omega
                have HO' : Hid (Outs (wr.setCell ⟨w.heap.size + 1, k, none⟩ (.int .i64 (-(U : Int)))) (w.heap.size + 1) (x0 :: L0) (k + 1)) := outs_step HO.out HDr.out
                have HB' : Hid (Below w.heap.size w (wr.setCell ⟨w.heap.size + 1, k, none⟩ (.int .i64 (-(U : Int))))) := HB.out.setCell (by simp) _
                have HRm' := hide (HRm.out.setCell ⟨w.heap.size + 1, k, none⟩ (.int .i64 (-(U : Int))))
                cases r with
                | nil =>
                  have hme : m = s.size := by simp [T] at HE'; omega
                  have m1 : ¬ (m : Int) < (s.size : Int) := by omega
                  have m2 : ((m : Int) == (s.size : Int)) = true := by rw [beq_iff_eq]; omega
                  have m3 : m ≤ 100 := by omega
                  have hlen : k + 1 = (x0 :: L0).length := drop_one HDr.out
                  have HLen := hide hlen
                  have d0 := outs_at HO'.out hlen 0 (by omega)
                  rw [← Y0.out] at d0
                  obtain ⟨⟨w0, g0⟩, t0⟩ := HRm'.out 0 (by omega)
                  have d1 := outs_at HO'.out hlen 1 (by omega)
                  rw [← Y1.out] at d1
                  obtain ⟨⟨w1, g1⟩, t1⟩ := HRm'.out 1 (by omega)
                  have d2 := outs_at HO'.out hlen 2 (by omega)
                  rw [← Y2.out] at d2
                  obtain ⟨⟨w2, g2⟩, t2⟩ := HRm'.out 2 (by omega)
                  have d3 := outs_at HO'.out hlen 3 (by omega)
                  rw [← Y3.out] at d3
                  obtain ⟨⟨w3, g3⟩, t3⟩ := HRm'.out 3 (by omega)
                  obtain ⟨p0, p1, p2, p3⟩ := put4 HRm'.out (.int .i64 y0) (.int .i64 y1) (.int .i64 y2) (.int .i64 y3)
                  have HB2 := hide (below4 HB'.out (.int .i64 y0) (.int .i64 y1) (.int .i64 y2) (.int .i64 y3))
                  clear hme hlen hm hn1 HE' hz0
                  go_wp2
                  exact bodyPost_ret (v := .tuple #[.agg #[.int .i64 y0, .int .i64 y1, .int .i64 y2, .int .i64 y3], .int .i64 ((k : Int) + 1), .bool true]) (by simp [results, Tryd.results7, go_sem, p0, p1, p2, p3]) rfl
                    ⟨by rw [← HLen.out, Y0.out, Y1.out, Y2.out, Y3.out]; rfl, HB2.out⟩
                | cons x1 r1 =>
                  obtain ⟨bm, cm⟩ : ∃ h : m < s.size, s[m] = 58 := by
                    obtain ⟨h1, h2⟩ := HTl.out 0 58 rfl
                    subst hm
                    exact ⟨h1, h2⟩
                  have m1 : (m : Int) < (s.size : Int) := by omega
                  have m2 : ((m : Int) == (s.size : Int)) = false := by rw [beq_eq_false_iff_ne]; omega
                  have Hm := hide hm
                  have HE2 := hide HE'
                  clear hm hn1 HE' hz0
                  go_wp2
                  go_roundw
                  case rel =>
                    exact ⟨k + 1, m + 1, x1, r1, by go_num, by go_num, drop_next HDr.out, by have h := At.right (l := [58]) HTl.out; have e := Hm.out; rw [← e] at h; exact h, by show _ = _; have h := HE2.out; have e := Hm.out; simp only [T, List.length_cons] at h; omega, drop_lt hL (drop_next HDr.out), HO'.out, HRm'.out, HB'.out⟩
                  case measure => simp [intOf]; omega
              · have s2 : 1 < (m : Int) - ((q : Int) + 1) := by omega
                have s3 : ((z1.toNat : Int) == 48) = false := by rw [beq_eq_false_iff_ne]; have := hz0 (by omega); omega
                have HO' : Hid (Outs (wr.setCell ⟨w.heap.size + 1, k, none⟩ (.int .i64 (-(U : Int)))) (w.heap.size + 1) (x0 :: L0) (k + 1)) := outs_step HO.out HDr.out
                have HB' : Hid (Below w.heap.size w (wr.setCell ⟨w.heap.size + 1, k, none⟩ (.int .i64 (-(U : Int))))) := HB.out.setCell (by simp) _
                have HRm' := hide (HRm.out.setCell ⟨w.heap.size + 1, k, none⟩ (.int .i64 (-(U : Int))))
                cases r with
                | nil =>
                  have hme : m = s.size := by simp [T] at HE'; omega
                  have m1 : ¬ (m : Int) < (s.size : Int) := by omega
                  have m2 : ((m : Int) == (s.size : Int)) = true := by rw [beq_iff_eq]; omega
                  have m3 : m ≤ 100 := by omega
                  have hlen : k + 1 = (x0 :: L0).length := drop_one HDr.out
                  have HLen := hide hlen
                  have d0 := outs_at HO'.out hlen 0 (by omega)
                  rw [← Y0.out] at d0
                  obtain ⟨⟨w0, g0⟩, t0⟩ := HRm'.out 0 (by omega)
                  have d1 := outs_at HO'.out hlen 1 (by omega)
                  rw [← Y1.out] at d1
                  obtain ⟨⟨w1, g1⟩, t1⟩ := HRm'.out 1 (by omega)
                  have d2 := outs_at HO'.out hlen 2 (by omega)
                  rw [← Y2.out] at d2
                  obtain ⟨⟨w2, g2⟩, t2⟩ := HRm'.out 2 (by omega)
                  have d3 := outs_at HO'.out hlen 3 (by omega)
                  rw [← Y3.out] at d3
                  obtain ⟨⟨w3, g3⟩, t3⟩ := HRm'.out 3 (by omega)
                  obtain ⟨p0, p1, p2, p3⟩ := put4 HRm'.out (.int .i64 y0) (.int .i64 y1) (.int .i64 y2) (.int .i64 y3)
                  have HB2 := hide (below4 HB'.out (.int .i64 y0) (.int .i64 y1) (.int .i64 y2) (.int .i64 y3))
                  clear hme hlen hm hn1 HE' hz0
                  go_wp2
                  exact bodyPost_ret (v := .tuple #[.agg #[.int .i64 y0, .int .i64 y1, .int .i64 y2, .int .i64 y3], .int .i64 ((k : Int) + 1), .bool true]) (by simp [results, Tryd.results7, go_sem, p0, p1, p2, p3]) rfl
                    ⟨by rw [← HLen.out, Y0.out, Y1.out, Y2.out, Y3.out]; rfl, HB2.out⟩
                | cons x1 r1 =>
                  obtain ⟨bm, cm⟩ : ∃ h : m < s.size, s[m] = 58 := by
                    obtain ⟨h1, h2⟩ := HTl.out 0 58 rfl
                    subst hm
                    exact ⟨h1, h2⟩
                  have m1 : (m : Int) < (s.size : Int) := by omega
                  have m2 : ((m : Int) == (s.size : Int)) = false := by rw [beq_eq_false_iff_ne]; omega
                  have Hm := hide hm
                  have HE2 := hide HE'
                  clear hm hn1 HE' hz0
                  go_wp2
                  go_roundw
                  case rel =>
                    exact ⟨k + 1, m + 1, x1, r1, by go_num, by go_num, drop_next HDr.out, by have h := At.right (l := [58]) HTl.out; have e := Hm.out; rw [← e] at h; exact h, by show _ = _; have h := HE2.out; have e := Hm.out; simp only [T, List.length_cons] at h; omega, drop_lt hL (drop_next HDr.out), HO'.out, HRm'.out, HB'.out⟩
                  case measure => simp [intOf]; omega
      · obtain ⟨U, rfl⟩ : ∃ U : Nat, x = (U : Int) := ⟨x.natAbs, by omega⟩
        have HI : Lib.itoa (U : Int) = Lib.decDigits U := Lib.itoa_nonneg U
        have HD : Hid (At s q (Lib.decDigits U)) := by
          have h := HA.out
          rw [J_split, HI] at h
          exact h.left
        have HE : Hid (q + Lib.nDigits U + (T r).length = s.size) := by
          have h := HZ.out
          rw [J_split, HI] at h
          simp [Lib.decDigits_length] at h
          show _ = _
          omega
        have HTl : Hid (At s (q + Lib.nDigits U) (T r)) := by
          have h := HA.out
          rw [J_split, HI] at h
          have h2 := h.right
          rw [Lib.decDigits_length] at h2
          exact h2
        obtain ⟨b0, c0⟩ := dec_at HD.out 0 (Lib.nDigits_pos U)
        have hq0 : (Lib.dg U (Lib.nDigits U - 1 - 0)).toNat ≠ 45 := by rw [dg_val]; omega
        obtain ⟨z, hz⟩ : ∃ z, z = Lib.dg U (Lib.nDigits U - 1 - 0) := ⟨_, rfl⟩
        rw [← hz] at c0 hq0
        simp only [Nat.add_zero] at b0 c0
        have hz45 : ((z.toNat : Int) == 45) = false := by rw [beq_eq_false_iff_ne]; omega
        clear hz
        have hUm : U ≤ 9223372036854775807 := by have := hx.2; omega
        obtain ⟨nd, hnd⟩ : ∃ nd, nd = Lib.nDigits U := ⟨_, rfl⟩
        rw [← hnd] at HE HTl
        have hnd1 : 1 ≤ nd := by rw [hnd]; exact Lib.nDigits_pos U
        have HN := hide hnd
        clear hnd HI HA HZ
        have b0' : (q : Int) < (s.size : Int) := by omega
        go_wp2_with fail
        go_loop [10, 7] (fun u i => ∃ (v m j : Nat), u = .int .u64 v ∧ i = .int .i64 m ∧ j ≤ nd ∧ Hid (m = q + j) ∧ Hid (v = U / 10 ^ (nd - j))) (fun _ i => s.size - (intOf i).toNat)
        case atStart => exact ⟨0, q, 0, rfl, by rfl, Nat.zero_le _, rfl, by show _ = _; rw [Nat.sub_zero, HN.out, Nat.div_eq_of_lt (Lib.lt_pow_nDigits U)]⟩
        case round =>
          obtain ⟨v, m, j, rfl, rfl, hj, HM, HV⟩ := hrel
          by_cases hlt : j < nd
          · obtain ⟨bj, cj⟩ := dec_at HD.out j (by rw [← HN.out]; exact hlt)
            rw [← HN.out] at cj
            obtain ⟨y, hy⟩ : ∃ y, y = Lib.dg U (nd - 1 - j) := ⟨_, rfl⟩
            rw [← hy] at cj
            have hyv : y.toNat = 48 + U / 10 ^ (nd - 1 - j) % 10 := by rw [hy]; exact dg_val _ _
            obtain ⟨v', hv'⟩ : ∃ v', v' = U / 10 ^ (nd - 1 - j) := ⟨_, rfl⟩
            have hst : v' = v * 10 + (y.toNat - 48) := by
              rw [hyv, hv', HV.out, show nd - j = (nd - 1 - j) + 1 by omega]
              have := div_step U (nd - 1 - j)
              omega
            have hvU : v' ≤ U := by rw [hv']; exact div_le _ _
            have y1 : (48 : Int) ≤ (y.toNat : Int) := by omega
            have y2 : (y.toNat : Int) ≤ 57 := by omega
            have HV' := hide hv'
            clear hv' hyv hy
            obtain ⟨bm, cm⟩ : ∃ h : m < s.size, s[m] = y := by
              have e := HM.out
              subst e
              exact ⟨bj, cj⟩
            clear bj cj
            have bm' : (m : Int) < (s.size : Int) := by omega
            have o1 : (v : Int) * 10 + ((y.toNat : Int) - 48) ≤ 18446744073709551615 := by omega
            have o2 : (v : Int) * 10 ≤ 18446744073709551615 := by omega
            go_wp2
            go_round
            case rel =>
              exact ⟨v', m + 1, j + 1, by rw [hst]; go_num, by go_num, by omega, by have := HM.out; show _ = _; omega, by show _ = _; rw [HV'.out, show nd - (j + 1) = nd - 1 - j by omega]⟩
            case measure => simp [intOf]; omega
          · obtain rfl : nd = j := by omega
            obtain rfl : U = v := by have h := HV.out; simp at h; exact h.symm
            have hm := HM.out
            have s1 : ((m : Int) == (q : Int)) = false := by rw [beq_eq_false_iff_ne]; omega
            obtain ⟨b1, c1⟩ := dec_at HD.out 0 (by rw [← HN.out]; omega)
            simp only [Nat.add_zero] at b1 c1
            rw [← HN.out, Nat.sub_zero] at c1
            have hz0 : 1 < nd → (Lib.dg U (nd - 1)).toNat ≠ 48 := fun h => by
              rw [dg_val]
              have := first_ne U (by rw [← HN.out]; exact h)
              rw [← HN.out] at this
              omega
            obtain ⟨z1, hz1⟩ : ∃ z, z = Lib.dg U (nd - 1) := ⟨_, rfl⟩
            rw [← hz1] at c1 hz0
            have b1' : (q : Int) < (s.size : Int) := by omega
            obtain ⟨⟨r0, f0⟩⟩ : True ∧ True := ⟨trivial, trivial⟩
            obtain ⟨rk, fk⟩ := HO.out k hk
            have HE' := HE.out
            clear hz1 HD HV
            obtain rfl : z = z1 := c0.symm.trans c1
            clear c1 b1
            have u1 : (U : Int) ≤ 9223372036854775807 := by omega
            by_cases hn1 : nd = 1
            · have s2 : ¬ 1 < (m : Int) - (q : Int) := by omega
              have HO' : Hid (Outs (wr.setCell ⟨w.heap.size + 1, k, none⟩ (.int .i64 (U : Int))) (w.heap.size + 1) (x0 :: L0) (k + 1)) := outs_step HO.out HDr.out
              have HB' : Hid (Below w.heap.size w (wr.setCell ⟨w.heap.size + 1, k, none⟩ (.int .i64 (U : Int)))) := HB.out.setCell (by simp) _
              have HRm' := hide (HRm.out.setCell ⟨w.heap.size + 1, k, none⟩ (.int .i64 (U : Int)))
              cases r with
              | nil =>
                have hme : m = s.size := by simp [T] at HE'; omega
                have m1 : ¬ (m : Int) < (s.size : Int) := by omega
                have m2 : ((m : Int) == (s.size : Int)) = true := by rw [beq_iff_eq]; omega
                have m3 : m ≤ 100 := by omega
                have hlen : k + 1 = (x0 :: L0).length := drop_one HDr.out
                have HLen := hide hlen
                have d0 := outs_at HO'.out hlen 0 (by omega)
                rw [← Y0.out] at d0
                obtain ⟨⟨w0, g0⟩, t0⟩ := HRm'.out 0 (by omega)
                have d1 := outs_at HO'.out hlen 1 (by omega)
                rw [← Y1.out] at d1
                obtain ⟨⟨w1, g1⟩, t1⟩ := HRm'.out 1 (by omega)
                have d2 := outs_at HO'.out hlen 2 (by omega)
                rw [← Y2.out] at d2
                obtain ⟨⟨w2, g2⟩, t2⟩ := HRm'.out 2 (by omega)
                have d3 := outs_at HO'.out hlen 3 (by omega)
                rw [← Y3.out] at d3
                obtain ⟨⟨w3, g3⟩, t3⟩ := HRm'.out 3 (by omega)
                obtain ⟨p0, p1, p2, p3⟩ := put4 HRm'.out (.int .i64 y0) (.int .i64 y1) (.int .i64 y2) (.int .i64 y3)
                have HB2 := hide (below4 HB'.out (.int .i64 y0) (.int .i64 y1) (.int .i64 y2) (.int .i64 y3))
                clear hme hlen hm hn1 HE' hz0
                go_wp2
                exact bodyPost_ret (v := .tuple #[.agg #[.int .i64 y0, .int .i64 y1, .int .i64 y2, .int .i64 y3], .int .i64 ((k : Int) + 1), .bool true]) (by simp [results, Tryd.results7, go_sem, p0, p1, p2, p3]) rfl
                  ⟨by rw [← HLen.out, Y0.out, Y1.out, Y2.out, Y3.out]; rfl, HB2.out⟩
              | cons x1 r1 =>
                obtain ⟨bm, cm⟩ : ∃ h : m < s.size, s[m] = 58 := by
                  obtain ⟨h1, h2⟩ := HTl.out 0 58 rfl
                  subst hm
                  exact ⟨h1, h2⟩
                have m1 : (m : Int) < (s.size : Int) := by omega
                have m2 : ((m : Int) == (s.size : Int)) = false := by rw [beq_eq_false_iff_ne]; omega
                have Hm := hide hm
                have HE2 := hide HE'
                clear hm hn1 HE' hz0
                go_wp2
                go_roundw
                case rel =>
                  exact ⟨k + 1, m + 1, x1, r1, by go_num, by go_num, drop_next HDr.out, by have h := At.right (l := [58]) HTl.out; have e := Hm.out; rw [← e] at h; exact h, by show _ = _; have h := HE2.out; have e := Hm.out; simp only [T, List.length_cons] at h; omega, drop_lt hL (drop_next HDr.out), HO'.out, HRm'.out, HB'.out⟩
                case measure => simp [intOf]; omega
            · have s2 : 1 < (m : Int) - (q : Int) := by omega
              have s3 : ((z.toNat : Int) == 48) = false := by rw [beq_eq_false_iff_ne]; have := hz0 (by omega); omega
              have HO' : Hid (Outs (wr.setCell ⟨w.heap.size + 1, k, none⟩ (.int .i64 (U : Int))) (w.heap.size + 1) (x0 :: L0) (k + 1)) := outs_step HO.out HDr.out
              have HB' : Hid (Below w.heap.size w (wr.setCell ⟨w.heap.size + 1, k, none⟩ (.int .i64 (U : Int)))) := HB.out.setCell (by simp) _
              have HRm' := hide (HRm.out.setCell ⟨w.heap.size + 1, k, none⟩ (.int .i64 (U : Int)))
              cases r with
              | nil =>
                have hme : m = s.size := by simp [T] at HE'; omega
                have m1 : ¬ (m : Int) < (s.size : Int) := by omega
                have m2 : ((m : Int) == (s.size : Int)) = true := by rw [beq_iff_eq]; omega
                have m3 : m ≤ 100 := by omega
                have hlen : k + 1 = (x0 :: L0).length := drop_one HDr.out
                have HLen := hide hlen
                have d0 := outs_at HO'.out hlen 0 (by omega)
                rw [← Y0.out] at d0
                obtain ⟨⟨w0, g0⟩, t0⟩ := HRm'.out 0 (by omega)
                have d1 := outs_at HO'.out hlen 1 (by omega)
                rw [← Y1.out] at d1
                obtain ⟨⟨w1, g1⟩, t1⟩ := HRm'.out 1 (by omega)
                have d2 := outs_at HO'.out hlen 2 (by omega)
                rw [← Y2.out] at d2
                obtain ⟨⟨w2, g2⟩, t2⟩ := HRm'.out 2 (by omega)
                have d3 := outs_at HO'.out hlen 3 (by omega)
                rw [← Y3.out] at d3
                obtain ⟨⟨w3, g3⟩, t3⟩ := HRm'.out 3 (by omega)
                obtain ⟨p0, p1, p2, p3⟩ := put4 HRm'.out (.int .i64 y0) (.int .i64 y1) (.int .i64 y2) (.int .i64 y3)
                have HB2 := hide (below4 HB'.out (.int .i64 y0) (.int .i64 y1) (.int .i64 y2) (.int .i64 y3))
                clear hme hlen hm hn1 HE' hz0
                go_wp2
                exact bodyPost_ret (v := .tuple #[.agg #[.int .i64 y0, .int .i64 y1, .int .i64 y2, .int .i64 y3], .int .i64 ((k : Int) + 1), .bool true]) (by simp [results, Tryd.results7, go_sem, p0, p1, p2, p3]) rfl
                  ⟨by rw [← HLen.out, Y0.out, Y1.out, Y2.out, Y3.out]; rfl, HB2.out⟩
              | cons x1 r1 =>
                obtain ⟨bm, cm⟩ : ∃ h : m < s.size, s[m] = 58 := by
                  obtain ⟨h1, h2⟩ := HTl.out 0 58 rfl
                  subst hm
                  exact ⟨h1, h2⟩
                have m1 : (m : Int) < (s.size : Int) := by omega
                have m2 : ((m : Int) == (s.size : Int)) = false := by rw [beq_eq_false_iff_ne]; omega
                have Hm := hide hm
                have HE2 := hide HE'
                clear hm hn1 HE' hz0
                go_wp2
                go_roundw
                case rel =>
                  exact ⟨k + 1, m + 1, x1, r1, by go_num, by go_num, drop_next HDr.out, by have h := At.right (l := [58]) HTl.out; have e := Hm.out; rw [← e] at h; exact h, by show _ = _; have h := HE2.out; have e := Hm.out; simp only [T, List.length_cons] at h; omega, drop_lt hL (drop_next HDr.out), HO'.out, HRm'.out, HB'.out⟩
                case measure => simp [intOf]; omega
end Go.Proofs.Qxb6605953aDoor
