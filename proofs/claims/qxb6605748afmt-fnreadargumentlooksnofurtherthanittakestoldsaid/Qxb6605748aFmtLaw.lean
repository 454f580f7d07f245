/-
  THE WALK of the law (3).
-/
import Derived.Test.Qxb6605748aFmtCap
import Derived.Test.Qxb6605748aFmtGuards
namespace Go.Proofs.Qxb6605748aFmt
open Go.RowKit Go.Extern.Stop Go.Stop Go.Extern

/-- What the law leaves: true; nothing that was there has turned. -/
def LawBack (w : World) (e : Ending) (w' : World) : Prop := e = .returned (.bool true) ∧ Below w.heap.size w w'

set_option maxRecDepth 100000 in
set_option maxHeartbeats 8000000 in
theorem law_calls (F : Interp) (ak ao ap ae : Option Addr) (bk ok nk ck b off n c bp op np cp be oe ne ce : Nat) (nx : Int) (K P E : Nat → Int) (S : Nat → ByteArray) (w : World) (hF : F.answers w.tape)
    (hak : 0 < nk → ak = some ⟨bk, ok, none⟩) (hao : 0 < n → ao = some ⟨b, off, none⟩) (hap : 0 < np → ap = some ⟨bp, op, none⟩) (hae : 0 < ne → ae = some ⟨be, oe, none⟩)
    (hK : Ints w bk ok nk K) (hS : Strs w b off n S) (hP : Ints w bp op np P) (hE : Ints w be oe ne E) (hs : ∀ j, j < n → (S j).size ≤ maxLen)
    (mk : nk ≤ maxLen) (mn : n ≤ maxLen) (mp : np ≤ maxLen) (me : ne ≤ maxLen)
    (u0 u1 : TypeId) (x0 x1 : Value) (h0 : w.cell? ⟨0, 0, none⟩ = some (.iface u0 x0)) (h1 : w.cell? ⟨1, 0, none⟩ = some (.iface u1 x1)) :
    Calls Tryf.prog 3 #[.slice ak nk ck, .slice ao n c, .slice ap np cp, .slice ae ne ce, .int .i64 nx] w (LawBack w) := by
  have HF := hide hF
  have HK := hide hK
  have HS := hide hS
  have HP := hide hP
  have HE := hide hE
  have Hs := hide hs
  have H0 := hide h0
  have H1 := hide h1
  have Hak := hide hak
  have Hao := hide hao
  have Hap := hide hap
  have Hae := hide hae
  have Mk := hide mk
  have Mn := hide mn
  have Mp := hide mp
  have Me := hide me
  unfold maxLen at mk mn mp me
  clear hF hK hS hP hE hs h0 h1 hak hao hap hae
  obtain ⟨i3, hi3, hz30, hz31, hz32⟩ := info_parts info3
  obtain ⟨i9, hi9, hz90, hz91, hz92⟩ := info_parts info9
  go_enter Tryf.func3, Tryf.ntmps3
  go_wp2_with fail
  refine (bytes_calls ak ap ae nk ck np cp ne ce nx ao b off n c S _ Hao.out HS.out Hs.out Mn.out Mk.out Mp.out Me.out).mono ?_
  rintro e w' ⟨r, rfl, rfl, -⟩
  cases r with
  | false =>
    go_wp2
    go_ret
    exact ⟨rfl, Below.refl _ _⟩
  | true =>
    by_cases l1 : 65536 < nk
    · go_wp2
      go_ret
      exact ⟨rfl, Below.refl _ _⟩
    by_cases l2 : 65536 < n
    · go_wp2
      go_ret
      exact ⟨rfl, Below.refl _ _⟩
    by_cases l3 : 65536 < np
    · go_wp2
      go_ret
      exact ⟨rfl, Below.refl _ _⟩
    by_cases l4 : 65536 < ne
    · go_wp2
      go_ret
      exact ⟨rfl, Below.refl _ _⟩
    go_wp2_with fail
    refine (fit_calls ao b off n c S _ _ Hao.out (by omega) HS.out Hs.out (by omega) (by omega)).mono ?_
    rintro e w' ⟨r, rfl, rfl, hfit⟩
    cases r with
    | false =>
      clear hfit
      go_wp2
      go_ret
      exact ⟨rfl, Below.refl _ _⟩
    | true =>
      have hsz : Hid (∀ j, j < n → (S j).size ≤ 1048576) := fun j hj => by have := hfit rfl j hj; omega
      clear hfit
      go_wp2_with fail
      refine (reach_calls ak ao ap ae bk ok nk ck np cp ne ce b off n c nx K S _ Hak.out Hao.out HK.out HS.out Hs.out (by omega) (by omega) (by omega) (by omega)).mono ?_
      rintro e w' ⟨r, rfl, rfl, hreach⟩
      cases r with
      | false =>
        clear hreach
        go_wp2
        go_ret
        exact ⟨rfl, Below.refl _ _⟩
      | true =>
        obtain ⟨q1, q2, q3, q4, q5, q6, q7, q8⟩ := hreach rfl
        subst q2
        subst q3
        subst q4
        obtain ⟨k, rfl⟩ := Int.eq_ofNat_of_zero_le q6
        obtain rfl := Hak.out (by omega)
        obtain rfl := Hao.out (by omega)
        obtain rfl := Hap.out (by omega)
        obtain rfl := Hae.out (by omega)
        have hN : ne ≤ 65536 := by omega
        have lK := HK.out.lt q1
        have lS := HS.out.lt q1
        have lP := HP.out.lt q1
        have lE := HE.out.lt q1
        have l0 := World.block_lt_of_cell? _ _ H0.out
        have l1' := World.block_lt_of_cell? _ _ H1.out
        have FT : Hid (Fit (fun j => ⟨K j, S j, P j, E j⟩) ne) := ⟨fun j hj hz => by
            by_cases e : j = ne - 1
            · subst e; exact absurd q5 hz
            · omega, q8, fun j hj => hsz.out j hj⟩
        clear q5 q8 hsz Hak Hao Hap Hae Mk Mn Mp Me mk mn mp me l1 l2 l3 l4 Hs hreach
        go_wp2_with fail
        refine (cloneI_calls bk ok ne ck K _ q1 hN HK.out).mono ?_
        rintro e w1 ⟨rfl, hI1, hb1, hs1⟩
        have B1 := hide hb1
        have I1 := hide hI1
        have S1 := hide (HS.out.below hb1 lS)
        have P1 := hide (HP.out.below hb1 lP)
        have E1 := hide (HE.out.below hb1 lE)
        clear hb1 hI1 HK HS HP HE
        go_wp2_with fail
        refine (cloneS_calls b off ne c S _ q1 hN S1.out).mono ?_
        rintro e w2 ⟨rfl, hI2, hb2, hs2⟩
        have B2 := hide (B1.out.trans (hb2.mono (by omega)))
        have I2 := hide (I1.out.below hb2 hs1)
        have S2 := hide hI2
        have P2 := hide (P1.out.below hb2 (by omega))
        have E2 := hide (E1.out.below hb2 (by omega))
        clear hb2 hI2 B1 I1 S1 P1 E1
        go_wp2_with fail
        refine (cloneI_calls bp op ne cp P _ q1 hN P2.out).mono ?_
        rintro e w3 ⟨rfl, hI3, hb3, hs3⟩
        have B3 := hide (B2.out.trans (hb3.mono (by omega)))
        have I3 := hide (I2.out.below hb3 (by omega))
        have S3 := hide (S2.out.below hb3 hs2)
        have P3 := hide hI3
        have E3 := hide (E2.out.below hb3 (by omega))
        clear hb3 hI3 B2 I2 S2 P2 E2
        go_wp2_with fail
        refine (cloneI_calls be oe ne ce E _ q1 hN E3.out).mono ?_
        rintro e w4 ⟨rfl, hI4, hb4, hs4⟩
        have B4 := hide (B3.out.trans (hb4.mono (by omega)))
        have I4 := hide (I3.out.below hb4 (by omega))
        have S4 := hide (S3.out.below hb4 (by omega))
        have P4 := hide (P3.out.below hb4 hs3)
        have E4 := hide hI4
        clear hb4 hI4 B3 I3 S3 P3 E3
        go_wp2_with fail
        obtain ⟨r, hr⟩ : ∃ r, readArg (fun j => (⟨K j, S j, P j, E j⟩ : Tok)) ne k = r := ⟨_, rfl⟩
        refine (zz_calls F _ 0 ne _ 0 ne _ 0 ne _ 0 ne ne k K P E S w4 (by rw [B4.out.tape]; exact HF.out) I4.out S4.out P4.out E4.out (by omega) (by omega) FT.out u0 u1 x0 x1 ((B4.out.cell (p := ⟨0, 0, none⟩) l0).trans H0.out) ((B4.out.cell (p := ⟨1, 0, none⟩) l1').trans H1.out)).mono ?_
        rintro e w5 ⟨hm, hb5⟩
        rw [hr] at hm
        have HR := hide hr
        clear hr
        obtain ⟨o, e'⟩ := r
        have law := fun T' => arg_law (fun j => (⟨K j, S j, P j, E j⟩ : Tok)) T' ne k FT.out (by omega)
        rw [HR.out] at law
        obtain ⟨f1, f2, f3, -⟩ := law (fun j => ⟨K j, S j, P j, E j⟩)
        have LAW := hide law
        clear law
        simp only at f1 f2 f3
        obtain ⟨m, rfl⟩ : ∃ m, e' = k + m := ⟨e' - k, by omega⟩
        have B5 := hide (B4.out.trans (hb5.mono (by omega)))
        have I5 := hide (I4.out.below hb5 (by omega))
        have S5 := hide (S4.out.below hb5 (by omega))
        have P5 := hide (P4.out.below hb5 (by omega))
        have E5 := hide (E4.out.below hb5 (by omega))
        clear hb5 B4 I4 S4 P4 E4
        cases o with
        | none =>
          obtain ⟨p, rfl⟩ := hm
          go_wp2_with (first
            | (at_make; refine wpList_make_full _ rfl (.tmp 128) (.tmp 128) 22 rfl 0 3 i3 (.int .i64 0) 1 Tryf.underlying22 hi3 hz30 hz31 .i64 .i64 _ _ (m + 1) rfl rfl (by omega) (by omega) (by rw [hz32]; omega) (by unfold maxLen; omega) (Nat.zero_le _) ?_; intro w6 o6 g6)
            | (at_make; refine wpList_make_full _ rfl (.tmp 131) (.tmp 131) 23 rfl 0 9 i9 (.string ⟨#[]⟩) 1 Tryf.underlying23 hi9 hz90 hz91 .i64 .i64 _ _ (m + 1) rfl rfl (by omega) (by omega) (by rw [hz92]; omega) (by unfold maxLen; omega) (Nat.zero_le _) ?_; intro w7 o7 g7)
            | (at_make; refine wpList_make_full _ rfl (.tmp 134) (.tmp 134) 22 rfl 0 3 i3 (.int .i64 0) 1 Tryf.underlying22 hi3 hz30 hz31 .i64 .i64 _ _ (m + 1) rfl rfl (by omega) (by omega) (by rw [hz32]; omega) (by unfold maxLen; omega) (Nat.zero_le _) ?_; intro w8 o8 g8)
            | (at_make; refine wpList_make_full _ rfl (.tmp 137) (.tmp 137) 22 rfl 0 3 i3 (.int .i64 0) 1 Tryf.underlying22 hi3 hz30 hz31 .i64 .i64 _ _ (m + 1) rfl rfl (by omega) (by omega) (by rw [hz32]; omega) (by unfold maxLen; omega) (Nat.zero_le _) ?_; intro w9 o9 g9))
          have hkm : ((k : Int) + m - k) = m := by omega
          simp only [hkm]
          have lp := hide (Lp.start (k := k) (m := m) (K := K) (P := P) (E := E) (S := S) o6 g6 o7 g7 o8 g8 o9 g9)
          obtain ⟨gk, hgk⟩ : ∃ g, g = w5.heap.size := ⟨_, rfl⟩
          obtain ⟨gt, hgt⟩ : ∃ g, g = w6.heap.size := ⟨_, rfl⟩
          obtain ⟨gp, hgp⟩ : ∃ g, g = w7.heap.size := ⟨_, rfl⟩
          obtain ⟨ge, hge⟩ : ∃ g, g = w8.heap.size := ⟨_, rfl⟩
          rw [← hgt, ← hgp, ← hge] at lp ⊢
          have hl0 := lp.out.l0
          have hl1 := lp.out.l1
          have hl2 := lp.out.l2
          have hl3 := lp.out.l3
          rw [← hgk] at hl0 hl1
          clear o6 g6 o7 g7 o8 g8 o9 g9 hi3 hz30 hz31 hz32 hi9 hz90 hz91 hz92 hgt hgp hge
          have lk := I5.out.lt q1
          have ls := S5.out.lt q1
          have lpp := P5.out.lt q1
          have le := E5.out.lt q1
          rw [← hgk] at lp lk ls lpp le ⊢
          have Hgk := hide hgk
          clear hgk
          go_loopw [23] (fun i wr => ∃ j : Nat, j ≤ m ∧ i = .int .i64 j ∧ Hid (Lp w5 wr gk gt gp ge k m j K P E S ⟨#[]⟩)) (fun i _ => m - (intOf i).toNat)
          case atStart => exact ⟨0, Nat.zero_le _, rfl, lp⟩
          case round =>
            obtain ⟨j, hj, rfl, LP⟩ := hrel
            clear lp
            by_cases hlt : j < m
            · have jz : (0 : Int) ≤ (k : Int) + (j : Int) := by omega
              have jn : (k : Int) + (j : Int) < (ne : Int) := by omega
              have jm : (j : Int) < (m : Int) := by omega
              have jm' : (j : Int) < (m : Int) + 1 := by omega
              have cK : wr.cell? ⟨w'.heap.size, k + j, none⟩ = some (.int .i64 (K (k + j))) := by have := (I5.out.below LP.out.below (by have := Hgk.out; omega)) (k + j) (by omega); simpa using this
              have cS : wr.cell? ⟨w1.heap.size, k + j, none⟩ = some (.string (S (k + j))) := by have := (S5.out.below LP.out.below (by have := Hgk.out; omega)) (k + j) (by omega); simpa using this
              have cP : wr.cell? ⟨w2.heap.size, k + j, none⟩ = some (.int .i64 (P (k + j))) := by have := (P5.out.below LP.out.below (by have := Hgk.out; omega)) (k + j) (by omega); simpa using this
              have cE : wr.cell? ⟨w3.heap.size, k + j, none⟩ = some (.int .i64 (E (k + j))) := by have := (E5.out.below LP.out.below (by have := Hgk.out; omega)) (k + j) (by omega); simpa using this
              obtain ⟨⟨v0, r0⟩, fz0⟩ := LP.out.rk j (by omega)
              obtain ⟨⟨v1, r1⟩, fz1⟩ := LP.out.rt j (by omega)
              obtain ⟨⟨v2, r2⟩, fz2⟩ := LP.out.rp j (by omega)
              obtain ⟨⟨v3, r3⟩, fz3⟩ := LP.out.re j (by omega)
              have d1 : (wr.setCell ⟨gk, j, none⟩ (.int .i64 (K (k + j)))).cell? ⟨w1.heap.size, k + j, none⟩ = some (.string (S (k + j))) := by rw [far (by omega)]; exact cS
              have e1 : (wr.setCell ⟨gk, j, none⟩ (.int .i64 (K (k + j)))).cell? ⟨gt, j, none⟩ = some v1 := by rw [far (by omega)]; exact r1
              have d2 : ((wr.setCell ⟨gk, j, none⟩ (.int .i64 (K (k + j)))).setCell ⟨gt, j, none⟩ (.string (S (k + j)))).cell? ⟨w2.heap.size, k + j, none⟩ = some (.int .i64 (P (k + j))) := by rw [far (by omega), far (by omega)]; exact cP
              have e2 : ((wr.setCell ⟨gk, j, none⟩ (.int .i64 (K (k + j)))).setCell ⟨gt, j, none⟩ (.string (S (k + j)))).cell? ⟨gp, j, none⟩ = some v2 := by rw [far (by omega), far (by omega)]; exact r2
              have d3 : (((wr.setCell ⟨gk, j, none⟩ (.int .i64 (K (k + j)))).setCell ⟨gt, j, none⟩ (.string (S (k + j)))).setCell ⟨gp, j, none⟩ (.int .i64 (P (k + j)))).cell? ⟨w3.heap.size, k + j, none⟩ = some (.int .i64 (E (k + j))) := by rw [far (by omega), far (by omega), far (by omega)]; exact cE
              have e3 : (((wr.setCell ⟨gk, j, none⟩ (.int .i64 (K (k + j)))).setCell ⟨gt, j, none⟩ (.string (S (k + j)))).setCell ⟨gp, j, none⟩ (.int .i64 (P (k + j)))).cell? ⟨ge, j, none⟩ = some v3 := by rw [far (by omega), far (by omega), far (by omega)]; exact r3
              go_wp2
              go_roundw
              case rel => exact ⟨j + 1, by omega, by go_num, LP.out.step⟩
              case measure => simp [intOf]; omega
            · obtain rfl : j = m := by omega
              obtain ⟨⟨v0, r0⟩, fz0⟩ := LP.out.rk j (by omega)
              obtain ⟨⟨v1, r1⟩, fz1⟩ := LP.out.rt j (by omega)
              have e1 : (wr.setCell ⟨gk, j, none⟩ (.int .i64 0)).cell? ⟨gt, j, none⟩ = some v1 := by rw [far (by omega)]; exact r1
              have C := hide (LP.out.close endText)
              clear LP
              go_wp2_with fail
              refine (zz_calls F gk 0 (j + 1) gt 0 (j + 1) gp 0 (j + 1) ge 0 (j + 1) (j + 1) 0 (capI K k j) (capI P k j) (capI E k j) (capS S k j endText) _ (by rw [C.out.below.tape, B5.out.tape]; exact HF.out) C.out.k2 C.out.t2 C.out.p2 C.out.e2 (by omega) (by omega) (cap_fit FT.out f2) u0 u1 x0 x1
                ((C.out.below.cell (p := ⟨0, 0, none⟩) (by have := Hgk.out; show 0 < w5.heap.size; omega)).trans ((B5.out.cell (p := ⟨0, 0, none⟩) l0).trans H0.out)) ((C.out.below.cell (p := ⟨1, 0, none⟩) (by have := Hgk.out; show 1 < w5.heap.size; omega)).trans ((B5.out.cell (p := ⟨1, 0, none⟩) l1').trans H1.out))).mono ?_
              rintro e w10 ⟨hm2, hb10⟩
              have hrr := (LAW.out (fun i => ⟨capI K k j i, capS S k j endText i, capI P k j i, capI E k j i⟩)).2.2.2 (cap_capped K P E S k j)
              rw [Nat.add_sub_cancel_left] at hrr
              rw [hrr] at hm2
              have B10 : Hid (Below w'.heap.size w' w10) := B5.out.trans ((C.out.below.trans (hb10.mono (by have := C.out.below.size; simpa using this))).mono (by have := Hgk.out; omega))
              clear hrr hb10 C LAW HR
              obtain ⟨p', rfl⟩ := hm2
              go_wp2
              go_quiet (first
                | exact Calls.quiet_of (sameS_nil _)
                | exact Calls.quiet_of (sameI_nil _))
              go_wp2
              go_ret
              exact ⟨rfl, below_drewN' _ B10.out⟩
        | some a =>
          obtain ⟨rv, av, rfl, hSl, hIl⟩ := hm
          obtain ⟨h3a, h3b, h3c, h3d⟩ := f3 a rfl
          clear f3
          have LS : Hid (∀ L, a.roles = some L → L.length ≤ 65536) := fun L hL => Nat.le_trans (h3c L hL).1 hN
          have LI : Hid (∀ L, a.ats = some L → L.length ≤ 65536) := fun L hL => Nat.le_trans (h3d L hL).1 hN
          have HSl := hide hSl
          have HIl := hide hIl
          obtain ⟨aoR, nR, cR, hrv⟩ := hSl.form
          obtain ⟨aoA, nA, cA, hav⟩ := hIl.form
          subst hrv
          subst hav
          have qn : ((k : Int) + (m : Int) == (k : Int)) = false := by rw [beq_eq_false_iff_ne]; omega
          have qk : (a.kind.toList == ([] : List UInt8)) = false := kind_test h3b
          clear h3c h3d hSl hIl
          go_wp2_with (first
            | (at_make; refine wpList_make_full _ rfl (.tmp 128) (.tmp 128) 22 rfl 0 3 i3 (.int .i64 0) 1 Tryf.underlying22 hi3 hz30 hz31 .i64 .i64 _ _ (m + 1) rfl rfl (by omega) (by omega) (by rw [hz32]; omega) (by unfold maxLen; omega) (Nat.zero_le _) ?_; intro w6 o6 g6)
            | (at_make; refine wpList_make_full _ rfl (.tmp 131) (.tmp 131) 23 rfl 0 9 i9 (.string ⟨#[]⟩) 1 Tryf.underlying23 hi9 hz90 hz91 .i64 .i64 _ _ (m + 1) rfl rfl (by omega) (by omega) (by rw [hz92]; omega) (by unfold maxLen; omega) (Nat.zero_le _) ?_; intro w7 o7 g7)
            | (at_make; refine wpList_make_full _ rfl (.tmp 134) (.tmp 134) 22 rfl 0 3 i3 (.int .i64 0) 1 Tryf.underlying22 hi3 hz30 hz31 .i64 .i64 _ _ (m + 1) rfl rfl (by omega) (by omega) (by rw [hz32]; omega) (by unfold maxLen; omega) (Nat.zero_le _) ?_; intro w8 o8 g8)
            | (at_make; refine wpList_make_full _ rfl (.tmp 137) (.tmp 137) 22 rfl 0 3 i3 (.int .i64 0) 1 Tryf.underlying22 hi3 hz30 hz31 .i64 .i64 _ _ (m + 1) rfl rfl (by omega) (by omega) (by rw [hz32]; omega) (by unfold maxLen; omega) (Nat.zero_le _) ?_; intro w9 o9 g9))
          have hkm : ((k : Int) + m - k) = m := by omega
          simp only [hkm]
          have lp := hide (Lp.start (k := k) (m := m) (K := K) (P := P) (E := E) (S := S) o6 g6 o7 g7 o8 g8 o9 g9)
          obtain ⟨gk, hgk⟩ : ∃ g, g = w5.heap.size := ⟨_, rfl⟩
          obtain ⟨gt, hgt⟩ : ∃ g, g = w6.heap.size := ⟨_, rfl⟩
          obtain ⟨gp, hgp⟩ : ∃ g, g = w7.heap.size := ⟨_, rfl⟩
          obtain ⟨ge, hge⟩ : ∃ g, g = w8.heap.size := ⟨_, rfl⟩
          rw [← hgt, ← hgp, ← hge] at lp ⊢
          have hl0 := lp.out.l0
          have hl1 := lp.out.l1
          have hl2 := lp.out.l2
          have hl3 := lp.out.l3
          rw [← hgk] at hl0 hl1
          clear o6 g6 o7 g7 o8 g8 o9 g9 hi3 hz30 hz31 hz32 hi9 hz90 hz91 hz92 hgt hgp hge
          have lk := I5.out.lt q1
          have ls := S5.out.lt q1
          have lpp := P5.out.lt q1
          have le := E5.out.lt q1
          rw [← hgk] at lp lk ls lpp le ⊢
          have Hgk := hide hgk
          clear hgk
          go_loopw [23] (fun i wr => ∃ j : Nat, j ≤ m ∧ i = .int .i64 j ∧ Hid (Lp w5 wr gk gt gp ge k m j K P E S ⟨#[]⟩)) (fun i _ => m - (intOf i).toNat)
          case atStart => exact ⟨0, Nat.zero_le _, rfl, lp⟩
          case round =>
            obtain ⟨j, hj, rfl, LP⟩ := hrel
            clear lp
            by_cases hlt : j < m
            · have jz : (0 : Int) ≤ (k : Int) + (j : Int) := by omega
              have jn : (k : Int) + (j : Int) < (ne : Int) := by omega
              have jm : (j : Int) < (m : Int) := by omega
              have jm' : (j : Int) < (m : Int) + 1 := by omega
              have cK : wr.cell? ⟨w'.heap.size, k + j, none⟩ = some (.int .i64 (K (k + j))) := by have := (I5.out.below LP.out.below (by have := Hgk.out; omega)) (k + j) (by omega); simpa using this
              have cS : wr.cell? ⟨w1.heap.size, k + j, none⟩ = some (.string (S (k + j))) := by have := (S5.out.below LP.out.below (by have := Hgk.out; omega)) (k + j) (by omega); simpa using this
              have cP : wr.cell? ⟨w2.heap.size, k + j, none⟩ = some (.int .i64 (P (k + j))) := by have := (P5.out.below LP.out.below (by have := Hgk.out; omega)) (k + j) (by omega); simpa using this
              have cE : wr.cell? ⟨w3.heap.size, k + j, none⟩ = some (.int .i64 (E (k + j))) := by have := (E5.out.below LP.out.below (by have := Hgk.out; omega)) (k + j) (by omega); simpa using this
              obtain ⟨⟨v0, r0⟩, fz0⟩ := LP.out.rk j (by omega)
              obtain ⟨⟨v1, r1⟩, fz1⟩ := LP.out.rt j (by omega)
              obtain ⟨⟨v2, r2⟩, fz2⟩ := LP.out.rp j (by omega)
              obtain ⟨⟨v3, r3⟩, fz3⟩ := LP.out.re j (by omega)
              have d1 : (wr.setCell ⟨gk, j, none⟩ (.int .i64 (K (k + j)))).cell? ⟨w1.heap.size, k + j, none⟩ = some (.string (S (k + j))) := by rw [far (by omega)]; exact cS
              have e1 : (wr.setCell ⟨gk, j, none⟩ (.int .i64 (K (k + j)))).cell? ⟨gt, j, none⟩ = some v1 := by rw [far (by omega)]; exact r1
              have d2 : ((wr.setCell ⟨gk, j, none⟩ (.int .i64 (K (k + j)))).setCell ⟨gt, j, none⟩ (.string (S (k + j)))).cell? ⟨w2.heap.size, k + j, none⟩ = some (.int .i64 (P (k + j))) := by rw [far (by omega), far (by omega)]; exact cP
              have e2 : ((wr.setCell ⟨gk, j, none⟩ (.int .i64 (K (k + j)))).setCell ⟨gt, j, none⟩ (.string (S (k + j)))).cell? ⟨gp, j, none⟩ = some v2 := by rw [far (by omega), far (by omega)]; exact r2
              have d3 : (((wr.setCell ⟨gk, j, none⟩ (.int .i64 (K (k + j)))).setCell ⟨gt, j, none⟩ (.string (S (k + j)))).setCell ⟨gp, j, none⟩ (.int .i64 (P (k + j)))).cell? ⟨w3.heap.size, k + j, none⟩ = some (.int .i64 (E (k + j))) := by rw [far (by omega), far (by omega), far (by omega)]; exact cE
              have e3 : (((wr.setCell ⟨gk, j, none⟩ (.int .i64 (K (k + j)))).setCell ⟨gt, j, none⟩ (.string (S (k + j)))).setCell ⟨gp, j, none⟩ (.int .i64 (P (k + j)))).cell? ⟨ge, j, none⟩ = some v3 := by rw [far (by omega), far (by omega), far (by omega)]; exact r3
              go_wp2
              go_roundw
              case rel => exact ⟨j + 1, by omega, by go_num, LP.out.step⟩
              case measure => simp [intOf]; omega
            · obtain rfl : j = m := by omega
              obtain ⟨⟨v0, r0⟩, fz0⟩ := LP.out.rk j (by omega)
              obtain ⟨⟨v1, r1⟩, fz1⟩ := LP.out.rt j (by omega)
              have e1 : (wr.setCell ⟨gk, j, none⟩ (.int .i64 0)).cell? ⟨gt, j, none⟩ = some v1 := by rw [far (by omega)]; exact r1
              have C := hide (LP.out.close endText)
              clear LP
              go_wp2_with fail
              refine (zz_calls F gk 0 (j + 1) gt 0 (j + 1) gp 0 (j + 1) ge 0 (j + 1) (j + 1) 0 (capI K k j) (capI P k j) (capI E k j) (capS S k j endText) _ (by rw [C.out.below.tape, B5.out.tape]; exact HF.out) C.out.k2 C.out.t2 C.out.p2 C.out.e2 (by omega) (by omega) (cap_fit FT.out f2) u0 u1 x0 x1
                ((C.out.below.cell (p := ⟨0, 0, none⟩) (by have := Hgk.out; show 0 < w5.heap.size; omega)).trans ((B5.out.cell (p := ⟨0, 0, none⟩) l0).trans H0.out)) ((C.out.below.cell (p := ⟨1, 0, none⟩) (by have := Hgk.out; show 1 < w5.heap.size; omega)).trans ((B5.out.cell (p := ⟨1, 0, none⟩) l1').trans H1.out))).mono ?_
              rintro e w10 ⟨hm2, hb10⟩
              have hrr := (LAW.out (fun i => ⟨capI K k j i, capS S k j endText i, capI P k j i, capI E k j i⟩)).2.2.2 (cap_capped K P E S k j)
              rw [Nat.add_sub_cancel_left] at hrr
              rw [hrr] at hm2
              have B10 : Hid (Below w'.heap.size w' w10) := B5.out.trans ((C.out.below.trans (hb10.mono (by have := C.out.below.size; simpa using this))).mono (by have := Hgk.out; omega))
              have hb510 : Hid (Below w5.heap.size w5 w10) := C.out.below.trans (hb10.mono (by have := C.out.below.size; simpa using this))
              obtain ⟨rv2, av2, rfl, hS2, hI2⟩ := hm2
              have X1 := hide (HSl.out.far hb510.out (by omega))
              have X2 := hide (HIl.out.far hb510.out (by omega))
              have Y1 := hide hS2
              have Y2 := hide hI2
              obtain ⟨aoR2, nR2, cR2, hrv⟩ := hS2.form
              obtain ⟨aoA2, nA2, cA2, hav⟩ := hI2.form
              subst hrv
              subst hav
              clear hrr hb10 C LAW HR hS2 hI2 HSl HIl
              go_wp2
              go_quiet (first
                | exact Calls.quiet_of (same_S Y1.out X1.out LS.out)
                | exact Calls.quiet_of (same_I Y2.out X2.out LI.out))
              go_wp2
              go_ret
              exact ⟨rfl, below_drewN' _ B10.out⟩
end Go.Proofs.Qxb6605748aFmt
