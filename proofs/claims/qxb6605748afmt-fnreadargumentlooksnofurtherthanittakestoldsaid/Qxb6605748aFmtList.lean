/-
  THE WALKS of readRoles's closure at a token that is no string, of readList (21).
-/
import Derived.Test.Qxb6605748aFmtItem
namespace Go.Proofs.Qxb6605748aFmt
open Go.RowKit

/-- Where the cursor stands behind a token: an end token holds it. -/
def nx (T : Nat → Tok) (k : Nat) : Nat := if (T k).kind = 0 then k else k + 1

theorem nx_le (T : Nat → Tok) (k : Nat) : nx T k ≤ k + 1 := by unfold nx; split <;> omega

/-- advance, at whatever token. -/
theorem advance_calls (C B n k : Nat) (T : Nat → Tok) (w : World) (hT : Toks w B n T) (hC : Cur w C B n k) (hk : k < n) (hn : n ≤ 65537) :
    Calls Tryf.prog 13 #[.pointer (some ⟨C, 0, none⟩)] w (TokBack (T k) C B n (nx T k) w) := by
  unfold nx
  by_cases h : (T k).kind = 0
  · rw [if_pos h]; exact advance_end C B n k T w hT hC hk hn h
  · rw [if_neg h]; exact advance_step C B n k T w hT hC hk hn h

/-- What a call leaves that ends in an error of the package's own, the cursor at k. -/
def FailBack (C B n k : Nat) (w : World) (e : Ending) (w' : World) : Prop := (∃ p, e = .returned (.iface 52 p)) ∧ Bx w.heap.size C w w' ∧ Cur w' C B n k

set_option maxRecDepth 100000 in
theorem item_other (P1 A C B n k : Nat) (T : Nat → Tok) (w : World) (hcap : w.cell? ⟨P1, 0, none⟩ = some (.pointer (some ⟨C, 0, none⟩)))
    (hT : Toks w B n T) (hC : Cur w C B n k) (hk : k < n) (hn : n ≤ 65537) (h3 : (T k).kind ≠ 3) (hs : (T k).text.size ≤ 1048576) :
    Calls Tryf.prog 22 #[.pointer (some ⟨P1, 0, none⟩), .pointer (some ⟨A, 0, none⟩)] w (FailBack C B n (nx T k) w) := by
  have h3' : ((T k).kind != 3) = true := by simp [h3]
  have HT := hide hT
  have HC := hide hC
  have hCw := hC.lt
  clear hT hC h3
  go_enter Tryf.func22, Tryf.ntmps22
  go_wp2_with fail
  refine (advance_calls C B n k T _ HT.out HC.out hk hn).mono ?_
  rintro e wa ⟨rfl, hba, hca⟩
  dsimp only [Tok.val]
  have HBA := hide hba
  have HCA := hide hca
  clear hba hca
  go_wp2_with fail
  refine (unexpected_calls (T k) _ hs).mono ?_
  rintro e w1 ⟨⟨p, rfl⟩, hb⟩
  have HB : Hid (Below wa.heap.size wa w1) := ((Below.refl _ _).alloc (Nat.le_refl _) _).trans (hb.mono (by simp))
  clear hb
  go_wp2
  go_ret
  exact ⟨⟨p, rfl⟩, HBA.out.trans (Bx.of (HB.out.mono HBA.out.size)), HCA.out.below HB.out HCA.out.lt⟩

/-- The roles of a list from token k on: the roles and their offsets, or an error; and where the cursor stands. -/
def roles (T : Nat → Tok) : Nat → Nat → List ByteArray → List Int → Option (List ByteArray × List Int) × Nat
  | 0, k, _, _ => (none, k)
  | f + 1, k, R, Q =>
    if (T k).kind ≠ 3 then (none, nx T k)
    else if (T (k + 1)).kind = 8 then (some (R ++ [unq (T k)], Q ++ [(T k).pos]), k + 2)
    else if (T (k + 1)).kind = 9 then roles T f (k + 2) (R ++ [unq (T k)]) (Q ++ [(T k).pos])
    else (none, nx T (k + 1))

/-- The closure's value: function 22 over the captured cursor and the argument. -/
abbrev itemFn (P1 A : Nat) : Value := .func (.func 22) #[] #[.pointer (some ⟨P1, 0, none⟩), .pointer (some ⟨A, 0, none⟩)]

theorem Build.move {w w' : World} {P1 A C B n k k' base : Nat} {T : Nat → Tok} {nm : ByteArray} {ps : Int} {R : List ByteArray} {Q : List Int} {rv av : Value}
    (H : Build w P1 A C B n k base T nm ps R Q rv av) (hb : Bx w.heap.size C w w') (hc : Cur w' C B n k') : Build w' P1 A C B n k' base T nm ps R Q rv av := by
  have hr := H.room
  have h1 := H.cA
  have h2 := H.cP
  have h3 := H.cB
  exact ⟨(hb.cell (p := ⟨P1, 0, none⟩) (by show P1 < _; omega) H.nPC).trans H.cap, H.toks.bx hb (by omega) H.nBC, hc, (hb.block A (by omega) H.nAC).trans H.arg, Bx.owns H.roles hb H.cC, Bx.owns H.ats hb H.cC,
    Nat.le_trans hr hb.size, H.cC, H.cA, H.cP, H.cB, H.nAC, H.nAB, H.nPC, H.nPA, H.nBC⟩
theorem Build.below {w w' : World} {P1 A C B n k base : Nat} {T : Nat → Tok} {nm : ByteArray} {ps : Int} {R : List ByteArray} {Q : List Int} {rv av : Value}
    (H : Build w P1 A C B n k base T nm ps R Q rv av) (hb : Below w.heap.size w w') : Build w' P1 A C B n k base T nm ps R Q rv av :=
  H.move (Bx.of hb) (H.cur.below hb H.cur.lt)

/-- What the tokens are like, from token k on: an end token closes them; a string has its two quotes; no text is long. -/
structure Fit (T : Nat → Tok) (n : Nat) : Prop where
  last : ∀ k, k < n → (T k).kind ≠ 0 → k + 1 < n
  quoted : ∀ k, k < n → (T k).kind = 3 → 2 ≤ (T k).text.size
  short : ∀ k, k < n → (T k).text.size ≤ 1048576

/-- The list read by readList at token k. -/
def listRun (T : Nat → Tok) (n k : Nat) : Option (List ByteArray × List Int) × Nat := if (T k).kind = 8 then (some ([], []), k + 1) else roles T (n - k) k [] []

def ListBack (r : Option (List ByteArray × List Int) × Nat) (P1 A C B n base : Nat) (T : Nat → Tok) (nm : ByteArray) (ps : Int) (w : World) (e : Ending) (w' : World) : Prop :=
  ((∃ R Q rv av, r.1 = some (R, Q) ∧ e = .returned .nilIface ∧ R.length = Q.length ∧ Build w' P1 A C B n r.2 base T nm ps R Q rv av) ∨ (r.1 = none ∧ (∃ p, e = .returned (.iface 52 p)) ∧ Cur w' C B n r.2)) ∧ B2 base C A w w'

def curOf (w : World) (C : Nat) : Nat := match w.cell? ⟨C, 1, none⟩ with | some (.int _ q) => q.toNat | _ => 0
theorem curOf_eq {w : World} {C B n k : Nat} (h : Cur w C B n k) : curOf w C = k := by unfold curOf; rw [h.next]; rfl

set_option maxRecDepth 100000 in
set_option maxHeartbeats 1000000 in
theorem list_calls (P1 A C B n k base : Nat) (T : Nat → Tok) (nm : ByteArray) (ps : Int) (rv av : Value) (w : World) (H : Build w P1 A C B n k base T nm ps [] [] rv av) (hk : k < n) (hn : n ≤ 65537) (F : Fit T n) :
    Calls Tryf.prog 21 #[.pointer (some ⟨C, 0, none⟩), .int .i64 8, itemFn P1 A] w (ListBack (listRun T n k) P1 A C B n base T nm ps w) := by
  have HH := hide H
  clear H
  go_enter Tryf.func21, Tryf.ntmps21
  go_wp2_with fail
  refine (peek_calls C B n k T _ HH.out.toks HH.out.cur hk hn).mono ?_
  rintro e wp ⟨rfl, hbp⟩
  dsimp only [Tok.val]
  have HP := hide (HH.out.below hbp)
  have HBp : Hid (B2 base C A w wp) := B2.of (Bx.of hbp) HH.out.room
  clear hbp
  have f0 := field0 (T k).kind (T k).pos (T k).fin (T k).text
  by_cases h8 : (T k).kind = 8
  · have h8' : ((T k).kind == 8) = true := by simp [h8]
    have hl := hide (show listRun T n k = (some ([], []), k + 1) by unfold listRun; rw [if_pos h8])
    have h80 : (T k).kind ≠ 0 := by omega
    clear h8
    go_wp2_with fail
    refine (advance_step C B n k T _ HP.out.toks HP.out.cur hk hn h80).mono ?_
    rintro e wa ⟨rfl, hba, hca⟩
    dsimp only [Tok.val]
    have HM := hide (HP.out.move hba hca)
    have HBA : Hid (B2 base C A w wa) := HBp.out.trans (B2.of hba HP.out.room)
    clear hba hca
    go_wp2
    go_ret
    refine ⟨Or.inl ⟨[], [], rv, av, ?_, rfl, rfl, ?_⟩, HBA.out⟩
    · rw [hl.out]
    · rw [hl.out]; exact HM.out
  · have h8' : ((T k).kind == 8) = false := by simp [h8]
    have hl := hide (show listRun T n k = roles T (n - k) k [] [] by unfold listRun; rw [if_neg h8])
    clear h8
    go_wp2_with fail
    go_loopw [7] (fun _ wr => ∃ (j f : Nat) (R : List ByteArray) (Q : List Int) (rv av : Value), j < n ∧ n ≤ j + f ∧ k ≤ j ∧ R.length + k ≤ j ∧ R.length = Q.length ∧ Hid (listRun T n k = roles T f j R Q) ∧ Hid (Build wr P1 A C B n j base T nm ps R Q rv av) ∧ Hid (B2 base C A w wr)) (fun _ wr => n - curOf wr C)
    case atStart => exact ⟨k, n - k, [], [], rv, av, hk, by omega, Nat.le_refl _, by simp, rfl, hl, HP, HBp⟩
    case round =>
      obtain ⟨j, f, R, Q, rv, av, hj, hf, hkj, hRk, hRQ, hl', HJ, HBJ⟩ := hrel
      clear hl HP HBp HH h8'
      obtain ⟨f, rfl⟩ : ∃ f', f = f' + 1 := ⟨f - 1, by omega⟩
      have hsh := F.short j hj
      by_cases h3 : (T j).kind = 3
      · have hq := F.quoted j hj h3
        have hj1 := F.last j hj (by omega)
        have hsh1 := F.short (j + 1) hj1
        go_wp2_with fail
        refine (item_string P1 A C B n j base T nm ps R Q rv av _ HJ.out hj hn h3 hq hsh (by omega) (by omega)).mono ?_
        rintro e w1 ⟨rfl, ⟨rv', av', hB1⟩, h21⟩
        have HB1 := hide hB1
        have H21 : Hid (B2 base C A w w1) := HBJ.out.trans h21
        clear hB1 h21
        by_cases e8 : (T (j + 1)).kind = 8
        · have e8' : ((T (j + 1)).kind == 8) = true := by simp [e8]
          have E8 := hide e8
          clear e8
          go_wp2_with fail
          refine (advance_step C B n (j + 1) T _ HB1.out.toks HB1.out.cur hj1 hn (by rw [E8.out]; decide)).mono ?_
          rintro e wa ⟨rfl, hba, hca⟩
          dsimp only [Tok.val]
          have HM := hide (HB1.out.move hba hca)
          have HBA : Hid (B2 base C A w wa) := H21.out.trans (B2.of hba HB1.out.room)
          clear hba hca
          go_wp2
          go_ret
          have hr : listRun T n k = (some (R ++ [unq (T j)], Q ++ [(T j).pos]), j + 2) := by
            rw [hl'.out]; simp [roles, h3, E8.out]
          refine ⟨Or.inl ⟨R ++ [unq (T j)], Q ++ [(T j).pos], rv', av', by rw [hr], rfl, by simp [hRQ], ?_⟩, ?_⟩
          · rw [hr]; exact HM.out.below ((Below.refl _ _).alloc (Nat.le_refl _) _)
          · exact HBA.out.trans (B2.of (Bx.of ((Below.refl _ _).alloc (Nat.le_refl _) _)) HM.out.room)
        · have e8' : ((T (j + 1)).kind == 8) = false := by simp [e8]
          have E8 := hide e8
          clear e8
          by_cases e9 : (T (j + 1)).kind = 9
          · have e9' : ((T (j + 1)).kind == 9) = true := by simp [e9]
            have hj2 := F.last (j + 1) hj1 (by omega)
            have E9 := hide e9
            clear e9
            go_wp2_with fail
            refine (advance_step C B n (j + 1) T _ HB1.out.toks HB1.out.cur hj1 hn (by rw [E9.out]; decide)).mono ?_
            rintro e wa ⟨rfl, hba, hca⟩
            dsimp only [Tok.val]
            have HM := hide (HB1.out.move hba hca)
            have HBA : Hid (B2 base C A w wa) := H21.out.trans (B2.of hba HB1.out.room)
            clear hba hca
            have hr := hide (show listRun T n k = roles T f (j + 2) (R ++ [unq (T j)]) (Q ++ [(T j).pos]) by
              rw [hl'.out]; simp [roles, h3, E9.out])
            go_wp2
            go_roundw
            case rel => exact ⟨j + 2, f, R ++ [unq (T j)], Q ++ [(T j).pos], rv', av', by omega, by omega, by omega, by simp; omega, by simp [hRQ], hr, HM.out.below ((Below.refl _ _).alloc (Nat.le_refl _) _), HBA.out.trans (B2.of (Bx.of ((Below.refl _ _).alloc (Nat.le_refl _) _)) HM.out.room)⟩
            case measure =>
              rw [curOf_eq HJ.out.cur, curOf_eq (HM.out.below ((Below.refl _ _).alloc (Nat.le_refl _) _)).cur]
              omega
          · have e9' : ((T (j + 1)).kind == 9) = false := by simp [e9]
            have E9 := hide e9
            clear e9
            go_wp2_with fail
            refine (advance_calls C B n (j + 1) T _ HB1.out.toks HB1.out.cur hj1 hn).mono ?_
            rintro e wa ⟨rfl, hba, hca⟩
            dsimp only [Tok.val]
            have HCA := hide hca
            have HBA : Hid (B2 base C A w wa) := H21.out.trans (B2.of hba HB1.out.room)
            have hroom : base ≤ wa.heap.size := Nat.le_trans HB1.out.room hba.size
            clear hba hca
            go_wp2_with fail
            refine (unexpected_calls (T (j + 1)) _ hsh1).mono ?_
            rintro e w3 ⟨⟨p, rfl⟩, hb⟩
            have HB : Hid (Below wa.heap.size wa w3) := ((Below.refl _ _).alloc (Nat.le_refl _) _).trans (hb.mono (by simp))
            clear hb
            go_wp2
            go_ret
            have hr : listRun T n k = (none, nx T (j + 1)) := by
              rw [hl'.out]; simp [roles, h3, E8.out, E9.out]
            refine ⟨Or.inr ⟨by rw [hr], ⟨p, rfl⟩, ?_⟩, ?_⟩
            · rw [hr]; exact HCA.out.below HB.out HCA.out.lt
            · exact HBA.out.trans (B2.of (Bx.of HB.out) hroom)
      · have H3 := hide h3
        clear h3
        go_wp2_with fail
        refine (item_other P1 A C B n j T _ HJ.out.cap HJ.out.toks HJ.out.cur hj hn H3.out hsh).mono ?_
        rintro e w1 ⟨⟨p, rfl⟩, hb1, hc1⟩
        have HB1 := hide hb1
        have HC1 := hide hc1
        clear hb1 hc1
        go_wp2
        go_ret
        have hr : listRun T n k = (none, nx T j) := by
          rw [hl'.out]; simp [roles, H3.out]
        refine ⟨Or.inr ⟨by rw [hr], ⟨p, rfl⟩, ?_⟩, ?_⟩
        · rw [hr]; exact HC1.out
        · exact HBJ.out.trans (B2.of HB1.out HJ.out.room)

end Go.Proofs.Qxb6605748aFmt
