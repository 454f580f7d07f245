/-
  THE WALK of ZZreadArgument (9).
-/
import Derived.Test.Qxb6605748aFmtArg2
namespace Go.Proofs.Qxb6605748aFmt
open Go.RowKit Go.Extern.Stop Go.Stop Go.Extern

theorem info37 : (Tryf.prog.info? 37).map (fun i => (i.zero, i.size, i.bytes)) = some (some (.agg #[.int .i64 0, .string ⟨#[]⟩, .int .i64 0, .int .i64 0]), 4, 40) := by kernel_rfl

/-- What ZZreadArgument hands out. -/
def ZBack (r : Option Arg × Nat) (w : World) (e : Ending) (w' : World) : Prop :=
  (match r.1 with
    | some a => ∃ rv av, e = .returned (.tuple #[.string a.kind, rv, av, .int .i64 a.count, .int .i64 a.pos, .int .i64 r.2, .nilIface]) ∧ SlS w' w.heap.size rv a.roles ∧ SlI w' w.heap.size av a.ats
    | none => ∃ p, e = .returned (.tuple #[.string ⟨#[]⟩, .slice none 0 0, .slice none 0 0, .int .i64 0, .int .i64 0, .int .i64 r.2, .iface 52 p])) ∧ Below w.heap.size w w'

theorem below_drewN' {B : Nat} {a w : World} (m : Nat) (h : Below B a w) : Below B a (w.drewN m) := ⟨h.os, h.tape, h.output, h.size, h.block⟩
theorem SlS.form {w : World} {base : Nat} {v : Value} {o : Option (List ByteArray)} (h : SlS w base v o) : ∃ ao n c, v = .slice ao n c := by
  cases o with
  | none => exact ⟨_, _, _, h⟩
  | some L => obtain ⟨g, c, e, _⟩ := h; exact ⟨_, _, _, e⟩
theorem SlI.form {w : World} {base : Nat} {v : Value} {o : Option (List Int)} (h : SlI w base v o) : ∃ ao n c, v = .slice ao n c := by
  cases o with
  | none => exact ⟨_, _, _, h⟩
  | some L => obtain ⟨g, c, e, _⟩ := h; exact ⟨_, _, _, e⟩

theorem toks_step {w : World} {D i n : Nat} {T : Nat → Tok} (hr : Room w D (n * 4)) (hT : Toks w D i T) (hi : i < n) :
    Toks ((((w.setCell ⟨D, i * 4, none⟩ (.int .i64 (T i).kind)).setCell ⟨D, i * 4 + 1, none⟩ (.string (T i).text)).setCell ⟨D, i * 4 + 2, none⟩ (.int .i64 (T i).pos)).setCell ⟨D, i * 4 + 3, none⟩ (.int .i64 (T i).fin)) D (i + 1) T := fun j hj => by
  by_cases e : j = i
  · subst e
    obtain ⟨⟨v0, h0⟩, _⟩ := hr (j * 4) (by omega)
    obtain ⟨⟨v1, h1⟩, _⟩ := hr (j * 4 + 1) (by omega)
    obtain ⟨⟨v2, h2⟩, _⟩ := hr (j * 4 + 2) (by omega)
    obtain ⟨⟨v3, h3⟩, _⟩ := hr (j * 4 + 3) (by omega)
    refine ⟨?_, ?_, ?_, ?_⟩
    · rw [cell_set_ne (by omega), cell_set_ne (by omega), cell_set_ne (by omega)]; exact World.cell?_setCell_same _ _ _ h0
    · rw [cell_set_ne (by omega), cell_set_ne (by omega)]
      obtain ⟨u, hu⟩ := cell?_setCell_some (p := ⟨D, j * 4, none⟩) (x := .int .i64 (T j).kind) h1
      exact World.cell?_setCell_same _ _ _ hu
    · rw [cell_set_ne (by omega)]
      obtain ⟨u, hu⟩ := cell?_setCell_some (p := ⟨D, j * 4, none⟩) (x := .int .i64 (T j).kind) h2
      obtain ⟨u', hu'⟩ := cell?_setCell_some (p := ⟨D, j * 4 + 1, none⟩) (x := .string (T j).text) hu
      exact World.cell?_setCell_same _ _ _ hu'
    · obtain ⟨u, hu⟩ := cell?_setCell_some (p := ⟨D, j * 4, none⟩) (x := .int .i64 (T j).kind) h3
      obtain ⟨u', hu'⟩ := cell?_setCell_some (p := ⟨D, j * 4 + 1, none⟩) (x := .string (T j).text) hu
      obtain ⟨u'', hu''⟩ := cell?_setCell_some (p := ⟨D, j * 4 + 2, none⟩) (x := .int .i64 (T j).pos) hu'
      exact World.cell?_setCell_same _ _ _ hu''
  · have h := hT j (by omega)
    refine ⟨?_, ?_, ?_, ?_⟩ <;> rw [cell_set_ne (by omega), cell_set_ne (by omega), cell_set_ne (by omega), cell_set_ne (by omega)]
    · exact h.1
    · exact h.2.1
    · exact h.2.2.1
    · exact h.2.2.2

set_option maxRecDepth 100000 in
set_option maxHeartbeats 4000000 in
theorem zz_calls (F : Interp) (bk ok ck bt ot ct bp op cp be oe ce n k : Nat) (K P E : Nat → Int) (S : Nat → ByteArray) (w : World) (hF : F.answers w.tape)
    (hK : Ints w bk ok n K) (hS : Strs w bt ot n S) (hP : Ints w bp op n P) (hE : Ints w be oe n E) (hk : k < n) (hn : n ≤ 65537) (FT : Fit (fun j => ⟨K j, S j, P j, E j⟩) n)
    (u0 u1 : TypeId) (x0 x1 : Value) (h0 : w.cell? ⟨0, 0, none⟩ = some (.iface u0 x0)) (h1 : w.cell? ⟨1, 0, none⟩ = some (.iface u1 x1)) :
    Calls Tryf.prog 9 #[.slice (some ⟨bk, ok, none⟩) n ck, .slice (some ⟨bt, ot, none⟩) n ct, .slice (some ⟨bp, op, none⟩) n cp, .slice (some ⟨be, oe, none⟩) n ce, .int .i64 k] w
      (ZBack (readArg (fun j => ⟨K j, S j, P j, E j⟩) n k) w) := by
  obtain ⟨r, hr⟩ : ∃ r, readArg (fun j => (⟨K j, S j, P j, E j⟩ : Tok)) n k = r := ⟨_, rfl⟩
  rw [hr]
  have HRR := hide hr
  clear hr
  obtain ⟨o, k'⟩ := r
  obtain ⟨i0, hi, hz0, hz1, hz2⟩ := info_parts info37
  have lK := hK.lt (by omega)
  have lS := hS.lt (by omega)
  have lP := hP.lt (by omega)
  have lE := hE.lt (by omega)
  have lw0 : 0 < w.heap.size := World.block_lt_of_cell? _ _ h0
  have lw1 : 1 < w.heap.size := World.block_lt_of_cell? _ _ h1
  have HF := hide hF
  have H0 := hide h0
  have H1 := hide h1
  have HFT := hide FT
  clear hF h0 h1 FT
  go_enter Tryf.func9, Tryf.ntmps9
  go_wp2_with (first
    | (at_make; refine wpList_make_full _ rfl _ _ 34 rfl w.heap.size 37 i0 _ 4 Tryf.underlying34 hi hz0 hz1 .i64 .i64 _ _ n rfl rfl (by omega) (by omega) (by rw [hz2]; omega) (by unfold maxLen; omega) (Nat.le_refl _) ?_; intro w1 hown hgrow))
  have hroom : Room w1 w.heap.size (n * 4) := room_of_owns hown
  have hb1 := grown_below hgrow
  have hsz : w.heap.size < w1.heap.size := World.block_lt_of_cell? _ _ (hroom 0 (by omega)).1.choose_spec
  clear hown hgrow hi hz0 hz1 hz2
  go_loopw [27] (fun i wr => ∃ j : Nat, j ≤ n ∧ i = .int .i64 j ∧ Hid (Room wr w.heap.size (n * 4)) ∧ Hid (Toks wr w.heap.size j (fun j => ⟨K j, S j, P j, E j⟩)) ∧ Hid (Below w.heap.size w wr) ∧ w.heap.size < wr.heap.size) (fun i _ => n - (intOf i).toNat)
  case atStart => exact ⟨0, Nat.zero_le _, rfl, hroom, fun j hj => by omega, hb1, hsz⟩
  case round =>
    obtain ⟨j, hj, rfl, HR, HTo, HB, hs⟩ := hrel
    clear hroom hb1 hsz
    by_cases hlt : j < n
    · have jz : (0 : Int) ≤ (j : Int) := by omega
      have jn : (j : Int) < (n : Int) := by omega
      have cK : wr.cell? ⟨bk, ok + j, none⟩ = some (.int .i64 (K j)) := by rw [HB.out.cell (p := ⟨bk, ok + j, none⟩) lK]; exact hK j hlt
      have cS : wr.cell? ⟨bt, ot + j, none⟩ = some (.string (S j)) := by rw [HB.out.cell (p := ⟨bt, ot + j, none⟩) lS]; exact hS j hlt
      have cP : wr.cell? ⟨bp, op + j, none⟩ = some (.int .i64 (P j)) := by rw [HB.out.cell (p := ⟨bp, op + j, none⟩) lP]; exact hP j hlt
      have cE : wr.cell? ⟨be, oe + j, none⟩ = some (.int .i64 (E j)) := by rw [HB.out.cell (p := ⟨be, oe + j, none⟩) lE]; exact hE j hlt
      obtain ⟨⟨v0, r0⟩, f0⟩ := HR.out (j * 4) (by omega)
      obtain ⟨⟨v1, r1⟩, f1⟩ := HR.out (j * 4 + 1) (by omega)
      obtain ⟨⟨v2, r2⟩, f2⟩ := HR.out (j * 4 + 2) (by omega)
      obtain ⟨⟨v3, r3⟩, f3⟩ := HR.out (j * 4 + 3) (by omega)
      have HK := hide hK
      have HS := hide hS
      have HP := hide hP
      have HE := hide hE
      clear hK hS hP hE
      go_wp2
      go_region
      go_wp2
      go_roundw
      case rel => exact ⟨j + 1, by omega, by go_num, (((HR.out.setCell _ _).setCell _ _).setCell _ _).setCell _ _, toks_step (T := fun j => ⟨K j, S j, P j, E j⟩) HR.out HTo.out hlt, ((((HB.out.setCell (Nat.le_refl _) _).setCell (Nat.le_refl _) _).setCell (Nat.le_refl _) _).setCell (Nat.le_refl _) _).drew, by simpa using hs⟩
      case measure => simp [intOf]; omega
    · obtain rfl : j = n := by omega
      have hbc : Below wr.heap.size wr (wr.alloc (.cells #[.slice (some ⟨w.heap.size, 0, none⟩) j j, .int .i64 k] 40)) := (Below.refl _ _).alloc (Nat.le_refl _) _
      have HTC := hide (HTo.out.bx (D := wr.heap.size) (C := wr.heap.size) (Bx.of hbc) hs (by omega))
      have HCC : Hid (Cur (wr.alloc (.cells #[.slice (some ⟨w.heap.size, 0, none⟩) j j, .int .i64 k] 40)) wr.heap.size w.heap.size j k) := ⟨by simp, by simp, by simp⟩
      have HBC : Hid (Below w.heap.size w (wr.alloc (.cells #[.slice (some ⟨w.heap.size, 0, none⟩) j j, .int .i64 k] 40))) := HB.out.trans (hbc.mono (by omega))
      clear hbc HR HTo hK hS hP hE
      go_wp2_with fail
      refine (arg_calls wr.heap.size w.heap.size j k (fun j => ⟨K j, S j, P j, E j⟩) _ F (by rw [HBC.out.tape]; exact HF.out) HTC.out HCC.out hk hn (by omega) HFT.out (by omega) u0 u1 x0 x1 ((HBC.out.cell (p := ⟨0, 0, none⟩) lw0).trans H0.out) ((HBC.out.cell (p := ⟨1, 0, none⟩) lw1).trans H1.out)).mono ?_
      rintro e w2 ⟨hm, hb2, hc2⟩
      rw [HRR.out] at hm hc2
      have hs2 : wr.heap.size + 1 ≤ w2.heap.size := by have := hb2.size; simpa using this
      have HB2 : Hid (Below w.heap.size w w2) := ((Bx.of (C := wr.heap.size) HBC.out).trans (hb2.mono (by simp; omega))).below (by omega)
      have n2 := hc2.next
      have lc : wr.heap.size < w2.heap.size := by omega
      clear hb2 hc2 HTC HCC HBC HB HF HFT H0 H1 HRR
      cases o with
      | none =>
        obtain ⟨p, rfl⟩ := hm
        go_wp2
        go_quiet (fail)
        go_wp2
        exact bodyPost_ret (v := .tuple #[.string ⟨#[]⟩, .slice none 0 0, .slice none 0 0, .int .i64 0, .int .i64 0, .int .i64 k', .iface 52 p]) (by simp [results, Tryf.results9, go_sem]) rfl ⟨⟨p, rfl⟩, below_drewN' _ (HB2.out.alloc (by omega) _)⟩
      | some a =>
        obtain ⟨rv, av, rfl, hS, hI⟩ := hm
        have HS' := hide hS
        have HI' := hide hI
        obtain ⟨ao1, n1, cc1, hrv⟩ := hS.form
        obtain ⟨ao2, n2', cc2, hav⟩ := hI.form
        subst hrv
        subst hav
        clear hS hI
        go_wp2
        go_quiet (fail)
        go_wp2
        exact bodyPost_ret (v := .tuple #[.string a.kind, .slice ao1 n1 cc1, .slice ao2 n2' cc2, .int .i64 a.count, .int .i64 a.pos, .int .i64 k', .nilIface]) (by simp [results, Tryf.results9, go_sem]) rfl
          ⟨⟨_, _, rfl, HS'.out.bx (Bx.of (C := 0) (below_drewN' _ ((Below.refl w2.heap.size w2).alloc (Nat.le_refl _) _))) (Nat.le_refl _) (by simp) (by simp; omega), HI'.out.bx (Bx.of (C := 0) (below_drewN' _ ((Below.refl w2.heap.size w2).alloc (Nat.le_refl _) _))) (Nat.le_refl _) (by simp) (by simp; omega)⟩, below_drewN' _ (HB2.out.alloc (by omega) _)⟩
end Go.Proofs.Qxb6605748aFmt
