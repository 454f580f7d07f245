/-
  zzRanks.
-/
import Derived.Test.Qxb6605873aRuns
set_option linter.unusedVariables false
namespace Go.Proofs.Qxb6605873a
open Go.RowKit Go.Sort

/-- The two rows of the merge sort. -/
structure Two (w0 w : World) (base gi gb n : Nat) (X Y : Nat → Nat) : Prop where
  ni : Nums .i64 w gi n (fun t => (X t : Int))
  nb : Nums .i64 w gb n (fun t => (Y t : Int))
  fi : ∀ t, t < n → w.frozen? ⟨gi, t, none⟩ = false
  fb : ∀ t, t < n → w.frozen? ⟨gb, t, none⟩ = false
  ne : gi ≠ gb
  bi : base ≤ gi
  bb : base ≤ gb
  li : gi < w.heap.size
  lb : gb < w.heap.size
  below : Go.RowKit.Below base w0 w

theorem Two.drewN {w0 w : World} {base gi gb n : Nat} {X Y : Nat → Nat} (h : Two w0 w base gi gb n X Y) (q : Nat) : Two w0 (w.drewN q) base gi gb n X Y :=
  ⟨h.ni, h.nb, h.fi, h.fb, h.ne, h.bi, h.bb, h.li, h.lb, below_drewN h.below q⟩
theorem Two.swap {w0 w : World} {base gi gb n : Nat} {X Y : Nat → Nat} (h : Two w0 w base gi gb n X Y) : Two w0 w base gb gi n Y X :=
  ⟨h.nb, h.ni, h.fb, h.fi, h.ne.symm, h.bb, h.bi, h.lb, h.li, h.below⟩
theorem Two.put {w0 w : World} {base gi gb n : Nat} {X Y : Nat → Nat} (h : Two w0 w base gi gb n X Y) (k z : Nat) :
    Two w0 (w.setCell ⟨gb, k, none⟩ (.int .i64 (z : Int))) base gi gb n X (upd Y k z) :=
  ⟨h.ni.far (fun e => h.ne e.symm), h.nb.put (by simp [upd]) (fun j _ e => by simp [upd, e]), fun t ht => by rw [World.frozen?_setCell]; exact h.fi t ht, fun t ht => by rw [World.frozen?_setCell]; exact h.fb t ht,
    h.ne, h.bi, h.bb, by simpa using h.li, by simpa using h.lb, h.below.setCell h.bb _⟩

theorem runs_lt {P : Nat → Int} {n w : Nat} {X : Nat → Nat} (h : Runs P n w X) (t : Nat) (ht : t < n) (hw : 1 ≤ w) : X t < n := by
  have e := Nat.div_add_mod t w
  have l := Nat.mod_lt t (by omega : w > 0)
  rw [Nat.mul_comm] at e
  exact (h.bd (t / w) t (by omega) (by omega) ht).2.2

def RanksPost (w : World) (n : Nat) (P : Nat → Int) (e : Ending) (w' : World) : Prop :=
  ∃ (g : Nat) (σ ρ : Nat → Nat), e = .returned (.slice (some ⟨g, 0, none⟩) n n) ∧ Rank P n σ ρ ∧ Nums .i64 w' g n (fun i => (ρ i : Int)) ∧ Go.RowKit.Below w.heap.size w w' ∧ w.heap.size ≤ g ∧ g < w'.heap.size

set_option maxRecDepth 100000 in
set_option maxHeartbeats 8000000 in
theorem ranks_calls (a : Option Addr) (c n : Nat) (P : Nat → Int) (w : World) (hn : n ≤ 65536) (h0 : Rd .u32 w a n P) :
    Calls Try.prog 19 #[.slice a n c] w (RanksPost w n P) := by
  obtain ⟨i0, hi, hz0, hz1, hz2⟩ := info_parts info3
  have H0 : Hid (Rd .u32 w a n P) := h0
  clear h0
  go_enter Try.func19, Try.ntmps19
  go_wp2_with (first
    | (at_make; refine wpList_make_full _ rfl _ _ 34 rfl w.heap.size 3 i0 (.int .i64 0) 1 Try.underlying34 hi hz0 hz1 .i64 .i64 _ _ n rfl rfl (by omega) (by omega) (by rw [hz2]; omega) (by unfold maxLen; omega) (Nat.le_refl _) ?_; intro w1 hown hgrow))
  have hroom : Room w1 w.heap.size n := by have := room_of_owns hown; simpa using this
  have hb1 := grown_below hgrow
  have hlt := owns_lt hown
  obtain ⟨B, hB⟩ : ∃ g, g = w.heap.size := ⟨_, rfl⟩
  simp only [← hB] at hroom hb1 hlt ⊢
  have HB : Hid (B = w.heap.size) := hB
  clear hown hgrow hB
  go_loopw [5] (fun v wr => ∃ k : Nat, k ≤ n ∧ v = .int .i64 k ∧ Room wr B n ∧ Nums .i64 wr B k (fun t => (t : Int)) ∧ Go.RowKit.Below B w wr ∧ B < wr.heap.size) (fun v _ => n - (intOf v).toNat)
  case atStart => exact ⟨0, Nat.zero_le _, rfl, hroom, fun j hj => by omega, hb1, hlt⟩
  case round =>
    obtain ⟨k, hk, rfl, hr, hN, hb, hs⟩ := hrel
    clear hroom hb1 hlt
    by_cases hlt : k < n
    · obtain ⟨⟨v, hv⟩, hf⟩ := hr k hlt
      have R1 : Hid (Room (wr.setCell ⟨B, k, none⟩ (.int .i64 (k : Int))) B n) := hr.setCell _ _
      have R2 : Hid (Nums .i64 (wr.setCell ⟨B, k, none⟩ (.int .i64 (k : Int))) B (k + 1) (fun t => (t : Int))) := hN.grow hr hlt rfl
      have R3 : Hid (Go.RowKit.Below B w (wr.setCell ⟨B, k, none⟩ (.int .i64 (k : Int)))) := hb.setCell (Nat.le_refl _) _
      clear hN hr
      go_wp2
      go_roundw
      case rel => exact ⟨k + 1, by omega, by go_num, R1.out, R2.out, R3.out, by simpa using hs⟩
      case measure => simp [intOf]; omega
    · obtain rfl : k = n := by omega
      go_wp2_with (first
        | (at_make; refine wpList_make_full _ rfl _ _ 34 rfl wr.heap.size 3 i0 (.int .i64 0) 1 Try.underlying34 hi hz0 hz1 .i64 .i64 _ _ k rfl rfl (by omega) (by omega) (by rw [hz2]; omega) (by unfold maxLen; omega) (Nat.le_refl _) ?_; intro w2 hown hgrow))
      have hb2 := grown_below hgrow
      have hlt2 := owns_lt hown
      have HT : Hid (Two w w2 B B wr.heap.size k (fun t => t) (fun _ => 0)) :=
        ⟨hN.below hb2 hs, fun j hj => made_cell hown hj, fun t ht => (hr.below hb2 hs t ht).2, fun t ht => hown.frozenAt t, by omega, Nat.le_refl _, by omega, by have := hb2.size; omega, hlt2, hb.trans (hb2.mono (by omega))⟩
      obtain ⟨g2, hg2⟩ : ∃ g, g = wr.heap.size := ⟨_, rfl⟩
      simp only [← hg2] at HT ⊢
      clear hown hgrow hg2 hb2 hlt2 hr hN hb hs
      go_loopw [4, 6, 7] (fun v4 v6 v7 wr => ∃ (gi gb s : Nat) (X Y : Nat → Nat), v4 = .slice (some ⟨gi, 0, none⟩) k k ∧ v6 = .slice (some ⟨gb, 0, none⟩) k k ∧ v7 = .int .i64 s ∧ 1 ≤ s ∧ s ≤ 2 * 65536 ∧ Hid (Two w wr B gi gb k X Y) ∧ Hid (Runs P k s X))
        (fun _ _ v7 _ => k - (intOf v7).toNat)
      case atStart => exact ⟨B, g2, 1, _, _, rfl, rfl, rfl, by omega, by omega, HT, Runs.start P k⟩
      case round =>
        obtain ⟨gi, gb, s, X, Y, rfl, rfl, rfl, hs1, hs2, HT2, HX⟩ := hrel
        clear HT
        by_cases hsn : s < k
        · obtain ⟨b0, rfl, hl0, hc0⟩ := H0.out (by omega)
          have HP0 : Hid (∀ j, j < k → w.cell? ⟨b0, j, none⟩ = some (.int .u32 (P j))) := hc0
          have HBL : Hid (b0 < B) := by show b0 < B; rw [HB.out]; exact hl0
          clear H0 hl0 hc0
          go_wp2
          go_loopw [8] (fun v8 wr => ∃ (q lo : Nat) (Y : Nat → Nat), v8 = .int .i64 lo ∧ lo ≤ 4 * 65536 ∧ Hid (lo = q * (2 * s)) ∧ Hid (Two w wr B gi gb k X Y) ∧ Hid (Pass P k s X Y q))
            (fun v8 _ => k - (intOf v8).toNat)
          case atStart => exact ⟨0, 0, Y, rfl, by omega, (by show 0 = 0 * (2 * s); omega), HT2, Pass.start P k s X Y⟩
          case round =>
            obtain ⟨q, lo, Y, rfl, hlo4, HLO, HT3, HPass⟩ := hrel
            clear HT2
            by_cases hlk : lo < k
            · obtain ⟨mid, hmid⟩ : ∃ m, m = min (lo + s) k := ⟨_, rfl⟩
              obtain ⟨hi, hhi⟩ : ∃ m, m = min (lo + 2 * s) k := ⟨_, rfl⟩
              have HM0 : Hid (Mer P k s X Y q lo mid hi lo mid lo) := Mer.start HPass.out HLO.out hmid hhi hlk
              have HMID : Hid (mid = min (lo + s) k) := hmid
              have HHI : Hid (hi = min (lo + 2 * s) k) := hhi
              have hm1 : mid ≤ k := by omega
              have hm2 : hi ≤ k := by omega
              have hm3 : lo ≤ mid := by omega
              have hm4 : mid ≤ hi := by omega
              clear hmid hhi HPass
              go_upto_if 48 with fail
              go_cut [9] from 36 to 131 (fun s9 wx => s9 = .int .i64 mid ∧ wx = wr)
              case first =>
                by_cases hgt : k < lo + s
                · have kgt : (k : Int) < (lo : Int) + s := by omega
                  have e : mid = k := by have := HMID.out; omega
                  have E : Hid (mid = k) := e
                  clear e
                  go_wp2
                  go_meet
                  case rel => exact ⟨by rw [E.out], rfl⟩
                · have kgt : ¬ (k : Int) < (lo : Int) + s := by omega
                  have e : (lo : Int) + s = mid := by have := HMID.out; omega
                  have E : Hid ((lo : Int) + s = mid) := e
                  clear e
                  go_wp2
                  go_meet
                  case rel => exact ⟨by rw [E.out], rfl⟩
              case rest =>
                obtain ⟨rfl, hwc⟩ := hcut
                subst hwc
                go_upto_if 56 with fail
                go_cut [10] from 36 to 131 (fun s10 wx => s10 = .int .i64 hi ∧ wx = wc)
                case first =>
                  by_cases hgt : k < lo + 2 * s
                  · have kgt : (k : Int) < (lo : Int) + 2 * s := by omega
                    have e : hi = k := by have := HHI.out; omega
                    have E : Hid (hi = k) := e
                    clear e
                    go_wp2
                    go_meet
                    case rel => exact ⟨by rw [E.out], rfl⟩
                  · have kgt : ¬ (k : Int) < (lo : Int) + 2 * s := by omega
                    have e : (lo : Int) + 2 * s = hi := by have := HHI.out; omega
                    have E : Hid ((lo : Int) + 2 * s = hi) := e
                    clear e
                    go_wp2
                    go_meet
                    case rel => exact ⟨by rw [E.out], rfl⟩
                case rest =>
                  obtain ⟨rfl, hwc⟩ := hcut
                  subst hwc
                  clear HMID HHI
                  go_wp2
                  go_loopw [11, 12, 13] (fun v11 v12 v13 wr => ∃ (x y z : Nat) (Y : Nat → Nat), v11 = .int .i64 x ∧ v12 = .int .i64 y ∧ v13 = .int .i64 z ∧ Hid (Two w wr B gi gb k X Y) ∧ Hid (Mer P k s X Y q lo mid hi x y z))
                    (fun v11 v12 _ _ => mid + hi - (intOf v11).toNat - (intOf v12).toNat)
                  case atStart => exact ⟨lo, mid, lo, Y, rfl, rfl, rfl, HT3, HM0⟩
                  case round =>
                    obtain ⟨x, y, z, Y, rfl, rfl, rfl, HT4, HM⟩ := hrel
                    clear HT3 HM0
                    have m1 := HM.out.ha
                    have m2 := HM.out.ha'
                    have m3 := HM.out.hb
                    have m4 := HM.out.hb'
                    have m5 := HM.out.hk
                    go_upto_region 23 with fail
                    go_cut [68] from 61 to 103 (fun s68 wx => s68 = .bool (decide (x < mid) && decide (y < hi)) ∧ wx = wr)
                    case first =>
                      by_cases hx : x < mid
                      · by_cases hy : y < hi
                        · go_wp2_with fail
                          go_meet
                          case rel => exact ⟨by simp [hx, hy], rfl⟩
                        · go_wp2_with fail
                          go_meet
                          case rel => exact ⟨by simp [hx, hy], rfl⟩
                      · go_wp2_with fail
                        go_meet
                        case rel => exact ⟨by simp [hx], rfl⟩
                    case rest =>
                      obtain ⟨rfl, hwc⟩ := hcut
                      subst hwc
                      cases hb2 : (decide (x < mid) && decide (y < hi)) with
                      | true =>
                        have hx : x < mid := by simp at hb2; exact hb2.1
                        have hy : y < hi := by simp at hb2; exact hb2.2
                        clear hb2
                        obtain ⟨xx, hxx⟩ : ∃ t, t = X x := ⟨_, rfl⟩
                        obtain ⟨xy, hxy⟩ : ∃ t, t = X y := ⟨_, rfl⟩
                        have cx : wc.cell? ⟨gi, x, none⟩ = some (.int .i64 (xx : Int)) := by rw [hxx]; exact HT4.out.ni x (by omega)
                        have cy : wc.cell? ⟨gi, y, none⟩ = some (.int .i64 (xy : Int)) := by rw [hxy]; exact HT4.out.ni y (by omega)
                        have bx : xx < k := by rw [hxx]; exact (runs_lt HX.out x (by omega) (by omega))
                        have by' : xy < k := by rw [hxy]; exact (runs_lt HX.out y (by omega) (by omega))
                        have px : wc.cell? ⟨b0, xx, none⟩ = some (.int .u32 (P xx)) := by rw [HT4.out.below.cell (p := ⟨b0, xx, none⟩) HBL.out]; exact HP0.out xx bx
                        have py : wc.cell? ⟨b0, xy, none⟩ = some (.int .u32 (P xy)) := by rw [HT4.out.below.cell (p := ⟨b0, xy, none⟩) HBL.out]; exact HP0.out xy by'
                        have cz : wc.cell? ⟨gb, z, none⟩ = some (.int .i64 (Y z : Int)) := HT4.out.nb z (by omega)
                        have fz := HT4.out.fb z (by omega)
                        have i1 : (xx : Int) < (k : Int) := by omega
                        have i2 : (0 : Int) ≤ (xx : Int) := by omega
                        have i3 : (xy : Int) < (k : Int) := by omega
                        have i4 : (0 : Int) ≤ (xy : Int) := by omega
                        have j1 : (x : Int) < (k : Int) := by omega
                        have j2 : (y : Int) < (k : Int) := by omega
                        have j3 : (0 : Int) ≤ (x : Int) := by omega
                        have j4 : (0 : Int) ≤ (y : Int) := by omega
                        have j5 : (z : Int) < (k : Int) := by omega
                        have HXX : Hid (xx = X x) := hxx
                        have HXY : Hid (xy = X y) := hxy
                        clear hxx hxy
                        by_cases hp : P xy < P xx
                        · have HM2 : Hid (Mer P k s X (upd Y z xy) q lo mid hi x (y + 1) (z + 1)) := by
                            rw [HXY.out]; exact HM.out.right HX.out hy (fun _ => by rw [← HXX.out, ← HXY.out]; exact hp)
                          go_wp2
                          go_quiet (fail)
                          go_wp2
                          go_roundw
                          case rel => exact ⟨x, y + 1, z + 1, upd Y z xy, rfl, by go_num, by go_num, (HT4.out.drewN nq).put z xy, HM2⟩
                          case measure => simp [intOf]; omega
                        · have hp' : decide (P xy < P xx) = false := by simp; omega
                          have HM2 : Hid (Mer P k s X (upd Y z xx) q lo mid hi (x + 1) y (z + 1)) := by
                            rw [HXX.out]; exact HM.out.left HX.out hx (fun _ => by rw [← HXX.out, ← HXY.out]; exact hp)
                          go_wp2
                          go_quiet (fail)
                          go_wp2
                          go_roundw
                          case rel => exact ⟨x + 1, y, z + 1, upd Y z xx, by go_num, rfl, by go_num, (HT4.out.drewN nq).put z xx, HM2⟩
                          case measure => simp [intOf]; omega
                      | false =>
                        have hxy : x < mid → y = hi := fun h => by simp [h] at hb2; omega
                        have HXY : Hid (x < mid → y = hi) := hxy
                        clear hb2 hxy
                        go_wp2
                        go_loopw [11, 13] (fun v11 v13 wr => ∃ (x z : Nat) (Y : Nat → Nat), v11 = .int .i64 x ∧ v13 = .int .i64 z ∧ Hid (Two w wr B gi gb k X Y) ∧ Hid (Mer P k s X Y q lo mid hi x y z) ∧ Hid (x < mid → y = hi))
                          (fun v11 _ _ => mid - (intOf v11).toNat)
                        case atStart => exact ⟨x, z, Y, rfl, rfl, HT4, HM, HXY⟩
                        case round =>
                          clear HT4 HM HXY m1 m2 m3 m4 m5
                          obtain ⟨x, z, Y, rfl, rfl, HT4, HM, HXY⟩ := hrel
                          have m1 := HM.out.ha
                          have m2 := HM.out.ha'
                          have m3 := HM.out.hb
                          have m4 := HM.out.hb'
                          have m5 := HM.out.hk
                          by_cases hx : x < mid
                          · obtain ⟨xx, hxx⟩ : ∃ t, t = X x := ⟨_, rfl⟩
                            have hy := HXY.out hx
                            have cx : wr.cell? ⟨gi, x, none⟩ = some (.int .i64 (xx : Int)) := by rw [hxx]; exact HT4.out.ni x (by omega)
                            have cz : wr.cell? ⟨gb, z, none⟩ = some (.int .i64 (Y z : Int)) := HT4.out.nb z (by omega)
                            have fz := HT4.out.fb z (by omega)
                            have HM2 : Hid (Mer P k s X (upd Y z xx) q lo mid hi (x + 1) y (z + 1)) := by
                              rw [hxx]; exact HM.out.left HX.out hx (fun h => by omega)
                            have HXY2 : Hid (x + 1 < mid → y = hi) := fun _ => hy
                            have j1 : (x : Int) < (k : Int) := by omega
                            have j5 : (z : Int) < (k : Int) := by omega
                            clear hxx hy
                            go_wp2
                            go_roundw
                            case rel => exact ⟨x + 1, z + 1, upd Y z xx, by go_num, by go_num, HT4.out.put z xx, HM2, HXY2⟩
                            case measure => simp [intOf]; omega
                          · have kx : ¬ (x : Int) < (mid : Int) := by omega
                            go_wp2
                            go_loopw [12, 13] (fun v12 v13 wr => ∃ (y z : Nat) (Y : Nat → Nat), v12 = .int .i64 y ∧ v13 = .int .i64 z ∧ Hid (Two w wr B gi gb k X Y) ∧ Hid (Mer P k s X Y q lo mid hi x y z))
                              (fun v12 _ _ => hi - (intOf v12).toNat)
                            case atStart => exact ⟨y, z, Y, rfl, rfl, HT4, HM⟩
                            case round =>
                              clear HT4 HM HXY m1 m2 m3 m4 m5
                              obtain ⟨y, z, Y, rfl, rfl, HT4, HM⟩ := hrel
                              have m1 := HM.out.ha
                              have m2 := HM.out.ha'
                              have m3 := HM.out.hb
                              have m4 := HM.out.hb'
                              have m5 := HM.out.hk
                              by_cases hy : y < hi
                              · obtain ⟨xy, hxy⟩ : ∃ t, t = X y := ⟨_, rfl⟩
                                have cy : wr.cell? ⟨gi, y, none⟩ = some (.int .i64 (xy : Int)) := by rw [hxy]; exact HT4.out.ni y (by omega)
                                have cz : wr.cell? ⟨gb, z, none⟩ = some (.int .i64 (Y z : Int)) := HT4.out.nb z (by omega)
                                have fz := HT4.out.fb z (by omega)
                                have HM2 : Hid (Mer P k s X (upd Y z xy) q lo mid hi x (y + 1) (z + 1)) := by
                                  rw [hxy]; exact HM.out.right HX.out hy (fun h => by omega)
                                have j1 : (y : Int) < (k : Int) := by omega
                                have j5 : (z : Int) < (k : Int) := by omega
                                clear hxy
                                go_wp2
                                go_roundw
                                case rel => exact ⟨y + 1, z + 1, upd Y z xy, by go_num, by go_num, HT4.out.put z xy, HM2⟩
                                case measure => simp [intOf]; omega
                              · have ky : ¬ (y : Int) < (hi : Int) := by omega
                                have HPa : Hid (Pass P k s X Y (q + 1)) := HM.out.fin (by omega) (by omega)
                                have HLO2 : Hid (lo + 2 * s = (q + 1) * (2 * s)) := by show lo + 2 * s = (q + 1) * (2 * s); rw [Nat.add_mul, Nat.one_mul, ← HLO.out]
                                go_wp2
                                go_roundw
                                case rel => exact ⟨q + 1, lo + 2 * s, Y, by go_num, by omega, HLO2, HT4, HPa⟩
                                case measure => simp [intOf]; omega
            · have kge : ¬ (lo : Int) < (k : Int) := by omega
              have HR2 : Hid (Runs P k (s * 2) Y) := HPass.out.fin HX.out (by have := HLO.out; omega)
              go_wp2
              go_roundw
              case rel => exact ⟨gb, gi, s * 2, Y, X, rfl, rfl, by go_num, by omega, by omega, HT3.out.swap, HR2⟩
              case measure => simp [intOf]; omega
        · have ksn : ¬ (s : Int) < (k : Int) := by omega
          obtain ⟨ρ, hρ⟩ := rank_of_runs HX.out (by omega : k ≤ s)
          have HR : Hid (Rank P k X ρ) := hρ
          clear hρ
          go_wp2_with (first
            | (at_make; refine wpList_make_full _ rfl _ _ 34 rfl wr.heap.size 3 i0 (.int .i64 0) 1 Try.underlying34 hi hz0 hz1 .i64 .i64 _ _ k rfl rfl (by omega) (by omega) (by rw [hz2]; omega) (by unfold maxLen; omega) (Nat.le_refl _) ?_; intro w3 hown hgrow))
          have hroom : Room w3 wr.heap.size k := by have := room_of_owns hown; simpa using this
          have hb3 := grown_below hgrow
          have hlt3 := owns_lt hown
          obtain ⟨g3, hg3⟩ : ∃ g, g = wr.heap.size := ⟨_, rfl⟩
          have HG3 : Hid (gi < g3 ∧ B ≤ g3) := by have := HT2.out.li; have := HT2.out.bi; constructor <;> omega
          simp only [← hg3] at hroom hb3 hlt3 ⊢
          obtain ⟨wb, hwb⟩ : ∃ x, x = wr := ⟨_, rfl⟩
          rw [← hwb] at HT2 hb3
          clear hown hgrow hg3 hwb
          go_loopw [15] (fun v wr => ∃ r : Nat, r ≤ k ∧ v = .int .i64 r ∧ Room wr g3 k ∧ (∀ q, q < r → wr.cell? ⟨g3, X q, none⟩ = some (.int .i64 (q : Int))) ∧ Go.RowKit.Below g3 wb wr ∧ g3 < wr.heap.size) (fun v _ => k - (intOf v).toNat)
          case atStart => exact ⟨0, Nat.zero_le _, rfl, hroom, fun j hj => by omega, hb3, hlt3⟩
          case round =>
            obtain ⟨r, hrk, rfl, hr, hN, hb, hs⟩ := hrel
            clear hroom hb3 hlt3
            by_cases hlt : r < k
            · obtain ⟨t, htr⟩ : ∃ s, s = X r := ⟨_, rfl⟩
              have htk : t < k := by rw [htr]; exact HR.out.sb r hlt
              have ck : wr.cell? ⟨gi, r, none⟩ = some (.int .i64 (t : Int)) := by
                rw [hb.cell (p := ⟨gi, r, none⟩) HG3.out.1, htr]; exact HT2.out.ni r hlt
              obtain ⟨⟨v, hv⟩, hf⟩ := hr t htk
              have R1 : Hid (Room (wr.setCell ⟨g3, t, none⟩ (.int .i64 (r : Int))) g3 k) := hr.setCell _ _
              have R2 : Hid (∀ q, q < r + 1 → (wr.setCell ⟨g3, t, none⟩ (.int .i64 (r : Int))).cell? ⟨g3, X q, none⟩ = some (.int .i64 (q : Int))) := fun q hq => by
                by_cases e : q = r
                · subst e; rw [← htr]; exact World.cell?_setCell_same _ _ _ hv
                · have hne : t ≠ X q := fun e2 => by
                    have := congrArg ρ e2
                    rw [htr, HR.out.rs r hlt, HR.out.rs q (by omega)] at this
                    omega
                  rw [near hne]; exact hN q (by omega)
              have R3 : Hid (Go.RowKit.Below g3 wb (wr.setCell ⟨g3, t, none⟩ (.int .i64 (r : Int)))) := hb.setCell (Nat.le_refl _) _
              have i1 : (t : Int) < (k : Int) := by omega
              clear hN hr htr
              go_wp2
              go_roundw
              case rel => exact ⟨r + 1, by omega, by go_num, R1.out, R2.out, R3.out, by simpa using hs⟩
              case measure => simp [intOf]; omega
            · obtain rfl : r = k := by omega
              have HF : Hid (RanksPost w r P (.returned (.slice (some ⟨g3, 0, none⟩) r r)) wr) :=
                ⟨g3, X, ρ, rfl, HR.out, fun i hi => by have := hN (ρ i) (HR.out.rb i hi); rw [HR.out.sr i hi] at this; exact this,
                  by rw [← HB.out]; exact HT2.out.below.trans (hb.mono HG3.out.2), by rw [← HB.out]; exact HG3.out.2, hs⟩
              clear hN hr
              go_wp2
              go_ret
              exact HF.out
end Go.Proofs.Qxb6605873a
