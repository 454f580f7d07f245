/-
  nextPowerOfTwo, breakPatterns at uint64.
-/
import Derived.Test.Qxb6605873aSort8
import Derived.Test.Qxb6605873aLen
set_option linter.unusedVariables false
namespace Go.Proofs.Qxb6605873a
open Go.RowKit Go.Sort

theorem bitLenAux_spec : ∀ (f x : Nat), x < 2 ^ f → x < 2 ^ Lib.bitLenAux f x ∧ (x ≠ 0 → 2 ^ Lib.bitLenAux f x ≤ 2 * x)
  | 0, x, h => by
    have : x = 0 := by simpa using h
    subst this
    simp [Lib.bitLenAux]
  | f + 1, x, h => by
    rw [Lib.bitLenAux]
    by_cases e : x = 0
    · rw [if_pos e]; simp [e]
    · rw [if_neg e]
      have h' : x / 2 < 2 ^ f := by rw [Nat.pow_succ] at h; omega
      obtain ⟨a, b⟩ := bitLenAux_spec f (x / 2) h'
      rw [Nat.pow_add, Nat.pow_one]
      refine ⟨by omega, fun _ => ?_⟩
      by_cases e2 : x / 2 = 0
      · have : Lib.bitLenAux f (x / 2) = 0 := by rw [e2]; cases f <;> simp [Lib.bitLenAux]
        rw [this]; omega
      · have := b e2; omega

theorem bitLen_spec (l : Nat) (h0 : 0 < l) (h1 : l ≤ 1048576) : l < 2 ^ Lib.bitLen l ∧ 2 ^ Lib.bitLen l ≤ 2 * l ∧ Lib.bitLen l ≤ 21 := by
  obtain ⟨a, b⟩ := bitLenAux_spec 64 l (by omega)
  have c : 2 ^ Lib.bitLen l ≤ 2 * l := b (by omega)
  refine ⟨a, c, ?_⟩
  by_cases e : Lib.bitLen l ≤ 21
  · exact e
  · have : 2 ^ 22 ≤ 2 ^ Lib.bitLen l := Nat.pow_le_pow_right (by omega) (by omega)
    omega

def PowPost (l : Nat) (w : World) (e : Ending) (w' : World) : Prop := ∃ M : Nat, e = .returned (.int .u64 M) ∧ w' = w ∧ 1 ≤ M ∧ M ≤ 2 * l

set_option maxRecDepth 100000 in
set_option maxHeartbeats 1000000 in
theorem nextPow_calls (l : Nat) (w : World) (h0 : 8 ≤ l) (h1 : l ≤ 1048576) : Calls Try.prog 42 #[.int .i64 l] w (PowPost l w) := by
  obtain ⟨s1, s2, s3⟩ := bitLen_spec l (by omega) h1
  obtain ⟨K, hK⟩ : ∃ K, K = Lib.bitLen l := ⟨_, rfl⟩
  rw [← hK] at s1 s2 s3
  have HK : Hid (Lib.bitLen l = K) := hK.symm
  have S2 : Hid (2 ^ K ≤ 2 * l) := s2
  clear hK s1 s2
  go_enter Try.func42, Try.ntmps42
  go_wp2_with fail
  refine (bits_Len (l : Int) _ (by omega) (by omega)).mono ?_
  rintro e w' ⟨rfl, rfl⟩
  rw [Int.toNat_natCast, HK.out]
  go_wp2
  go_ret
  obtain ⟨M, hM⟩ : ∃ M : Nat, M = 2 ^ K := ⟨_, rfl⟩
  have s2 := S2.out
  have s4 : 1 ≤ 2 ^ K := Nat.one_le_two_pow
  rw [← hM] at s2 s4
  have e : (2 : Int) ^ K = (M : Int) := by rw [hM]; simp
  have e' : IntKind.u64.wrap ((2 : Int) ^ K) = (M : Int) := by rw [e]; exact IntWalk.u64_in _ ⟨by omega, by omega⟩
  rw [e']
  exact ⟨M, rfl, rfl, s4, s2⟩

theorem and_range (r : Int) (M : Nat) (h1 : 1 ≤ M) (h2 : M ≤ 4194304) : ∃ o : Nat, bits BinOp.and IntKind.u64 r ((M : Int) - 1) = (o : Int) ∧ o < M := by
  unfold bits
  have hw : IntKind.u64.wrap (((BitVec.ofInt 64 r &&& BitVec.ofInt 64 ((M : Int) - 1)).toNat : Nat) : Int) = (((BitVec.ofInt 64 r &&& BitVec.ofInt 64 ((M : Int) - 1)).toNat : Nat) : Int) :=
    IntWalk.u64_in _ ⟨by omega, by have := (BitVec.ofInt 64 r &&& BitVec.ofInt 64 ((M : Int) - 1)).isLt; omega⟩
  refine ⟨(BitVec.ofInt 64 r &&& BitVec.ofInt 64 ((M : Int) - 1)).toNat, hw, ?_⟩
  rw [BitVec.toNat_and]
  have h3 := Nat.and_le_right (n := (BitVec.ofInt 64 r).toNat) (m := (BitVec.ofInt 64 ((M : Int) - 1)).toNat)
  have h4 : (BitVec.ofInt 64 ((M : Int) - 1)).toNat = M - 1 := by
    rw [BitVec.toNat_ofInt]; omega
  omega

theorem Rnd.make {w0 w : World} {blk l : Nat} {d : Array Int} (h : Arr w0 w blk d) (hl : l ≤ 1048576) : Rnd w0 (w.alloc (.cells #[.int .u64 (l : Int)] 87)) blk w.heap.size d l :=
  ⟨⟨fun t ht => by rw [World.cell?_alloc_past _ _ _ h.lt]; exact h.cell t ht, fun t ht => by rw [World.frozen?_alloc_past _ _ _ h.lt]; exact h.fro t ht, h.below.alloc (by have := h.lt; omega) _, by have := h.lt; simp; omega⟩,
    by rw [World.cell?_alloc_at _ _ _ _ rfl]; rfl, World.frozen?_alloc_at _ _ _ _ rfl, h.lt, by omega, by omega⟩

theorem Rnd.swp {w0 w : World} {b g : Nat} {d : Array Int} {v : Int} (h : Rnd w0 w b g d v) {i j : Nat} (hi : i < d.size) (hj : j < d.size) :
    Rnd w0 ((w.setCell ⟨b, i, none⟩ (.int .u64 d[j]!)).setCell ⟨b, j, none⟩ (.int .u64 d[i]!)).drew b g (swp d i j) v :=
  ⟨(h.arr.swp hi hj).drewN 1, by
    show ((w.setCell _ _).setCell _ _).cell? _ = _
    rw [World.cell?_setCell_other _ _ _ _ (fun e => by have := congrArg Addr.block e; have := h.far; simp at *), World.cell?_setCell_other _ _ _ _ (fun e => by have := congrArg Addr.block e; have := h.far; simp at *)]; exact h.cell,
    by show ((w.setCell _ _).setCell _ _).frozen? _ = _; rw [World.frozen?_setCell, World.frozen?_setCell]; exact h.fro, h.far, h.lo, h.hi⟩

def BrkPost (w0 : World) (blk a b : Nat) (d : Array Int) (e : Ending) (w' : World) : Prop :=
  e = .returned (.tuple #[]) ∧ ∃ d', Arr w0 w' blk d' ∧ PermIn a b d d'

set_option maxRecDepth 100000 in
set_option maxHeartbeats 2000000 in
theorem breakPatterns_calls (w0 : World) (blk c n a b : Nat) (d : Array Int) (w : World) (hd : d.size = n) (hH : Arr w0 w blk d) (hab : a + 12 < b) (hb : b ≤ n) (hsz : n ≤ 1048576) :
    Calls Try.prog 32 #[.slice (some ⟨blk, 0, none⟩) n c, .int .i64 a, .int .i64 b] w (BrkPost w0 blk a b d) := by
  obtain ⟨l, hl⟩ : ∃ l, l = b - a := ⟨_, rfl⟩
  obtain ⟨q, hq⟩ : ∃ q, q = l / 4 := ⟨_, rfl⟩
  obtain ⟨j, hj⟩ : ∃ j, j = a + q * 2 := ⟨_, rfl⟩
  have e1 : (b : Int) - a = l := by omega
  have e2 : (l : Int) / 4 = q := by omega
  have e4 : (a : Int) + q * 2 = j := by omega
  have hq2 : q ≤ n := by omega
  have hln : l ≤ n := by omega
  have hl8 : 12 < l := by omega
  have hj0 : 0 < j := by omega
  have hjn : j + 1 < n := by omega
  have HJ : Hid (a + 1 ≤ j ∧ j + 1 < b) := by constructor <;> omega
  have HL : Hid (l = b - a) := hl
  have HD : Hid (d.size = n) := hd
  have HA : Hid (Arr w0 w blk d) := hH
  clear hl hq hj hd hH
  go_enter Try.func32, Try.ntmps32
  go_wp2_with fail
  have HR0 : Hid (Rnd w0 (w.alloc (.cells #[.int .u64 (l : Int)] 87)) blk w.heap.size d l) := Rnd.make HA.out (by omega)
  obtain ⟨g, hg⟩ : ∃ g, g = w.heap.size := ⟨_, rfl⟩
  rw [← hg] at HR0
  rw [← hg]
  clear hg
  refine (nextPow_calls l _ (by omega) (by omega)).mono ?_
  rintro e w' ⟨M, rfl, rfl, hM1, hM2⟩
  have E4 : Hid ((a : Int) + q * 2 = j) := e4
  have hM3 : M ≤ 2097152 := by omega
  go_wp2
  go_loopw [9] (fun vi wr => ∃ (x : Nat) (dk : Array Int) (r : Int), vi = .int .i64 x ∧ j - 1 ≤ x ∧ x ≤ j + 2 ∧ dk.size = n ∧ PermIn a b d dk ∧ Rnd w0 wr blk g dk r) (fun vi _ => j + 2 - (intOf vi).toNat)
  case atStart => exact ⟨j - 1, d, l, by congr 1; omega, Nat.le_refl _, by omega, HD.out, permIn_refl _ _ _, HR0.out⟩
  case round =>
    obtain ⟨x, dk, r, rfl, hx1, hx2, hsk, hp, hR⟩ := hrel
    have HS : Hid (dk.size = n) := hsk
    have HP : Hid (PermIn a b d dk) := hp
    have HR : Hid (Rnd w0 wr blk g dk r) := hR
    clear hsk hp hR HR0 HA
    by_cases hxj : x ≤ j + 1
    · have HX : Hid (a ≤ x ∧ x < b) := by have := HJ.out; constructor <;> omega
      go_wp2_with fail
      refine (next_calls w0 blk g dk r _ HR.out).mono ?_
      rintro e w1 ⟨r1, rfl, hR1⟩
      have HR1 : Hid (Rnd w0 w1 blk g dk r1) := hR1
      obtain ⟨G, HG, _, _⟩ := hR1.arr.fam
      clear hR1 HR
      obtain ⟨o, ho, hoM⟩ := and_range r1 M hM1 (by omega)
      by_cases hol : l ≤ o
      · obtain ⟨o', ho'⟩ : ∃ o', o' = o - l := ⟨_, rfl⟩
        have e6 : (o : Int) - l = o' := by omega
        have hol' : o' < l := by omega
        clear ho'
        have hy : a + o' < b := by have := HL.out; omega
        obtain ⟨y, hyy⟩ : ∃ y, y = a + o' := ⟨_, rfl⟩
        have e7 : (a : Int) + o' = y := by omega
        have hyn : y < n := by omega
        have HY : Hid (a ≤ y ∧ y < b) := by constructor <;> omega
        have c1 := HR1.out.arr.cells HG.out HS.out x (by omega)
        have f1 := HR1.out.arr.fros HS.out x (by omega)
        have c2 := HR1.out.arr.cells HG.out HS.out y (by omega)
        have f2 := HR1.out.arr.fros HS.out y (by omega)
        obtain ⟨v1, hv1⟩ := cell?_setCell_some (p := ⟨blk, x, none⟩) (x := .int .u64 (G y)) c2
        obtain ⟨v2, hv2⟩ := cell?_setCell_some (p := ⟨blk, y, none⟩) (x := .int .u64 (G x)) c1
        have HR2 : Hid (Rnd w0 ((w1.setCell ⟨blk, x, none⟩ (.int .u64 (G y))).setCell ⟨blk, y, none⟩ (.int .u64 (G x))).drew blk g (swp dk x y) r1) := by
          rw [HG.out, HG.out]
          exact HR1.out.swp (by rw [HS.out]; omega) (by rw [HS.out]; omega)
        clear hyy hy
        go_wp2
        go_region
        all_goals go_wp2
        all_goals go_roundw
        case rel => exact ⟨x + 1, swp dk x y, r1, by go_num, by omega, by omega, by rw [size_swp]; exact HS.out, permIn_trans _ _ _ _ _ HP.out (swp_permIn _ _ _ _ _ HX.out.1 HX.out.2 HY.out.1 HY.out.2 (by rw [HS.out]; omega)), HR2.out⟩
        case measure => simp [intOf]; omega
      · have hol' : o < l := by omega
        have hy : a + o < b := by have := HL.out; omega
        obtain ⟨y, hyy⟩ : ∃ y, y = a + o := ⟨_, rfl⟩
        have e7 : (a : Int) + o = y := by omega
        have hyn : y < n := by omega
        have HY : Hid (a ≤ y ∧ y < b) := by constructor <;> omega
        have c1 := HR1.out.arr.cells HG.out HS.out x (by omega)
        have f1 := HR1.out.arr.fros HS.out x (by omega)
        have c2 := HR1.out.arr.cells HG.out HS.out y (by omega)
        have f2 := HR1.out.arr.fros HS.out y (by omega)
        obtain ⟨v1, hv1⟩ := cell?_setCell_some (p := ⟨blk, x, none⟩) (x := .int .u64 (G y)) c2
        obtain ⟨v2, hv2⟩ := cell?_setCell_some (p := ⟨blk, y, none⟩) (x := .int .u64 (G x)) c1
        have HR2 : Hid (Rnd w0 ((w1.setCell ⟨blk, x, none⟩ (.int .u64 (G y))).setCell ⟨blk, y, none⟩ (.int .u64 (G x))).drew blk g (swp dk x y) r1) := by
          rw [HG.out, HG.out]
          exact HR1.out.swp (by rw [HS.out]; omega) (by rw [HS.out]; omega)
        clear hyy hy
        go_wp2
        go_region
        all_goals go_wp2
        all_goals go_roundw
        case rel => exact ⟨x + 1, swp dk x y, r1, by go_num, by omega, by omega, by rw [size_swp]; exact HS.out, permIn_trans _ _ _ _ _ HP.out (swp_permIn _ _ _ _ _ HX.out.1 HX.out.2 HY.out.1 HY.out.2 (by rw [HS.out]; omega)), HR2.out⟩
        case measure => simp [intOf]; omega
    · go_wp2
      go_end0
      exact ⟨rfl, dk, HR.out.arr, HP.out⟩
end Go.Proofs.Qxb6605873a
