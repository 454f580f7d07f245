/-
  ZZcheckLookup.
-/
import Derived.Test.Qxb6605873aCheck
set_option linter.unusedVariables false
namespace Go.Proofs.Qxb6605873a
open Go.RowKit Go.Sort

abbrev layE (w : World) (E j : Nat) (p x o : Int) : World := (((((((w.setCell ⟨E, j * 7, none⟩ (.int .u32 p)).setCell ⟨E, j * 7 + 1, none⟩ (.int .u8 x)).setCell ⟨E, j * 7 + 2, none⟩ (.int .u8 0)).setCell ⟨E, j * 7 + 3, none⟩ (.int .u32 0)).setCell ⟨E, j * 7 + 4, none⟩ (.slice none 0 0)).setCell ⟨E, j * 7 + 5, none⟩ (.int .u32 0)).setCell ⟨E, j * 7 + 6, none⟩ (.int .i64 o))

theorem Room.layE {w : World} {E N : Nat} (h : Room w E N) (j : Nat) (p x o : Int) : Room (layE w E j p x o) E N :=
  ((((((h.setCell _ _).setCell _ _).setCell _ _).setCell _ _).setCell _ _).setCell _ _).setCell _ _
theorem below_layE {B : Nat} {w0 w : World} (h : Go.RowKit.Below B w0 w) {E : Nat} (hE : B ≤ E) (j : Nat) (p x o : Int) : Go.RowKit.Below B w0 (layE w E j p x o) :=
  ((((((h.setCell hE _).setCell hE _).setCell hE _).setCell hE _).setCell hE _).setCell hE _).setCell hE _

theorem Ents.grow {w : World} {E j n : Nat} {P X O : Nat → Int} {p x o : Int} (h : Ents w E j P X O) (hr : Room w E (n * 7)) (hj : j < n) (hp : P j = p) (hx : X j = x) (ho : O j = o) :
    Ents (layE w E j p x o) E (j + 1) P X O := by
  have r0 := hr
  have r1 := r0.setCell ⟨E, j * 7, none⟩ (.int .u32 p)
  have r2 := r1.setCell ⟨E, j * 7 + 1, none⟩ (.int .u8 x)
  have r3 := r2.setCell ⟨E, j * 7 + 2, none⟩ (.int .u8 0)
  have r4 := r3.setCell ⟨E, j * 7 + 3, none⟩ (.int .u32 0)
  have r5 := r4.setCell ⟨E, j * 7 + 4, none⟩ (.slice none 0 0)
  have r6 := r5.setCell ⟨E, j * 7 + 5, none⟩ (.int .u32 0)
  refine ⟨fun i hi => ?_, fun i hi => ?_, fun i hi => ?_, fun i hi => ?_, fun i hi => ?_, fun i hi => ?_, fun i hi => ?_⟩
  · by_cases e : i = j
    · subst e
      obtain ⟨⟨v, hv⟩, _⟩ := r0 (i * 7) (by omega)
      rw [near (by omega), near (by omega), near (by omega), near (by omega), near (by omega), near (by omega), hp]; exact World.cell?_setCell_same _ _ _ hv
    · rw [near (by omega), near (by omega), near (by omega), near (by omega), near (by omega), near (by omega), near (by omega)]; exact h.c0 i (by omega)
  · by_cases e : i = j
    · subst e
      obtain ⟨⟨v, hv⟩, _⟩ := r1 (i * 7 + 1) (by omega)
      rw [near (by omega), near (by omega), near (by omega), near (by omega), near (by omega), hx]; exact World.cell?_setCell_same _ _ _ hv
    · rw [near (by omega), near (by omega), near (by omega), near (by omega), near (by omega), near (by omega), near (by omega)]; exact h.c1 i (by omega)
  · by_cases e : i = j
    · subst e
      obtain ⟨⟨v, hv⟩, _⟩ := r2 (i * 7 + 2) (by omega)
      rw [near (by omega), near (by omega), near (by omega), near (by omega)]; exact World.cell?_setCell_same _ _ _ hv
    · rw [near (by omega), near (by omega), near (by omega), near (by omega), near (by omega), near (by omega), near (by omega)]; exact h.c2 i (by omega)
  · by_cases e : i = j
    · subst e
      obtain ⟨⟨v, hv⟩, _⟩ := r3 (i * 7 + 3) (by omega)
      rw [near (by omega), near (by omega), near (by omega)]; exact World.cell?_setCell_same _ _ _ hv
    · rw [near (by omega), near (by omega), near (by omega), near (by omega), near (by omega), near (by omega), near (by omega)]; exact h.c3 i (by omega)
  · by_cases e : i = j
    · subst e
      obtain ⟨⟨v, hv⟩, _⟩ := r4 (i * 7 + 4) (by omega)
      rw [near (by omega), near (by omega)]; exact World.cell?_setCell_same _ _ _ hv
    · rw [near (by omega), near (by omega), near (by omega), near (by omega), near (by omega), near (by omega), near (by omega)]; exact h.c4 i (by omega)
  · by_cases e : i = j
    · subst e
      obtain ⟨⟨v, hv⟩, _⟩ := r5 (i * 7 + 5) (by omega)
      rw [near (by omega)]; exact World.cell?_setCell_same _ _ _ hv
    · rw [near (by omega), near (by omega), near (by omega), near (by omega), near (by omega), near (by omega), near (by omega)]; exact h.c5 i (by omega)
  · by_cases e : i = j
    · subst e
      obtain ⟨⟨v, hv⟩, _⟩ := r6 (i * 7 + 6) (by omega)
      rw [ho]; exact World.cell?_setCell_same _ _ _ hv
    · rw [near (by omega), near (by omega), near (by omega), near (by omega), near (by omega), near (by omega), near (by omega)]; exact h.c6 i (by omega)

set_option maxRecDepth 100000 in
set_option maxHeartbeats 4000000 in
theorem zz_calls (a0 a1 a2 a3 a4 a5 : Option Addr) (c0 c1 c2 c3 c4 c5 m n : Nat) (A B C P X O : Nat → Int) (w : World) (hn : n ≤ 65536) (hmn : m ≤ n)
    (h0 : Rd .u32 w a0 m A) (h1 : Rd .u64 w a1 m B) (h2 : Rd .u32 w a2 m C) (h3 : Rd .u32 w a3 n P) (h4 : Rd .u8 w a4 n X) (h5 : Rd .i64 w a5 n O)
    (hP : ∀ i, i < n → 0 ≤ P i ∧ P i < 4294967296) (hX : ∀ i, i < n → 0 ≤ X i ∧ X i ≤ i ∧ X i < 256) (hO : ∀ i, i < n → 0 ≤ O i ∧ O i ≤ 9223372036854775807) :
    Calls Try.prog 18 #[.slice a0 m c0, .slice a1 m c1, .slice a2 m c2, .slice a3 n c3, .slice a4 n c4, .slice a5 n c5] w (CheckPost w m n A B C P X O) := by
  obtain ⟨i2, hi2, hz02, hz12, hz22⟩ := info_parts info53
  obtain ⟨i3, hi3, hz03, hz13, hz23⟩ := info_parts info60
  have H0 : Hid (Rd .u32 w a0 m A) := h0
  have H1 : Hid (Rd .u64 w a1 m B) := h1
  have H2 : Hid (Rd .u32 w a2 m C) := h2
  have H3 : Hid (Rd .u32 w a3 n P) := h3
  have H4 : Hid (Rd .u8 w a4 n X) := h4
  have H5 : Hid (Rd .i64 w a5 n O) := h5
  have HPb : Hid (∀ i, i < n → 0 ≤ P i ∧ P i < 4294967296) := hP
  have HXb : Hid (∀ i, i < n → 0 ≤ X i ∧ X i ≤ i ∧ X i < 256) := hX
  have HOb : Hid (∀ i, i < n → 0 ≤ O i ∧ O i ≤ 9223372036854775807) := hO
  clear h0 h1 h2 h3 h4 h5 hP hX hO
  go_enter Try.func18, Try.ntmps18
  go_wp2_with (first
    | (at_make; refine wpList_make_full _ rfl _ _ 51 rfl w.heap.size 53 i2 (.agg #[.int .u32 0, .int .u64 0, .int .u32 0]) 3 Try.underlying51 hi2 hz02 hz12 .i64 .i64 _ _ m rfl rfl (by omega) (by omega) (by rw [hz22]; omega) (by unfold maxLen; omega) (Nat.le_refl _) ?_; intro w1 hown hgrow))
  have hroom : Room w1 w.heap.size (m * 3) := room_of_owns hown
  have hb1 := grown_below hgrow
  have hlt := owns_lt hown
  obtain ⟨R, hR⟩ : ∃ g, g = w.heap.size := ⟨_, rfl⟩
  simp only [← hR] at hroom hb1 hlt ⊢
  have HR : Hid (R = w.heap.size) := hR
  clear hown hgrow hR hi2 hz02 hz12 hz22
  go_loopw [24] (fun v wr => ∃ k : Nat, k ≤ m ∧ v = .int .i64 k ∧ Room wr R (m * 3) ∧ LRows wr R k A B C ∧ Go.RowKit.Below R w wr ∧ R < wr.heap.size) (fun v _ => m - (intOf v).toNat)
  case atStart => exact ⟨0, Nat.zero_le _, rfl, hroom, ⟨fun j hj => by omega, fun j hj => by omega, fun j hj => by omega⟩, hb1, hlt⟩
  case round =>
    obtain ⟨k, hk, rfl, hr, hN, hb, hs⟩ := hrel
    clear hroom hb1 hlt
    by_cases hlt : k < m
    · obtain ⟨b0, rfl, hl0, hc0⟩ := H0.out (by omega)
      obtain ⟨b1, rfl, hl1, hc1⟩ := H1.out (by omega)
      obtain ⟨b2, rfl, hl2, hc2⟩ := H2.out (by omega)
      have d0 : wr.cell? ⟨b0, k, none⟩ = some (.int .u32 (A k)) := by rw [hb.cell (p := ⟨b0, k, none⟩) (by rw [HR.out]; exact hl0)]; exact hc0 k hlt
      have d1 : wr.cell? ⟨b1, k, none⟩ = some (.int .u64 (B k)) := by rw [hb.cell (p := ⟨b1, k, none⟩) (by rw [HR.out]; exact hl1)]; exact hc1 k hlt
      have d2 : wr.cell? ⟨b2, k, none⟩ = some (.int .u32 (C k)) := by rw [hb.cell (p := ⟨b2, k, none⟩) (by rw [HR.out]; exact hl2)]; exact hc2 k hlt
      obtain ⟨⟨v0, hv0⟩, hf0⟩ := hr (k * 3) (by omega)
      obtain ⟨⟨v1, hv1⟩, hf1⟩ := hr (k * 3 + 1) (by omega)
      obtain ⟨⟨v2, hv2⟩, hf2⟩ := hr (k * 3 + 2) (by omega)
      have R1 : Hid (Room (((wr.setCell ⟨R, k * 3, none⟩ (.int .u32 (A k))).setCell ⟨R, k * 3 + 1, none⟩ (.int .u64 (B k))).setCell ⟨R, k * 3 + 2, none⟩ (.int .u32 (C k))) R (m * 3)) := ((hr.setCell _ _).setCell _ _).setCell _ _
      have R2 : Hid (LRows (((wr.setCell ⟨R, k * 3, none⟩ (.int .u32 (A k))).setCell ⟨R, k * 3 + 1, none⟩ (.int .u64 (B k))).setCell ⟨R, k * 3 + 2, none⟩ (.int .u32 (C k))) R (k + 1) A B C) := hN.grow hr hlt rfl rfl rfl
      have R3 : Hid (Go.RowKit.Below R w (((wr.setCell ⟨R, k * 3, none⟩ (.int .u32 (A k))).setCell ⟨R, k * 3 + 1, none⟩ (.int .u64 (B k))).setCell ⟨R, k * 3 + 2, none⟩ (.int .u32 (C k)))) := ((hb.setCell (Nat.le_refl _) _).setCell (Nat.le_refl _) _).setCell (Nat.le_refl _) _
      have hk0 : (k : Int) < (m : Int) := by omega
      have hk1 : (0 : Int) ≤ (k : Int) := by omega
      clear hN hr H0 H1 H2 hc0 hc1 hc2 hb
      go_wp2
      go_region
      all_goals go_wp2
      all_goals go_roundw
      case rel => exact ⟨k + 1, by omega, by go_num, R1.out.drewN 1, ⟨fun i hi => R2.out.c0 i hi, fun i hi => R2.out.c1 i hi, fun i hi => R2.out.c2 i hi⟩, below_drewN R3.out 1, by simpa using hs⟩
      case measure => simp [intOf]; omega
    · obtain rfl : k = m := by omega
      have HN : Hid (LRows wr R k A B C) := hN
      have HB : Hid (Go.RowKit.Below R w wr) := hb
      clear hN hr hb
      go_wp2_with (first
        | (at_make; refine wpList_make_full _ rfl _ _ 54 rfl wr.heap.size 60 i3 (.agg #[.int .u32 0, .int .u8 0, .int .u8 0, .int .u32 0, .slice none 0 0, .int .u32 0, .int .i64 0]) 7 Try.underlying54 hi3 hz03 hz13 .i64 .i64 _ _ n rfl rfl (by omega) (by omega) (by rw [hz23]; omega) (by unfold maxLen; omega) (Nat.le_refl _) ?_; intro w4 hown hgrow))
      have hroom : Room w4 wr.heap.size (n * 7) := room_of_owns hown
      have hb4 := grown_below hgrow
      have hlt4 := owns_lt hown
      obtain ⟨E, hE⟩ : ∃ g, g = wr.heap.size := ⟨_, rfl⟩
      simp only [← hE] at hroom hb4 hlt4 hs ⊢
      have HEg : Hid (E = wr.heap.size) := hE
      obtain ⟨wb, hwb⟩ : ∃ x, x = wr := ⟨_, rfl⟩
      rw [← hwb] at HN HB hb4
      clear hown hgrow hE hi3 hz03 hz13 hz23 hwb
      go_loopw [49] (fun v wr => ∃ j : Nat, j ≤ n ∧ v = .int .i64 j ∧ Room wr E (n * 7) ∧ Ents wr E j P X O ∧ Go.RowKit.Below E wb wr ∧ E < wr.heap.size) (fun v _ => n - (intOf v).toNat)
      case atStart => exact ⟨0, Nat.zero_le _, rfl, hroom, ⟨fun j hj => by omega, fun j hj => by omega, fun j hj => by omega, fun j hj => by omega, fun j hj => by omega, fun j hj => by omega, fun j hj => by omega⟩, hb4, hlt4⟩
      case round =>
        obtain ⟨j, hj, rfl, hr, hN, hb, hs4⟩ := hrel
        clear hroom hb4 hlt4
        by_cases hlt : j < n
        · obtain ⟨b3, rfl, hl3, hc3⟩ := H3.out (by omega)
          obtain ⟨b4, rfl, hl4, hc4⟩ := H4.out (by omega)
          obtain ⟨b5, rfl, hl5, hc5⟩ := H5.out (by omega)
          have d3 : wr.cell? ⟨b3, j, none⟩ = some (.int .u32 (P j)) := by rw [hb.cell (p := ⟨b3, j, none⟩) (by show b3 < E; have := HR.out; omega), HB.out.cell (p := ⟨b3, j, none⟩) (by rw [HR.out]; exact hl3)]; exact hc3 j hlt
          have d4 : wr.cell? ⟨b4, j, none⟩ = some (.int .u8 (X j)) := by rw [hb.cell (p := ⟨b4, j, none⟩) (by show b4 < E; have := HR.out; omega), HB.out.cell (p := ⟨b4, j, none⟩) (by rw [HR.out]; exact hl4)]; exact hc4 j hlt
          have d5 : wr.cell? ⟨b5, j, none⟩ = some (.int .i64 (O j)) := by rw [hb.cell (p := ⟨b5, j, none⟩) (by show b5 < E; have := HR.out; omega), HB.out.cell (p := ⟨b5, j, none⟩) (by rw [HR.out]; exact hl5)]; exact hc5 j hlt
          obtain ⟨⟨v0, hv0⟩, hf0⟩ := hr (j * 7) (by omega)
          obtain ⟨⟨v1, hv1⟩, hf1⟩ := hr (j * 7 + 1) (by omega)
          obtain ⟨⟨v2, hv2⟩, hf2⟩ := hr (j * 7 + 2) (by omega)
          obtain ⟨⟨v3, hv3⟩, hf3⟩ := hr (j * 7 + 3) (by omega)
          obtain ⟨⟨v4, hv4⟩, hf4⟩ := hr (j * 7 + 4) (by omega)
          obtain ⟨⟨v5, hv5⟩, hf5⟩ := hr (j * 7 + 5) (by omega)
          obtain ⟨⟨v6, hv6⟩, hf6⟩ := hr (j * 7 + 6) (by omega)
          have hk0 : (j : Int) < (n : Int) := by omega
          have hk1 : (0 : Int) ≤ (j : Int) := by omega
          have R1 : Hid (Room (layE wr E j (P j) (X j) (O j)) E (n * 7)) := hr.layE _ _ _ _
          have R2 : Hid (Ents (layE wr E j (P j) (X j) (O j)) E (j + 1) P X O) := hN.grow hr hlt rfl rfl rfl
          have R3 : Hid (Go.RowKit.Below E wb (layE wr E j (P j) (X j) (O j))) := below_layE hb (Nat.le_refl _) _ _ _ _
          have R1 : Hid (Room (layE wr E j (P j) (X j) (O j)) E (n * 7)) := hr.layE _ _ _ _
          have R2 : Hid (Ents (layE wr E j (P j) (X j) (O j)) E (j + 1) P X O) := hN.grow hr hlt rfl rfl rfl
          have R3 : Hid (Go.RowKit.Below E wb (layE wr E j (P j) (X j) (O j))) := below_layE hb (Nat.le_refl _) _ _ _ _
          clear hN hr hc3 hc4 hc5 H3 H4 H5 hb
          go_wp2
          go_region
          all_goals go_wp2
          all_goals go_roundw
          case rel => exact ⟨j + 1, by omega, by go_num, R1.out.drewN 1, R2.out.below (B := E + 1) (below_drewN (Go.RowKit.Below.refl _ _) 1) (by omega), below_drewN R3.out 1, by simpa using hs4⟩
          case measure => simp [intOf]; omega
        · obtain rfl : j = n := by omega
          have HEn : Hid (Ents wr E j P X O) := hN
          have HL : Hid (LRows wr R k A B C) := HN.out.below hb hs
          have HB2 : Hid (Go.RowKit.Below R w wr) := HB.out.trans (hb.mono (by omega))
          clear hN hr hb HN HB
          go_wp2_with fail
          have hRs : R < wr.heap.size := by omega
          refine (check_calls wr.heap.size R E k j k j A B C P X O _ (by simp) (by simp; omega) (by simp; omega) (by omega) hmn (by rw [World.cell?_alloc_at _ _ _ _ rfl]; rfl) (by rw [World.cell?_alloc_at _ _ _ _ rfl]; rfl) (HL.out.alloc _)
            (HEn.out.below (B := wr.heap.size) ((Go.RowKit.Below.refl _ _).alloc (Nat.le_refl _) _) hs4) HPb.out HXb.out HOb.out).mono ?_
          rintro e w5 ⟨σ, ρ, r, ok, rfl, q1, q2, q3⟩
          have HF : Hid (CheckPost w k j A B C P X O (.returned (.tuple #[.int .i64 r, .bool ok])) w5) :=
            ⟨σ, ρ, r, ok, rfl, q1, q2, (HR.out ▸ (HB2.out.alloc (by omega) _) : Go.RowKit.Below w.heap.size w _).trans (q3.mono (by have := HR.out; simp; omega))⟩
          clear q1 q2 q3 HL HEn
          go_wp2
          go_ret2
          exact HF.out
end Go.Proofs.Qxb6605873a
