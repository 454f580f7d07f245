/-
  lookupRows.
-/
import Derived.Test.Qxb6605873aRank
set_option linter.unusedVariables false
namespace Go.Proofs.Qxb6605873a
open Go.RowKit Go.Sort

/-- n stored entries in block b. -/
structure Ents (w : World) (b n : Nat) (P X O : Nat → Int) : Prop where
  c0 : ∀ i, i < n → w.cell? ⟨b, i * 7, none⟩ = some (.int .u32 (P i))
  c1 : ∀ i, i < n → w.cell? ⟨b, i * 7 + 1, none⟩ = some (.int .u8 (X i))
  c2 : ∀ i, i < n → w.cell? ⟨b, i * 7 + 2, none⟩ = some (.int .u8 0)
  c3 : ∀ i, i < n → w.cell? ⟨b, i * 7 + 3, none⟩ = some (.int .u32 0)
  c4 : ∀ i, i < n → w.cell? ⟨b, i * 7 + 4, none⟩ = some (.slice none 0 0)
  c5 : ∀ i, i < n → w.cell? ⟨b, i * 7 + 5, none⟩ = some (.int .u32 0)
  c6 : ∀ i, i < n → w.cell? ⟨b, i * 7 + 6, none⟩ = some (.int .i64 (O i))

theorem Ents.below {w w' : World} {b n B : Nat} {P X O : Nat → Int} (h : Ents w b n P X O) (hb : Go.RowKit.Below B w w') (hB : b < B) : Ents w' b n P X O :=
  ⟨fun i hi => by rw [hb.cell (p := ⟨b, i * 7, none⟩) hB]; exact h.c0 i hi, fun i hi => by rw [hb.cell (p := ⟨b, i * 7 + 1, none⟩) hB]; exact h.c1 i hi,
   fun i hi => by rw [hb.cell (p := ⟨b, i * 7 + 2, none⟩) hB]; exact h.c2 i hi, fun i hi => by rw [hb.cell (p := ⟨b, i * 7 + 3, none⟩) hB]; exact h.c3 i hi,
   fun i hi => by rw [hb.cell (p := ⟨b, i * 7 + 4, none⟩) hB]; exact h.c4 i hi, fun i hi => by rw [hb.cell (p := ⟨b, i * 7 + 5, none⟩) hB]; exact h.c5 i hi,
   fun i hi => by rw [hb.cell (p := ⟨b, i * 7 + 6, none⟩) hB]; exact h.c6 i hi⟩

theorem or_key (p : Int) (k : Nat) (h0 : 0 ≤ p) (h1 : p < 4294967296) (hk : k ≤ 1048576) : bits BinOp.or IntKind.u64 (p * 4294967296) (k : Int) = p * 4294967296 + k :=
  bits_join .u64 64 (by decide) (fun n a b => IntWalk.u64_in n ⟨a, by omega⟩) 32 _ _ (by omega) (by omega) (by omega) (by omega) (by omega) (by omega)

/-- n rows of a lookup table in block b. -/
structure LRows (w : World) (b n : Nat) (A B C : Nat → Int) : Prop where
  c0 : ∀ r, r < n → w.cell? ⟨b, r * 3, none⟩ = some (.int .u32 (A r))
  c1 : ∀ r, r < n → w.cell? ⟨b, r * 3 + 1, none⟩ = some (.int .u64 (B r))
  c2 : ∀ r, r < n → w.cell? ⟨b, r * 3 + 2, none⟩ = some (.int .u32 (C r))

theorem LRows.below {w w' : World} {b n B : Nat} {A B' C : Nat → Int} (h : LRows w b n A B' C) (hb : Go.RowKit.Below B w w') (hB : b < B) : LRows w' b n A B' C :=
  ⟨fun i hi => by rw [hb.cell (p := ⟨b, i * 3, none⟩) hB]; exact h.c0 i hi, fun i hi => by rw [hb.cell (p := ⟨b, i * 3 + 1, none⟩) hB]; exact h.c1 i hi,
   fun i hi => by rw [hb.cell (p := ⟨b, i * 3 + 2, none⟩) hB]; exact h.c2 i hi⟩

theorem cell_alloc {w : World} {o : Obj} {b i : Nat} {s : Option Nat} {v : Value} (h : w.cell? ⟨b, i, s⟩ = some v) : (w.alloc o).cell? ⟨b, i, s⟩ = some v := by
  have hb : b < w.heap.size := World.block_lt_of_cell? _ _ h
  rw [(Go.RowKit.Below.refl w.heap.size w |>.alloc (Nat.le_refl _) o).cell (p := ⟨b, i, s⟩) hb]; exact h
theorem Room.alloc {w : World} {g n : Nat} (h : Room w g n) (o : Obj) : Room (w.alloc o) g n := fun j hj => by
  obtain ⟨⟨v, hv⟩, hf⟩ := h j hj
  have hb : g < w.heap.size := World.block_lt_of_cell? _ _ hv
  exact ⟨⟨v, cell_alloc hv⟩, by rw [(Go.RowKit.Below.refl w.heap.size w |>.alloc (Nat.le_refl _) o).frozen (p := ⟨g, j, none⟩) hb]; exact hf⟩
theorem Nums.alloc {k : IntKind} {w : World} {b n : Nat} {K : Nat → Int} (h : Nums k w b n K) (o : Obj) : Nums k (w.alloc o) b n K := fun j hj => cell_alloc (h j hj)

theorem LRows.alloc {w : World} {b n : Nat} {A B C : Nat → Int} (h : LRows w b n A B C) (o : Obj) : LRows (w.alloc o) b n A B C :=
  ⟨fun i hi => cell_alloc (h.c0 i hi), fun i hi => cell_alloc (h.c1 i hi), fun i hi => cell_alloc (h.c2 i hi)⟩

theorem LRows.grow {w : World} {g q r : Nat} {A B C : Nat → Int} {x y z : Int} (h : LRows w g q A B C) (hr : Room w g (r * 3)) (hq : q < r) (hx : A q = x) (hy : B q = y) (hz : C q = z) :
    LRows (((w.setCell ⟨g, q * 3, none⟩ (.int .u32 x)).setCell ⟨g, q * 3 + 1, none⟩ (.int .u64 y)).setCell ⟨g, q * 3 + 2, none⟩ (.int .u32 z)) g (q + 1) A B C := by
  obtain ⟨⟨v0, hv0⟩, _⟩ := hr (q * 3) (by omega)
  obtain ⟨⟨v1, hv1⟩, _⟩ := (hr.setCell ⟨g, q * 3, none⟩ (.int .u32 x)) (q * 3 + 1) (by omega)
  obtain ⟨⟨v2, hv2⟩, _⟩ := ((hr.setCell ⟨g, q * 3, none⟩ (.int .u32 x)).setCell ⟨g, q * 3 + 1, none⟩ (.int .u64 y)) (q * 3 + 2) (by omega)
  refine ⟨fun i hi => ?_, fun i hi => ?_, fun i hi => ?_⟩
  · by_cases e : i = q
    · subst e; rw [near (by omega), near (by omega), hx]; exact World.cell?_setCell_same _ _ _ hv0
    · rw [near (by omega), near (by omega), near (by omega)]; exact h.c0 i (by omega)
  · by_cases e : i = q
    · subst e; rw [near (by omega), hy]; exact World.cell?_setCell_same _ _ _ hv1
    · rw [near (by omega), near (by omega), near (by omega)]; exact h.c1 i (by omega)
  · by_cases e : i = q
    · subst e; rw [hz]; exact World.cell?_setCell_same _ _ _ hv2
    · rw [near (by omega), near (by omega), near (by omega)]; exact h.c2 i (by omega)

/-- The third cell of row q laid once more. -/
theorem LRows.fix {w : World} {g q r : Nat} {A B C C' : Nat → Int} {z : Int} (h : LRows w g (q + 1) A B C) (hC : ∀ i, i < q → C' i = C i) (hz : C' q = z) :
    LRows (w.setCell ⟨g, q * 3 + 2, none⟩ (.int .u32 z)) g (q + 1) A B C' := by
  refine ⟨fun i hi => ?_, fun i hi => ?_, fun i hi => ?_⟩
  · rw [near (by omega)]; exact h.c0 i hi
  · rw [near (by omega)]; exact h.c1 i hi
  · by_cases e : i = q
    · subst e; rw [hz]; exact World.cell?_setCell_same _ _ _ (h.c2 i hi)
    · rw [near (by omega), hC i (by omega)]; exact h.c2 i hi

/-- What lookupRows hands back. -/
def wantC (X : Nat → Int) (σ ρ : Nat → Nat) (r : Nat) : Int := if X (σ r) = 0 then 4294967295 else (ρ (σ r - (X (σ r)).toNat) : Int)
def LookPost (w : World) (n : Nat) (P X O : Nat → Int) (e : Ending) (w' : World) : Prop :=
  ∃ (g : Nat) (σ ρ : Nat → Nat), e = .returned (.slice (some ⟨g, 0, none⟩) n n) ∧ Rank P n σ ρ ∧ LRows w' g n (fun r => P (σ r)) (fun r => O (σ r)) (wantC X σ ρ) ∧
    Go.RowKit.Below w.heap.size w w' ∧ w.heap.size ≤ g ∧ g < w'.heap.size

set_option maxRecDepth 100000 in
set_option maxHeartbeats 4000000 in
theorem look_calls (E n c : Nat) (P X O : Nat → Int) (w : World) (hE : E < w.heap.size) (hn : n ≤ 65536) (hH : Ents w E n P X O)
    (hP : ∀ i, i < n → 0 ≤ P i ∧ P i < 4294967296) (hX : ∀ i, i < n → 0 ≤ X i ∧ X i ≤ i ∧ X i < 256) (hO : ∀ i, i < n → 0 ≤ O i ∧ O i ≤ 9223372036854775807) :
    Calls Try.prog 26 #[.slice (some ⟨E, 0, none⟩) n c] w (LookPost w n P X O) := by
  obtain ⟨i0, hi, hz0, hz1, hz2⟩ := info_parts info23
  obtain ⟨i1, hi', hz0', hz1', hz2'⟩ := info_parts info43
  obtain ⟨i2, hi2, hz02, hz12, hz22⟩ := info_parts info53
  have HH : Hid (Ents w E n P X O) := hH
  have HPb : Hid (∀ i, i < n → 0 ≤ P i ∧ P i < 4294967296) := hP
  have HXb : Hid (∀ i, i < n → 0 ≤ X i ∧ X i ≤ i ∧ X i < 256) := hX
  have HOb : Hid (∀ i, i < n → 0 ≤ O i ∧ O i ≤ 9223372036854775807) := hO
  clear hH hP hX hO
  go_enter Try.func26, Try.ntmps26
  go_wp2_with (first
    | (at_make; refine wpList_make_full _ rfl _ _ 33 rfl w.heap.size 23 i0 (.int .u64 0) 1 Try.underlying33 hi hz0 hz1 .i64 .i64 _ _ n rfl rfl (by omega) (by omega) (by rw [hz2]; omega) (by unfold maxLen; omega) (Nat.le_refl _) ?_; intro w1 hown hgrow))
  have hroom : Room w1 w.heap.size n := by have := room_of_owns hown; simpa using this
  have hb1 := grown_below hgrow
  have hlt := owns_lt hown
  obtain ⟨g, hg⟩ : ∃ g, g = w.heap.size := ⟨_, rfl⟩
  simp only [← hg] at hroom hb1 hlt hE ⊢
  have HG : Hid (g = w.heap.size) := hg
  clear hown hgrow hg hi hz0 hz1 hz2
  go_loopw [19] (fun v wr => ∃ k : Nat, k ≤ n ∧ v = .int .i64 k ∧ Room wr g n ∧ Nums .u64 wr g k (key P) ∧ Go.RowKit.Below g w wr ∧ g < wr.heap.size) (fun v _ => n - (intOf v).toNat)
  case atStart => exact ⟨0, Nat.zero_le _, rfl, hroom, fun j hj => by omega, hb1, hlt⟩
  case round =>
    obtain ⟨k, hk, rfl, hr, hN, hb, hs⟩ := hrel
    clear hroom hb1 hlt
    by_cases hlt : k < n
    · have HE := HH.out.below hb hE
      have c0 := HE.c0 k hlt
      have c1 := HE.c1 k hlt
      have c2 := HE.c2 k hlt
      have c3 := HE.c3 k hlt
      have c4 := HE.c4 k hlt
      have c5 := HE.c5 k hlt
      have c6 := HE.c6 k hlt
      obtain ⟨p1, p2⟩ := HPb.out k hlt
      obtain ⟨⟨v, hv⟩, hf⟩ := hr k hlt
      have ho := or_key (P k) k p1 p2 (by omega)
      have R1 : Hid (∀ o, Room ((wr.setCell ⟨g, k, none⟩ (.int .u64 (P k * 4294967296 + k))).alloc o) g n) := fun o => (hr.setCell _ _).alloc o
      have R2 : Hid (∀ o, Nums .u64 ((wr.setCell ⟨g, k, none⟩ (.int .u64 (P k * 4294967296 + k))).alloc o) g (k + 1) (key P)) := fun o => (hN.grow hr hlt rfl).alloc o
      have R3 : Hid (∀ o, Go.RowKit.Below g w ((wr.setCell ⟨g, k, none⟩ (.int .u64 (P k * 4294967296 + k))).alloc o)) := fun o => (hb.setCell (Nat.le_refl _) _).alloc (by simp; omega) o
      clear hN hr HE
      go_wp2
      go_roundw
      case rel => exact ⟨k + 1, by omega, by go_num, R1.out _, R2.out _, R3.out _, by simp; omega⟩
      case measure => simp [intOf]; omega
    · obtain rfl : k = n := by omega
      have HA : Hid (Arr w wr g (keysArr P k)) := ⟨fun t ht => by rw [keysArr_size] at ht; rw [keysArr_get ht]; exact hN t ht, fun t ht => by rw [keysArr_size] at ht; exact (hr t ht).2, hb, hs⟩
      clear hr hN hb hs
      go_wp2_with fail
      refine (sort_calls w g k k (keysArr P k) _ keysArr_size HA.out (by omega)).mono ?_
      rintro e w2 ⟨rfl, R, hA2, hD2⟩
      obtain ⟨hRs, σ, ρ, hR, hRk⟩ := rank_of_sorted (by omega : k ≤ 1048576) hD2
      have HR : Hid (Rank P k σ ρ) := hR
      have HK : Hid (∀ r, r < k → R[r]! = key P (σ r)) := hRk
      have HA2 : Hid (Arr w w2 g R) := hA2
      have HRs : Hid (R.size = k) := hRs
      have hgw2 := hA2.lt
      clear hA2 hD2 hR hRk hRs HA
      go_wp2_with (first
        | (at_make; refine wpList_make_full _ rfl _ _ 32 rfl w2.heap.size 43 i1 (.int .u32 0) 1 Try.underlying32 hi' hz0' hz1' .i64 .i64 _ _ k rfl rfl (by omega) (by omega) (by rw [hz2']; omega) (by unfold maxLen; omega) (Nat.le_refl _) ?_; intro w3 hown hgrow))
      have hroom : Room w3 w2.heap.size k := by have := room_of_owns hown; simpa using this
      have hb3 := grown_below hgrow
      have hlt3 := owns_lt hown
      obtain ⟨g2, hg2⟩ : ∃ g2, g2 = w2.heap.size := ⟨_, rfl⟩
      simp only [← hg2] at hroom hb3 hlt3 hgw2 ⊢
      have HG2 : Hid (g2 = w2.heap.size) := hg2
      clear hown hgrow hg2 hi' hz0' hz1' hz2'
      go_loopw [43] (fun v wr => ∃ r : Nat, r ≤ k ∧ v = .int .i64 r ∧ Room wr g2 k ∧ (∀ q, q < r → wr.cell? ⟨g2, σ q, none⟩ = some (.int .u32 (q : Int))) ∧ Go.RowKit.Below g2 w2 wr ∧ g2 < wr.heap.size) (fun v _ => k - (intOf v).toNat)
      case atStart => exact ⟨0, Nat.zero_le _, rfl, hroom, fun j hj => by omega, hb3, hlt3⟩
      case round =>
        obtain ⟨r, hrk, rfl, hr, hN, hb, hs⟩ := hrel
        clear hroom hb3 hlt3
        by_cases hlt : r < k
        · obtain ⟨s, hsr⟩ : ∃ s, s = σ r := ⟨_, rfl⟩
          have hsk : s < k := by rw [hsr]; exact HR.out.sb r hlt
          have ck : wr.cell? ⟨g, r, none⟩ = some (.int .u64 (key P s)) := by
            rw [hb.cell (p := ⟨g, r, none⟩) hgw2, hsr, ← HK.out r hlt]; exact HA2.out.cell r (by rw [HRs.out]; exact hlt)
          have ew : IntKind.u32.wrap (key P s) = (s : Int) := by
            rw [IntKind.wrap_u32]; unfold key; omega
          obtain ⟨⟨v, hv⟩, hf⟩ := hr s hsk
          have R1 : Hid (Room (wr.setCell ⟨g2, s, none⟩ (.int .u32 (r : Int))) g2 k) := hr.setCell _ _
          have R2 : Hid (∀ q, q < r + 1 → (wr.setCell ⟨g2, s, none⟩ (.int .u32 (r : Int))).cell? ⟨g2, σ q, none⟩ = some (.int .u32 (q : Int))) := fun q hq => by
            by_cases e : q = r
            · subst e; rw [← hsr]; exact World.cell?_setCell_same _ _ _ hv
            · have hne : s ≠ σ q := fun e2 => by
                have := congrArg ρ e2
                rw [hsr, HR.out.rs r hlt, HR.out.rs q (by omega)] at this
                omega
              rw [near hne]; exact hN q (by omega)
          have R3 : Hid (Go.RowKit.Below g2 w2 (wr.setCell ⟨g2, s, none⟩ (.int .u32 (r : Int)))) := hb.setCell (Nat.le_refl _) _
          clear hN hr hsr
          go_wp2
          go_roundw
          case rel => exact ⟨r + 1, by omega, by go_num, R1.out, R2.out, R3.out, by simpa using hs⟩
          case measure => simp [intOf]; omega
        · obtain rfl : r = k := by omega
          have HN2 : Hid (Nums .u32 wr g2 r (fun i => (ρ i : Int))) := fun i hi => by
            have := hN (ρ i) (HR.out.rb i hi)
            rw [HR.out.sr i hi] at this; exact this
          have HKy : Hid (Nums .u64 wr g r (fun q => key P (σ q))) := fun q hq => by
            show wr.cell? _ = some (Value.int .u64 (key P (σ q)))
            rw [hb.cell (p := ⟨g, q, none⟩) hgw2, ← HK.out q hq]; exact HA2.out.cell q (by rw [HRs.out]; exact hq)
          have HE : Hid (Ents wr E r P X O) := (HH.out.below HA2.out.below hE).below hb (by omega)
          have HB0 : Hid (Go.RowKit.Below g w wr) := HA2.out.below.trans (hb.mono (by omega))
          clear hr hN HK HA2 HRs hb HH HG2
          go_wp2_with (first
            | (at_make; refine wpList_make_full _ rfl _ _ 51 rfl wr.heap.size 53 i2 (.agg #[.int .u32 0, .int .u64 0, .int .u32 0]) 3 Try.underlying51 hi2 hz02 hz12 .i64 .i64 _ _ r rfl rfl (by omega) (by omega) (by rw [hz22]; omega) (by unfold maxLen; omega) (Nat.le_refl _) ?_; intro w4 hown hgrow))
          have hroom : Room w4 wr.heap.size (r * 3) := room_of_owns hown
          have hb4 := grown_below hgrow
          have hlt4 := owns_lt hown
          obtain ⟨g3, hg3⟩ : ∃ g3, g3 = wr.heap.size := ⟨_, rfl⟩
          simp only [← hg3] at hroom hb4 hlt4 hs ⊢
          have HG3 : Hid (g3 = wr.heap.size) := hg3
          clear hown hgrow hg3 hi2 hz02 hz12 hz22
          obtain ⟨wb, hwb⟩ : ∃ x, x = wr := ⟨_, rfl⟩
          rw [← hwb] at HN2 HKy HE HB0 hb4
          clear hwb HG3
          go_loopw [60] (fun v wx => ∃ q : Nat, q ≤ r ∧ v = .int .i64 q ∧ Room wx g3 (r * 3) ∧ LRows wx g3 q (fun r => P (σ r)) (fun r => O (σ r)) (wantC X σ ρ) ∧ Go.RowKit.Below g3 wb wx ∧ g3 < wx.heap.size) (fun v _ => r - (intOf v).toNat)
          case atStart => exact ⟨0, Nat.zero_le _, rfl, hroom, ⟨fun j hj => by omega, fun j hj => by omega, fun j hj => by omega⟩, hb4, hlt4⟩
          case round =>
            obtain ⟨q, hqr, rfl, hr, hN, hb, hs2⟩ := hrel
            clear hroom hb4 hlt4
            by_cases hlt : q < r
            · obtain ⟨s, hsr⟩ : ∃ s, s = σ q := ⟨_, rfl⟩
              have hsk : s < r := by rw [hsr]; exact HR.out.sb q hlt
              have ck := HKy.out.below hb (by omega) q hlt
              simp only [← hsr] at ck
              have ew : IntKind.u32.wrap (key P s) = (s : Int) := by
                rw [IntKind.wrap_u32]; unfold key; omega
              have em : key P s % 4294967296 = (s : Int) := by unfold key; omega
              have HSR : Hid (s = σ q) := hsr
              clear hsr
              have HE2 := HE.out.below hb (by omega)
              have c0 := HE2.c0 s hsk
              have c1 := HE2.c1 s hsk
              have c2 := HE2.c2 s hsk
              have c3 := HE2.c3 s hsk
              have c4 := HE2.c4 s hsk
              have c5 := HE2.c5 s hsk
              have c6 := HE2.c6 s hsk
              obtain ⟨x0, x1, x2⟩ := HXb.out s hsk
              obtain ⟨o0, o1⟩ := HOb.out s hsk
              obtain ⟨⟨v0, hv0⟩, hf0⟩ := hr (q * 3) (by omega)
              obtain ⟨⟨v1, hv1⟩, hf1⟩ := hr (q * 3 + 1) (by omega)
              obtain ⟨⟨v2, hv2⟩, hf2⟩ := hr (q * 3 + 2) (by omega)
              clear HE2
              have hb3 : Hid (Go.RowKit.Below g3 wb (((wr.setCell ⟨g3, q * 3, none⟩ (.int .u32 (P s))).setCell ⟨g3, q * 3 + 1, none⟩ (.int .u64 (O s))).setCell ⟨g3, q * 3 + 2, none⟩ (.int .u32 4294967295))) :=
                ((hb.setCell (Nat.le_refl _) _).setCell (Nat.le_refl _) _).setCell (Nat.le_refl _) _
              have hr3 : Hid (Room (((wr.setCell ⟨g3, q * 3, none⟩ (.int .u32 (P s))).setCell ⟨g3, q * 3 + 1, none⟩ (.int .u64 (O s))).setCell ⟨g3, q * 3 + 2, none⟩ (.int .u32 4294967295)) g3 (r * 3)) :=
                ((hr.setCell _ _).setCell _ _).setCell _ _
              by_cases hx : X s = 0
              · have hx' : (X s == 0) = true := by simp [hx]
                have hN3 : Hid (LRows (((wr.setCell ⟨g3, q * 3, none⟩ (.int .u32 (P s))).setCell ⟨g3, q * 3 + 1, none⟩ (.int .u64 (O s))).setCell ⟨g3, q * 3 + 2, none⟩ (.int .u32 4294967295)) g3 (q + 1) (fun r => P (σ r)) (fun r => O (σ r)) (wantC X σ ρ)) :=
                  hN.grow hr hlt (by rw [HSR.out]) (by rw [HSR.out]) (by unfold wantC; rw [← HSR.out, if_pos hx])
                clear hN hr
                go_wp2
                go_roundw
                case rel => exact ⟨q + 1, by omega, by go_num, hr3.out.alloc _, hN3.out.alloc _, hb3.out.alloc (by simp; omega) _, by simp; omega⟩
                case measure => simp [intOf]; omega
              · have hx' : (X s == 0) = false := by simp [hx]
                obtain ⟨x, hxx⟩ : ∃ x : Nat, x = (X s).toNat := ⟨_, rfl⟩
                have ex : X s = (x : Int) := by omega
                obtain ⟨t, ht⟩ : ∃ t : Nat, t = s - x := ⟨_, rfl⟩
                have et : (s : Int) - x = t := by omega
                have htr : t < r := by omega
                have cr0 : wr.cell? ⟨g2, t, none⟩ = some (.int .u32 (ρ t : Int)) := HN2.out.below hb (by omega) t htr
                have cr : (((wr.setCell ⟨g3, q * 3, none⟩ (.int .u32 (P s))).setCell ⟨g3, q * 3 + 1, none⟩ (.int .u64 (O s))).setCell ⟨g3, q * 3 + 2, none⟩ (.int .u32 4294967295)).cell? ⟨g2, t, none⟩ = some (.int .u32 (ρ t : Int)) := by
                  rw [far (by omega), far (by omega), far (by omega)]; exact cr0
                have hg2s : g2 < wr.heap.size := by omega
                have hN3 : Hid (LRows ((((wr.setCell ⟨g3, q * 3, none⟩ (.int .u32 (P s))).setCell ⟨g3, q * 3 + 1, none⟩ (.int .u64 (O s))).setCell ⟨g3, q * 3 + 2, none⟩ (.int .u32 4294967295)).setCell ⟨g3, q * 3 + 2, none⟩ (.int .u32 (ρ t : Int))) g3 (q + 1) (fun r => P (σ r)) (fun r => O (σ r)) (wantC X σ ρ)) := by
                  refine (LRows.grow (C := fun i => if i = q then 4294967295 else wantC X σ ρ i) ⟨hN.c0, hN.c1, fun i hi => ?_⟩ hr hlt (by rw [HSR.out]) (by rw [HSR.out]) (by simp)).fix (r := r) (fun i hi => by simp [show i ≠ q by omega]) ?_
                  · have e : i ≠ q := by omega
                    simp only [e, if_false]; exact hN.c2 i hi
                  · unfold wantC; rw [← HSR.out, if_neg hx, ← hxx, ← ht]
                rw [ex] at c1 hx' hx
                clear hN hr ex ht hxx cr0
                go_wp2
                go_roundw
                case rel => exact ⟨q + 1, by omega, by go_num, (hr3.out.setCell _ _).alloc _, hN3.out.alloc _, (hb3.out.setCell (Nat.le_refl _) _).alloc (by simp; omega) _, by simp; omega⟩
                case measure => simp [intOf]; omega
            · obtain rfl : q = r := by omega
              have HF : Hid (LookPost w q P X O (.returned (.slice (some ⟨g3, 0, none⟩) q q)) wr) :=
                ⟨g3, σ, ρ, rfl, HR.out, hN, by rw [← HG.out]; exact HB0.out.trans (hb.mono (by omega)), by rw [← HG.out]; omega, hs2⟩
              clear hN hr
              go_wp2
              go_ret
              exact HF.out
end Go.Proofs.Qxb6605873a
