/-
  The clones, the premises, the bound on the lengths.
-/
import Derived.Test.Qxb6605873aMem
set_option linter.unusedVariables false
namespace Go.Proofs.Qxb6605873a
open Go.RowKit Go.Sort

/-- What came in: nil; or a row whose first n numbers are K. -/
def In (k : IntKind) (w : World) (a : Option Addr) (n c : Nat) (K : Nat → Int) : Prop :=
  (a = none ∧ n = 0 ∧ c = 0) ∨ ∃ x : Addr, a = some x ∧ ∀ j, j < n → w.cell? (x.add j) = some (.int k (K j))
theorem add_lt {w : World} {x : Addr} {j : Nat} {v : Value} (h : w.cell? (x.add j) = some v) : x.block < w.heap.size := by
  have := World.block_lt_of_cell? _ _ h
  rw [add_block] at this
  exact this
theorem In.rx {k : IntKind} {w : World} {a : Option Addr} {n c : Nat} {K : Nat → Int} (h : In k w a n c K) : Rx k w a n K := fun hn => by
  rcases h with ⟨_, h, _⟩ | ⟨x, h1, h3⟩
  · omega
  · exact ⟨x, h1, add_lt (h3 0 hn), h3⟩
theorem In.below {k : IntKind} {w w' : World} {a : Option Addr} {n c : Nat} {K : Nat → Int} (h : In k w a n c K) (hb : Go.RowKit.Below w.heap.size w w') : In k w' a n c K := by
  rcases h with h | ⟨x, e, hc⟩
  · exact Or.inl h
  · exact Or.inr ⟨x, e, fun j hj => by rw [hb.cell (p := x.add j) (by rw [add_block]; exact add_lt (hc j hj))]; exact hc j hj⟩

def ClonePost (k : IntKind) (w : World) (n : Nat) (K : Nat → Int) (e : Ending) (w' : World) : Prop :=
  ∃ (a' : Option Addr) (c' : Nat), e = .returned (.slice a' n c') ∧ Rd k w' a' n K ∧ Go.RowKit.Below w.heap.size w w'

set_option maxRecDepth 100000 in
set_option maxHeartbeats 2000000 in
theorem cloneU32 (a : Option Addr) (n c : Nat) (K : Nat → Int) (w : World) (hn : n ≤ 1048576) (h : In .u32 w a n c K) :
    Calls Try.prog 15 #[.slice a n c] w (ClonePost .u32 w n K) := by
  rcases h with ⟨rfl, rfl, rfl⟩ | ⟨x, rfl, hc⟩
  · have hnil := Lib.run_eql_slice_nil (P := Try.prog) w 32 43 none 0 0 0 0 Try.underlying32
    go_enter Try.func15, Try.ntmps15
    go_wp2
    go_ret
    exact ⟨none, 0, rfl, fun h => by omega, Go.RowKit.Below.refl _ _⟩
  · obtain ⟨i0, hi, hz0, hz1, hz2⟩ := info_parts info43
    have hnil := Lib.run_eql_slice_nil (P := Try.prog) w 32 43 (some x) n c 0 0 Try.underlying32
    have HC : Hid (∀ j, j < n → w.cell? (x.add j) = some (.int .u32 (K j))) := hc
    have hl : 0 < n → x.block < w.heap.size := fun h => add_lt (hc 0 h)
    clear hc
    go_enter Try.func15, Try.ntmps15
    go_wp2_with (first
      | (at_make; refine wpList_make_full _ rfl _ _ 32 rfl w.heap.size 43 i0 (.int .u32 0) 1 Try.underlying32 hi hz0 hz1 .i64 .i64 _ _ n rfl rfl (by omega) (by omega) (by rw [hz2]; omega) (by unfold maxLen; omega) (Nat.le_refl _) ?_; intro w1 hown hgrow))
    have hroom : Room w1 w.heap.size n := by have := room_of_owns hown; simpa using this
    have hb1 := grown_below hgrow
    have hlt := owns_lt hown
    obtain ⟨B, hB⟩ : ∃ g, g = w.heap.size := ⟨_, rfl⟩
    simp only [← hB] at hroom hb1 hlt hl ⊢
    have HB : Hid (B = w.heap.size) := hB
    have HL : Hid (0 < n → x.block < B) := hl
    clear hown hgrow hB hi hz0 hz1 hz2 hnil hl
    go_loopw [4] (fun v wr => ∃ k : Nat, k ≤ n ∧ v = .int .i64 k ∧ Room wr B n ∧ Nums .u32 wr B k K ∧ Go.RowKit.Below B w wr ∧ B < wr.heap.size) (fun v _ => n - (intOf v).toNat)
    case atStart => exact ⟨0, Nat.zero_le _, rfl, hroom, fun j hj => by omega, hb1, hlt⟩
    case round =>
      obtain ⟨k, hk, rfl, hr, hN, hb, hs⟩ := hrel
      clear hroom hb1 hlt
      by_cases hlt : k < n
      · have hc : wr.cell? (x.add k) = some (.int .u32 (K k)) := by rw [hb.cell (p := x.add k) (by rw [add_block]; exact HL.out (by omega))]; exact HC.out k hlt
        obtain ⟨⟨v, hv⟩, hf⟩ := hr k hlt
        have R1 : Hid (Room (wr.setCell ⟨B, k, none⟩ (.int .u32 (K k))) B n) := hr.setCell _ _
        have R2 : Hid (Nums .u32 (wr.setCell ⟨B, k, none⟩ (.int .u32 (K k))) B (k + 1) K) := hN.grow hr hlt rfl
        have R3 : Hid (Go.RowKit.Below B w (wr.setCell ⟨B, k, none⟩ (.int .u32 (K k)))) := hb.setCell (Nat.le_refl _) _
        have i1 : (k : Int) < (n : Int) := by omega
        clear hN hr
        go_wp2
        go_roundw
        case rel => exact ⟨k + 1, by omega, by go_num, R1.out, R2.out, R3.out, by simpa using hs⟩
        case measure => simp [intOf]; omega
      · obtain rfl : k = n := by omega
        have HF : Hid (ClonePost .u32 w k K (.returned (.slice (some ⟨B, 0, none⟩) k k)) wr) := ⟨_, _, rfl, fun _ => ⟨B, rfl, hs, hN⟩, by rw [← HB.out]; exact hb⟩
        clear hN hr
        go_wp2
        go_ret
        exact HF.out

set_option maxRecDepth 100000 in
set_option maxHeartbeats 2000000 in
theorem cloneU64 (a : Option Addr) (n c : Nat) (K : Nat → Int) (w : World) (hn : n ≤ 1048576) (h : In .u64 w a n c K) :
    Calls Try.prog 16 #[.slice a n c] w (ClonePost .u64 w n K) := by
  rcases h with ⟨rfl, rfl, rfl⟩ | ⟨x, rfl, hc⟩
  · have hnil := Lib.run_eql_slice_nil (P := Try.prog) w 33 23 none 0 0 0 0 Try.underlying33
    go_enter Try.func16, Try.ntmps16
    go_wp2
    go_ret
    exact ⟨none, 0, rfl, fun h => by omega, Go.RowKit.Below.refl _ _⟩
  · obtain ⟨i0, hi, hz0, hz1, hz2⟩ := info_parts info23
    have hnil := Lib.run_eql_slice_nil (P := Try.prog) w 33 23 (some x) n c 0 0 Try.underlying33
    have HC : Hid (∀ j, j < n → w.cell? (x.add j) = some (.int .u64 (K j))) := hc
    have hl : 0 < n → x.block < w.heap.size := fun h => add_lt (hc 0 h)
    clear hc
    go_enter Try.func16, Try.ntmps16
    go_wp2_with (first
      | (at_make; refine wpList_make_full _ rfl _ _ 33 rfl w.heap.size 23 i0 (.int .u64 0) 1 Try.underlying33 hi hz0 hz1 .i64 .i64 _ _ n rfl rfl (by omega) (by omega) (by rw [hz2]; omega) (by unfold maxLen; omega) (Nat.le_refl _) ?_; intro w1 hown hgrow))
    have hroom : Room w1 w.heap.size n := by have := room_of_owns hown; simpa using this
    have hb1 := grown_below hgrow
    have hlt := owns_lt hown
    obtain ⟨B, hB⟩ : ∃ g, g = w.heap.size := ⟨_, rfl⟩
    simp only [← hB] at hroom hb1 hlt hl ⊢
    have HB : Hid (B = w.heap.size) := hB
    have HL : Hid (0 < n → x.block < B) := hl
    clear hown hgrow hB hi hz0 hz1 hz2 hnil hl
    go_loopw [4] (fun v wr => ∃ k : Nat, k ≤ n ∧ v = .int .i64 k ∧ Room wr B n ∧ Nums .u64 wr B k K ∧ Go.RowKit.Below B w wr ∧ B < wr.heap.size) (fun v _ => n - (intOf v).toNat)
    case atStart => exact ⟨0, Nat.zero_le _, rfl, hroom, fun j hj => by omega, hb1, hlt⟩
    case round =>
      obtain ⟨k, hk, rfl, hr, hN, hb, hs⟩ := hrel
      clear hroom hb1 hlt
      by_cases hlt : k < n
      · have hc : wr.cell? (x.add k) = some (.int .u64 (K k)) := by rw [hb.cell (p := x.add k) (by rw [add_block]; exact HL.out (by omega))]; exact HC.out k hlt
        obtain ⟨⟨v, hv⟩, hf⟩ := hr k hlt
        have R1 : Hid (Room (wr.setCell ⟨B, k, none⟩ (.int .u64 (K k))) B n) := hr.setCell _ _
        have R2 : Hid (Nums .u64 (wr.setCell ⟨B, k, none⟩ (.int .u64 (K k))) B (k + 1) K) := hN.grow hr hlt rfl
        have R3 : Hid (Go.RowKit.Below B w (wr.setCell ⟨B, k, none⟩ (.int .u64 (K k)))) := hb.setCell (Nat.le_refl _) _
        have i1 : (k : Int) < (n : Int) := by omega
        clear hN hr
        go_wp2
        go_roundw
        case rel => exact ⟨k + 1, by omega, by go_num, R1.out, R2.out, R3.out, by simpa using hs⟩
        case measure => simp [intOf]; omega
      · obtain rfl : k = n := by omega
        have HF : Hid (ClonePost .u64 w k K (.returned (.slice (some ⟨B, 0, none⟩) k k)) wr) := ⟨_, _, rfl, fun _ => ⟨B, rfl, hs, hN⟩, by rw [← HB.out]; exact hb⟩
        clear hN hr
        go_wp2
        go_ret
        exact HF.out

set_option maxRecDepth 100000 in
set_option maxHeartbeats 2000000 in
theorem cloneInts (a : Option Addr) (n c : Nat) (K : Nat → Int) (w : World) (hn : n ≤ 1048576) (h : In .i64 w a n c K) :
    Calls Try.prog 17 #[.slice a n c] w (ClonePost .i64 w n K) := by
  rcases h with ⟨rfl, rfl, rfl⟩ | ⟨x, rfl, hc⟩
  · have hnil := Lib.run_eql_slice_nil (P := Try.prog) w 34 3 none 0 0 0 0 Try.underlying34
    go_enter Try.func17, Try.ntmps17
    go_wp2
    go_ret
    exact ⟨none, 0, rfl, fun h => by omega, Go.RowKit.Below.refl _ _⟩
  · obtain ⟨i0, hi, hz0, hz1, hz2⟩ := info_parts info3
    have hnil := Lib.run_eql_slice_nil (P := Try.prog) w 34 3 (some x) n c 0 0 Try.underlying34
    have HC : Hid (∀ j, j < n → w.cell? (x.add j) = some (.int .i64 (K j))) := hc
    have hl : 0 < n → x.block < w.heap.size := fun h => add_lt (hc 0 h)
    clear hc
    go_enter Try.func17, Try.ntmps17
    go_wp2_with (first
      | (at_make; refine wpList_make_full _ rfl _ _ 34 rfl w.heap.size 3 i0 (.int .i64 0) 1 Try.underlying34 hi hz0 hz1 .i64 .i64 _ _ n rfl rfl (by omega) (by omega) (by rw [hz2]; omega) (by unfold maxLen; omega) (Nat.le_refl _) ?_; intro w1 hown hgrow))
    have hroom : Room w1 w.heap.size n := by have := room_of_owns hown; simpa using this
    have hb1 := grown_below hgrow
    have hlt := owns_lt hown
    obtain ⟨B, hB⟩ : ∃ g, g = w.heap.size := ⟨_, rfl⟩
    simp only [← hB] at hroom hb1 hlt hl ⊢
    have HB : Hid (B = w.heap.size) := hB
    have HL : Hid (0 < n → x.block < B) := hl
    clear hown hgrow hB hi hz0 hz1 hz2 hnil hl
    go_loopw [4] (fun v wr => ∃ k : Nat, k ≤ n ∧ v = .int .i64 k ∧ Room wr B n ∧ Nums .i64 wr B k K ∧ Go.RowKit.Below B w wr ∧ B < wr.heap.size) (fun v _ => n - (intOf v).toNat)
    case atStart => exact ⟨0, Nat.zero_le _, rfl, hroom, fun j hj => by omega, hb1, hlt⟩
    case round =>
      obtain ⟨k, hk, rfl, hr, hN, hb, hs⟩ := hrel
      clear hroom hb1 hlt
      by_cases hlt : k < n
      · have hc : wr.cell? (x.add k) = some (.int .i64 (K k)) := by rw [hb.cell (p := x.add k) (by rw [add_block]; exact HL.out (by omega))]; exact HC.out k hlt
        obtain ⟨⟨v, hv⟩, hf⟩ := hr k hlt
        have R1 : Hid (Room (wr.setCell ⟨B, k, none⟩ (.int .i64 (K k))) B n) := hr.setCell _ _
        have R2 : Hid (Nums .i64 (wr.setCell ⟨B, k, none⟩ (.int .i64 (K k))) B (k + 1) K) := hN.grow hr hlt rfl
        have R3 : Hid (Go.RowKit.Below B w (wr.setCell ⟨B, k, none⟩ (.int .i64 (K k)))) := hb.setCell (Nat.le_refl _) _
        have i1 : (k : Int) < (n : Int) := by omega
        clear hN hr
        go_wp2
        go_roundw
        case rel => exact ⟨k + 1, by omega, by go_num, R1.out, R2.out, R3.out, by simpa using hs⟩
        case measure => simp [intOf]; omega
      · obtain rfl : k = n := by omega
        have HF : Hid (ClonePost .i64 w k K (.returned (.slice (some ⟨B, 0, none⟩) k k)) wr) := ⟨_, _, rfl, fun _ => ⟨B, rfl, hs, hN⟩, by rw [← HB.out]; exact hb⟩
        clear hN hr
        go_wp2
        go_ret
        exact HF.out

set_option maxRecDepth 100000 in
set_option maxHeartbeats 2000000 in
theorem cloneBytes (a : Option Addr) (n c : Nat) (K : Nat → Int) (w : World) (hn : n ≤ 1048576) (h : In .u8 w a n c K) :
    Calls Try.prog 8 #[.slice a n c] w (ClonePost .u8 w n K) := by
  rcases h with ⟨rfl, rfl, rfl⟩ | ⟨x, rfl, hc⟩
  · have hnil := Lib.run_eql_slice_nil (P := Try.prog) w 22 5 none 0 0 0 0 Try.underlying22
    go_enter Try.func8, Try.ntmps8
    go_wp2
    go_ret
    exact ⟨none, 0, rfl, fun h => by omega, Go.RowKit.Below.refl _ _⟩
  · obtain ⟨i0, hi, hz0, hz1, hz2⟩ := info_parts info5
    have hnil := Lib.run_eql_slice_nil (P := Try.prog) w 22 5 (some x) n c 0 0 Try.underlying22
    have HC : Hid (∀ j, j < n → w.cell? (x.add j) = some (.int .u8 (K j))) := hc
    have hl : 0 < n → x.block < w.heap.size := fun h => add_lt (hc 0 h)
    clear hc
    go_enter Try.func8, Try.ntmps8
    go_wp2_with (first
      | (at_make; refine wpList_make_full _ rfl _ _ 22 rfl w.heap.size 5 i0 (.int .u8 0) 1 Try.underlying22 hi hz0 hz1 .i64 .i64 _ _ n rfl rfl (by omega) (by omega) (by rw [hz2]; omega) (by unfold maxLen; omega) (Nat.le_refl _) ?_; intro w1 hown hgrow))
    have hroom : Room w1 w.heap.size n := by have := room_of_owns hown; simpa using this
    have hb1 := grown_below hgrow
    have hlt := owns_lt hown
    obtain ⟨B, hB⟩ : ∃ g, g = w.heap.size := ⟨_, rfl⟩
    simp only [← hB] at hroom hb1 hlt hl ⊢
    have HB : Hid (B = w.heap.size) := hB
    have HL : Hid (0 < n → x.block < B) := hl
    clear hown hgrow hB hi hz0 hz1 hz2 hnil hl
    go_loopw [4] (fun v wr => ∃ k : Nat, k ≤ n ∧ v = .int .i64 k ∧ Room wr B n ∧ Nums .u8 wr B k K ∧ Go.RowKit.Below B w wr ∧ B < wr.heap.size) (fun v _ => n - (intOf v).toNat)
    case atStart => exact ⟨0, Nat.zero_le _, rfl, hroom, fun j hj => by omega, hb1, hlt⟩
    case round =>
      obtain ⟨k, hk, rfl, hr, hN, hb, hs⟩ := hrel
      clear hroom hb1 hlt
      by_cases hlt : k < n
      · have hc : wr.cell? (x.add k) = some (.int .u8 (K k)) := by rw [hb.cell (p := x.add k) (by rw [add_block]; exact HL.out (by omega))]; exact HC.out k hlt
        obtain ⟨⟨v, hv⟩, hf⟩ := hr k hlt
        have R1 : Hid (Room (wr.setCell ⟨B, k, none⟩ (.int .u8 (K k))) B n) := hr.setCell _ _
        have R2 : Hid (Nums .u8 (wr.setCell ⟨B, k, none⟩ (.int .u8 (K k))) B (k + 1) K) := hN.grow hr hlt rfl
        have R3 : Hid (Go.RowKit.Below B w (wr.setCell ⟨B, k, none⟩ (.int .u8 (K k)))) := hb.setCell (Nat.le_refl _) _
        have i1 : (k : Int) < (n : Int) := by omega
        clear hN hr
        go_wp2
        go_roundw
        case rel => exact ⟨k + 1, by omega, by go_num, R1.out, R2.out, R3.out, by simpa using hs⟩
        case measure => simp [intOf]; omega
      · obtain rfl : k = n := by omega
        have HF : Hid (ClonePost .u8 w k K (.returned (.slice (some ⟨B, 0, none⟩) k k)) wr) := ⟨_, _, rfl, fun _ => ⟨B, rfl, hs, hN⟩, by rw [← HB.out]; exact hb⟩
        clear hN hr
        go_wp2
        go_ret
        exact HF.out

def SaidB (w : World) (e : Ending) (w' : World) : Prop := ∃ b : Bool, e = .returned (.bool b) ∧ w' = w

set_option maxRecDepth 100000 in
set_option maxHeartbeats 2000000 in
theorem bytes_calls (a0 a1 a2 a3 a4 a5 : Option Addr) (n0 n1 n2 n3 n4 n5 c0 c1 c2 c3 c4 c5 : Nat) (w : World) (h0 : n0 ≤ 9223372036854775807) (h1 : n1 ≤ 9223372036854775807) (h2 : n2 ≤ 9223372036854775807) (h3 : n3 ≤ 9223372036854775807) (h4 : n4 ≤ 9223372036854775807) (h5 : n5 ≤ 9223372036854775807) :
    Calls Try.prog 13 #[.slice a0 n0 c0, .slice a1 n1 c1, .slice a2 n2 c2, .slice a3 n3 c3, .slice a4 n4 c4, .slice a5 n5 c5] w (SaidB w) := by
  go_enter Try.func13, Try.ntmps13
  go_wp2
  all_goals (go_ret; exact ⟨_, rfl, rfl⟩)

/-- What the entries' premise says. -/
structure EntOK (n l4 l5 : Nat) (X O : Nat → Int) : Prop where
  e4 : l4 = n
  e5 : l5 = n
  x : ∀ i, i < n → X i ≤ i
  o : ∀ i, i < n → 0 ≤ O i
  asc : ∀ i, i + 1 < n → O i < O (i + 1)
def EntPost (w : World) (n l4 l5 : Nat) (X O : Nat → Int) (e : Ending) (w' : World) : Prop :=
  ∃ (b : Bool) (m : Nat), e = .returned (.bool b) ∧ w' = w.drewN m ∧ (b = true → EntOK n l4 l5 X O)

set_option maxRecDepth 100000 in
set_option maxHeartbeats 4000000 in
theorem entries_calls (a3 a4 a5 : Option Addr) (c3 c4 c5 n l4 l5 : Nat) (X O : Nat → Int) (w : World) (hn : n ≤ 1048576) (hl4 : l4 ≤ 1048576) (hl5 : l5 ≤ 1048576)
    (h4 : Rx .u8 w a4 l4 X) (h5 : Rx .i64 w a5 l5 O) (hX : ∀ i, i < l4 → 0 ≤ X i ∧ X i < 256) :
    Calls Try.prog 22 #[.slice a3 n c3, .slice a4 l4 c4, .slice a5 l5 c5] w (EntPost w n l4 l5 X O) := by
  by_cases e4 : l4 = n
  · by_cases e5 : l5 = n
    · subst e4
      subst e5
      have H4 : Hid (Rx .u8 w a4 l5 X) := h4
      have H5 : Hid (Rx .i64 w a5 l5 O) := h5
      have HX : Hid (∀ i, i < l5 → 0 ≤ X i ∧ X i < 256) := hX
      clear h4 h5 hX
      go_enter Try.func22, Try.ntmps22
      go_wp2
      go_loopw [8] (fun v wr => ∃ (k m : Nat), k ≤ l5 ∧ v = .int .i64 k ∧ wr = w.drewN m ∧ Hid (∀ i, i < k → X i ≤ i ∧ 0 ≤ O i) ∧ Hid (∀ i, i + 1 < k → O i < O (i + 1))) (fun v _ => l5 - (intOf v).toNat)
      case atStart => exact ⟨0, 0, Nat.zero_le _, rfl, rfl, fun i hi => by omega, fun i hi => by omega⟩
      case round =>
        obtain ⟨k, m, hk, rfl, rfl, HQ, HS⟩ := hrel
        by_cases hlt : k < l5
        · obtain ⟨x4, rfl, hb4, hc4⟩ := H4.out (by omega)
          obtain ⟨x5, rfl, hb5, hc5⟩ := H5.out (by omega)
          obtain ⟨q0, q1⟩ := HX.out k hlt
          have d4 := hc4 k hlt
          have d5 := hc5 k hlt
          obtain ⟨xk, hxk⟩ : ∃ v, v = X k := ⟨_, rfl⟩
          obtain ⟨ok, hok⟩ : ∃ v, v = O k := ⟨_, rfl⟩
          rw [← hxk] at d4 q0 q1
          rw [← hok] at d5
          have HXK : Hid (xk = X k) := hxk
          have HOK : Hid (ok = O k) := hok
          have i1 : (k : Int) < (l5 : Int) := by omega
          have i2 : (0 : Int) ≤ (k : Int) := by omega
          by_cases g1 : (k : Int) < xk
          · clear hc4 hc5 H4 H5 hxk hok
            go_wp2
            go_ret
            exact ⟨false, m, rfl, rfl, fun h => by cases h⟩
          · have g1' : decide ((k : Int) < xk) = false := by simp; omega
            by_cases g2 : ok < 0
            · clear hc4 hc5 H4 H5 hxk hok
              go_wp2
              go_ret
              exact ⟨false, m, rfl, rfl, fun h => by cases h⟩
            · have g2' : decide (ok < 0) = false := by simp; omega
              have HQ2 : Hid (∀ i, i < k + 1 → X i ≤ i ∧ 0 ≤ O i) := fun i hi => by
                by_cases e : i = k
                · subst e; rw [← HXK.out, ← HOK.out]; omega
                · exact HQ.out i (by omega)
              by_cases g3 : 0 < k
              · have g3' : (0 : Int) < (k : Int) := by omega
                have d6 := hc5 (k - 1) (by omega)
                obtain ⟨op, hop⟩ : ∃ v, v = O (k - 1) := ⟨_, rfl⟩
                rw [← hop] at d6
                have HOP : Hid (op = O (k - 1)) := hop
                have i3 : (0 : Int) ≤ (k : Int) - 1 := by omega
                have i4 : (k : Int) - 1 < (l5 : Int) := by omega
                clear hc4 hc5 H4 H5 hxk hok hop
                by_cases g4 : ok ≤ op
                · go_wp2
                  go_quiet (fail)
                  go_wp2
                  go_ret
                  exact ⟨false, m + nq, rfl, by rw [World.drewN_drewN], fun h => by cases h⟩
                · have g4' : decide (ok ≤ op) = false := by simp; omega
                  have HS2 : Hid (∀ i, i + 1 < k + 1 → O i < O (i + 1)) := fun i hi => by
                    by_cases e : i + 1 = k
                    · have e2 : i = k - 1 := by omega
                      rw [e, e2, ← HOP.out, ← HOK.out]; omega
                    · exact HS.out i (by omega)
                  go_wp2
                  go_quiet (fail)
                  go_wp2
                  go_roundw
                  case rel => exact ⟨k + 1, m + nq, by omega, by go_num, rfl, HQ2, HS2⟩
                  case measure => simp [intOf]; omega
              · have g3' : decide ((0 : Int) < (k : Int)) = false := by simp; omega
                have g3'' : decide ((k : Int) > 0) = false := by simp; omega
                have HS2 : Hid (∀ i, i + 1 < k + 1 → O i < O (i + 1)) := fun i hi => by omega
                clear hc4 hc5 H4 H5 hxk hok
                go_wp2
                go_quiet (fail)
                go_wp2
                go_roundw
                case rel => exact ⟨k + 1, m + nq, by omega, by go_num, rfl, HQ2, HS2⟩
                case measure => simp [intOf]; omega
        · have kl : ¬ (k : Int) < (l5 : Int) := by omega
          have HF : Hid (EntOK l5 l5 l5 X O) := ⟨rfl, rfl, fun i hi => (HQ.out i (by omega)).1, fun i hi => (HQ.out i (by omega)).2, fun i hi => HS.out i (by omega)⟩
          go_wp2
          go_ret
          exact ⟨true, m, rfl, rfl, fun _ => HF.out⟩
    · have k4 : ((l4 : Int) == (n : Int)) = true := by simp; omega
      have k5 : ((l5 : Int) == (n : Int)) = false := by simp; omega
      subst e4
      go_enter Try.func22, Try.ntmps22
      go_wp2
      go_ret
      exact ⟨false, 0, rfl, rfl, fun h => by cases h⟩
  · have k4 : ((l4 : Int) == (n : Int)) = false := by simp; omega
    go_enter Try.func22, Try.ntmps22
    go_wp2
    go_ret
    exact ⟨false, 0, rfl, rfl, fun h => by cases h⟩

def PrePost (w : World) (l0 l1 l2 n l4 l5 : Nat) (X O : Nat → Int) (e : Ending) (w' : World) : Prop :=
  ∃ (b : Bool) (m : Nat), e = .returned (.bool b) ∧ w' = w.drewN m ∧ (b = true → EntOK n l4 l5 X O ∧ l1 = l0 ∧ l2 = l0 ∧ (l0 = 0 ∨ l0 = n))

set_option maxRecDepth 100000 in
set_option maxHeartbeats 4000000 in
theorem premise_calls (a0 a1 a2 a3 a4 a5 : Option Addr) (c0 c1 c2 c3 c4 c5 l0 l1 l2 n l4 l5 : Nat) (X O : Nat → Int) (w : World) (hl0 : l0 ≤ 1048576) (hl1 : l1 ≤ 1048576) (hl2 : l2 ≤ 1048576) (hn : n ≤ 1048576) (hl4 : l4 ≤ 1048576) (hl5 : l5 ≤ 1048576)
    (h4 : Rx .u8 w a4 l4 X) (h5 : Rx .i64 w a5 l5 O) (hX : ∀ i, i < l4 → 0 ≤ X i ∧ X i < 256) :
    Calls Try.prog 14 #[.slice a0 l0 c0, .slice a1 l1 c1, .slice a2 l2 c2, .slice a3 n c3, .slice a4 l4 c4, .slice a5 l5 c5] w (PrePost w l0 l1 l2 n l4 l5 X O) := by
  have H4 : Hid (Rx .u8 w a4 l4 X) := h4
  have H5 : Hid (Rx .i64 w a5 l5 O) := h5
  have HX : Hid (∀ i, i < l4 → 0 ≤ X i ∧ X i < 256) := hX
  clear h4 h5 hX
  go_enter Try.func14, Try.ntmps14
  go_wp2_with fail
  refine (entries_calls a3 a4 a5 c3 c4 c5 n l4 l5 X O _ hn hl4 hl5 H4.out H5.out HX.out).mono ?_
  rintro e w1 ⟨b, m, rfl, rfl, hE⟩
  have HE : Hid (b = true → EntOK n l4 l5 X O) := hE
  clear hE H4 H5 HX
  cases b with
  | false =>
    go_wp2
    go_ret
    exact ⟨false, m, rfl, rfl, fun h => by cases h⟩
  | true =>
    by_cases g1 : l1 = l0
    · have k1 : ((l1 : Int) == (l0 : Int)) = true := by simp; omega
      by_cases g2 : l2 = l0
      · have k2 : ((l2 : Int) == (l0 : Int)) = true := by simp; omega
        subst g1
        subst g2
        by_cases g3 : l2 = 0
        · subst g3
          go_wp2
          go_ret
          exact ⟨_, m, rfl, rfl, fun _ => ⟨HE.out (by simp), rfl, rfl, Or.inl rfl⟩⟩
        · have k3 : ((l2 : Int) == 0) = false := by simp; omega
          by_cases g4 : l2 = n
          · subst g4
            go_wp2
            go_ret
            exact ⟨_, m, rfl, rfl, fun _ => ⟨HE.out (by simp), rfl, rfl, Or.inr rfl⟩⟩
          · have k4 : ((l2 : Int) == (n : Int)) = false := by simp; omega
            go_wp2
            go_ret
            exact ⟨_, m, rfl, rfl, fun h => by cases h⟩
      · have k2 : ((l2 : Int) == (l0 : Int)) = false := by simp; omega
        subst g1
        go_wp2
        go_ret
        exact ⟨false, m, rfl, rfl, fun h => by cases h⟩
    · have k1 : ((l1 : Int) == (l0 : Int)) = false := by simp; omega
      go_wp2
      go_ret
      exact ⟨false, m, rfl, rfl, fun h => by cases h⟩
end Go.Proofs.Qxb6605873a
