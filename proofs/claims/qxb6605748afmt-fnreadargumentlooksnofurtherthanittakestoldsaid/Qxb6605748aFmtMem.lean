/-
  Rows of memory that the call itself makes, said by index.
-/
import Derived.Test.Qxb6605748aFmtRows
import Derived.WalkKit
import Derived.Lib.SliceRun
import Derived.Deep.QuietTactic
import Derived.BigQuiet
namespace Go.Proofs.Qxb6605748aFmt
open Go.RowKit

/-- n cells lie in block g and may be written. -/
def Room (w : World) (g n : Nat) : Prop := ∀ j, j < n → (∃ v, w.cell? ⟨g, j, none⟩ = some v) ∧ w.frozen? ⟨g, j, none⟩ = false

theorem Room.setCell {w : World} {g n : Nat} (h : Room w g n) (p : Addr) (u : Value) : Room (w.setCell p u) g n := fun j hj => by
  obtain ⟨⟨v, hv⟩, hf⟩ := h j hj
  exact ⟨cell?_setCell_some hv, by rw [World.frozen?_setCell]; exact hf⟩

theorem cell_set_ne {w : World} {g i j : Nat} (h : i ≠ j) (u : Value) : (w.setCell ⟨g, i, none⟩ u).cell? ⟨g, j, none⟩ = w.cell? ⟨g, j, none⟩ :=
  World.cell?_setCell_other _ _ _ _ (fun e => h (congrArg Addr.off e))

theorem Room.below {w w' : World} {g n B : Nat} (h : Room w g n) (hb : Below B w w') (hg : g < B) : Room w' g n := fun j hj => by
  obtain ⟨⟨v, hv⟩, hf⟩ := h j hj
  exact ⟨⟨v, by rw [hb.cell (p := ⟨g, j, none⟩) hg]; exact hv⟩, by rw [hb.frozen (p := ⟨g, j, none⟩) hg]; exact hf⟩

/-- What 'make([]T, n)' leaves, by index. -/
theorem room_of_owns {w : World} {base e size g n : Nat} {xs : List Value} (h : w.ownsRow base e size (.slice (some ⟨g, 0, none⟩) n n) n xs) : Room w g (n * size) := fun j hj => by
  refine ⟨?_, h.frozenAt j⟩
  rw [h.cellAt j hj]
  have hl : xs.length = n * size := h.1
  exact ⟨xs[j]'(by omega), List.getElem?_eq_getElem (by omega)⟩

theorem made_cell {w : World} {base e g n : Nat} {z : Value} {j : Nat} (h : w.ownsRow base e 1 (.slice (some ⟨g, 0, none⟩) n n) n (madeCells #[z] (n * 1)).toList) (hj : j < n) : w.cell? ⟨g, j, none⟩ = some z := by
  rw [h.cellAt j (by omega), toList_madeCells_one]
  simp [hj]

theorem grown_below {w w' : World} (h : w.grownBy w' none) : Below w.heap.size w w' := (Below.refl _ _).grown h (Nat.le_refl _) (fun k hk => by cases hk)

theorem info3 : (Tryf.prog.info? 3).map (fun i => (i.zero, i.size, i.bytes)) = some (some (.int .i64 0), 1, 8) := by kernel_rfl
theorem info9 : (Tryf.prog.info? 9).map (fun i => (i.zero, i.size, i.bytes)) = some (some (.string ⟨#[]⟩), 1, 16) := by kernel_rfl

/-- A row of n ints, of n strings, in block b from off on. -/
def Ints (w : World) (b off n : Nat) (K : Nat → Int) : Prop := ∀ j, j < n → w.cell? ⟨b, off + j, none⟩ = some (.int .i64 (K j))
def Strs (w : World) (b off n : Nat) (S : Nat → ByteArray) : Prop := ∀ j, j < n → w.cell? ⟨b, off + j, none⟩ = some (.string (S j))
theorem Ints.below {w w' : World} {b off n B : Nat} {K : Nat → Int} (h : Ints w b off n K) (hb : Below B w w') (hB : b < B) : Ints w' b off n K := fun j hj => by
  rw [hb.cell (p := ⟨b, off + j, none⟩) hB]; exact h j hj
theorem Strs.below {w w' : World} {b off n B : Nat} {S : Nat → ByteArray} (h : Strs w b off n S) (hb : Below B w w') (hB : b < B) : Strs w' b off n S := fun j hj => by
  rw [hb.cell (p := ⟨b, off + j, none⟩) hB]; exact h j hj
theorem Ints.lt {w : World} {b off n : Nat} {K : Nat → Int} (h : Ints w b off n K) (hn : 0 < n) : b < w.heap.size := World.block_lt_of_cell? _ _ (h 0 hn)
theorem Strs.lt {w : World} {b off n : Nat} {S : Nat → ByteArray} (h : Strs w b off n S) (hn : 0 < n) : b < w.heap.size := World.block_lt_of_cell? _ _ (h 0 hn)

/-- What a clone leaves: a new row in block w.heap.size. -/
def ClonedI (n : Nat) (K : Nat → Int) (w : World) (e : Ending) (w' : World) : Prop :=
  e = .returned (.slice (some ⟨w.heap.size, 0, none⟩) n n) ∧ Ints w' w.heap.size 0 n K ∧ Below w.heap.size w w' ∧ w.heap.size < w'.heap.size
def ClonedS (n : Nat) (S : Nat → ByteArray) (w : World) (e : Ending) (w' : World) : Prop :=
  e = .returned (.slice (some ⟨w.heap.size, 0, none⟩) n n) ∧ Strs w' w.heap.size 0 n S ∧ Below w.heap.size w w' ∧ w.heap.size < w'.heap.size

set_option maxRecDepth 100000 in
set_option maxHeartbeats 800000 in
theorem cloneI_calls (b off n c : Nat) (K : Nat → Int) (w : World) (hn : 0 < n) (hn' : n ≤ 65536) (hK : Ints w b off n K) :
    Calls Tryf.prog 7 #[.slice (some ⟨b, off, none⟩) n c] w (ClonedI n K w) := by
  obtain ⟨i0, hi, hz0, hz1, hz2⟩ := info_parts info3
  have hbw := hK.lt hn
  have hnil := Lib.run_eql_slice_nil (P := Tryf.prog) w 22 3 (some ⟨b, off, none⟩) n c 0 0 Tryf.underlying22
  go_enter Tryf.func7, Tryf.ntmps7
  go_wp2_with (first
    | (at_make; refine wpList_make_full _ rfl _ _ 22 rfl w.heap.size 3 i0 (.int .i64 0) 1 Tryf.underlying22 hi hz0 hz1 .i64 .i64 _ _ n rfl rfl (by omega) (by omega) (by rw [hz2]; omega) (by unfold maxLen; omega) (Nat.le_refl _) ?_; intro w1 hown hgrow))
  have hroom : Room w1 w.heap.size n := by have := room_of_owns hown; simpa using this
  have hb1 := grown_below hgrow
  have hsz : w.heap.size < w1.heap.size := World.block_lt_of_cell? _ _ (hroom 0 hn).1.choose_spec
  clear hown hgrow
  go_loopw [4] (fun i wr => ∃ k : Nat, k ≤ n ∧ i = .int .i64 k ∧ Room wr w.heap.size n ∧ Ints wr w.heap.size 0 k K ∧ Below w.heap.size w wr ∧ w.heap.size < wr.heap.size) (fun i _ => n - (intOf i).toNat)
  case atStart => exact ⟨0, Nat.zero_le _, rfl, hroom, fun j hj => by omega, hb1, hsz⟩
  case round =>
    obtain ⟨k, hk, rfl, hr, hI, hb, hs⟩ := hrel
    clear hroom hb1 hsz hi hz0 hz1 hz2
    by_cases hlt : k < n
    · have hc : wr.cell? ⟨b, off + k, none⟩ = some (.int .i64 (K k)) := by rw [hb.cell (p := ⟨b, off + k, none⟩) hbw]; exact hK k hlt
      obtain ⟨⟨v, hv⟩, hf⟩ := hr k hlt
      have R1 : Hid (Room (wr.setCell ⟨w.heap.size, k, none⟩ (.int .i64 (K k))) w.heap.size n) := hr.setCell _ _
      have R2 : Hid (Ints (wr.setCell ⟨w.heap.size, k, none⟩ (.int .i64 (K k))) w.heap.size 0 (k + 1) K) := fun j hj => by
        simp only [Nat.zero_add]
        by_cases e : k = j
        · subst e; exact World.cell?_setCell_same _ _ _ hv
        · rw [cell_set_ne e]; have := hI j (by omega); simpa using this
      have R3 : Hid (Below w.heap.size w (wr.setCell ⟨w.heap.size, k, none⟩ (.int .i64 (K k)))) := hb.setCell (Nat.le_refl _) _
      clear hI hr hK
      go_wp2
      go_roundw
      case rel => exact ⟨k + 1, by omega, by go_num, R1.out, R2.out, R3.out, by simpa using hs⟩
      case measure => simp [intOf]; omega
    · obtain rfl : k = n := by omega
      clear hr hK
      go_wp2
      go_ret
      exact ⟨rfl, hI, hb, hs⟩
set_option maxRecDepth 100000 in
set_option maxHeartbeats 800000 in
theorem cloneS_calls (b off n c : Nat) (S : Nat → ByteArray) (w : World) (hn : 0 < n) (hn' : n ≤ 65536) (hK : Strs w b off n S) :
    Calls Tryf.prog 8 #[.slice (some ⟨b, off, none⟩) n c] w (ClonedS n S w) := by
  obtain ⟨i0, hi, hz0, hz1, hz2⟩ := info_parts info9
  have hbw := hK.lt hn
  have hnil := Lib.run_eql_slice_nil (P := Tryf.prog) w 23 9 (some ⟨b, off, none⟩) n c 0 0 Tryf.underlying23
  go_enter Tryf.func8, Tryf.ntmps8
  go_wp2_with (first
    | (at_make; refine wpList_make_full _ rfl _ _ 23 rfl w.heap.size 9 i0 (.string ⟨#[]⟩) 1 Tryf.underlying23 hi hz0 hz1 .i64 .i64 _ _ n rfl rfl (by omega) (by omega) (by rw [hz2]; omega) (by unfold maxLen; omega) (Nat.le_refl _) ?_; intro w1 hown hgrow))
  have hroom : Room w1 w.heap.size n := by have := room_of_owns hown; simpa using this
  have hb1 := grown_below hgrow
  have hsz : w.heap.size < w1.heap.size := World.block_lt_of_cell? _ _ (hroom 0 hn).1.choose_spec
  clear hown hgrow
  go_loopw [4] (fun i wr => ∃ k : Nat, k ≤ n ∧ i = .int .i64 k ∧ Room wr w.heap.size n ∧ Strs wr w.heap.size 0 k S ∧ Below w.heap.size w wr ∧ w.heap.size < wr.heap.size) (fun i _ => n - (intOf i).toNat)
  case atStart => exact ⟨0, Nat.zero_le _, rfl, hroom, fun j hj => by omega, hb1, hsz⟩
  case round =>
    obtain ⟨k, hk, rfl, hr, hI, hb, hs⟩ := hrel
    clear hroom hb1 hsz hi hz0 hz1 hz2
    by_cases hlt : k < n
    · have hc : wr.cell? ⟨b, off + k, none⟩ = some (.string (S k)) := by rw [hb.cell (p := ⟨b, off + k, none⟩) hbw]; exact hK k hlt
      obtain ⟨⟨v, hv⟩, hf⟩ := hr k hlt
      have R1 : Hid (Room (wr.setCell ⟨w.heap.size, k, none⟩ (.string (S k))) w.heap.size n) := hr.setCell _ _
      have R2 : Hid (Strs (wr.setCell ⟨w.heap.size, k, none⟩ (.string (S k))) w.heap.size 0 (k + 1) S) := fun j hj => by
        simp only [Nat.zero_add]
        by_cases e : k = j
        · subst e; exact World.cell?_setCell_same _ _ _ hv
        · rw [cell_set_ne e]; have := hI j (by omega); simpa using this
      have R3 : Hid (Below w.heap.size w (wr.setCell ⟨w.heap.size, k, none⟩ (.string (S k)))) := hb.setCell (Nat.le_refl _) _
      clear hI hr hK
      go_wp2
      go_roundw
      case rel => exact ⟨k + 1, by omega, by go_num, R1.out, R2.out, R3.out, by simpa using hs⟩
      case measure => simp [intOf]; omega
    · obtain rfl : k = n := by omega
      clear hr hK
      go_wp2
      go_ret
      exact ⟨rfl, hI, hb, hs⟩

/-! ### sameStrings, sameInts: at rows that are alike the answer is yes -/
def IsTrue (w : World) (e : Ending) (w' : World) : Prop := e = .returned (.bool true) ∧ ∃ m, w' = w.drewN m

theorem sameS_nil (w : World) : Calls Tryf.prog 10 #[.slice none 0 0, .slice none 0 0] w (IsTrue w) := by
  have hnil := Lib.run_eql_slice_nil (P := Tryf.prog) w 23 9 none 0 0 0 0 Tryf.underlying23
  go_enter Tryf.func10, Tryf.ntmps10
  go_wp2
  refine wp_loop_rounds 1 ?_
  rw [rounds_succ]
  go_wp2
  go_ret
  exact ⟨rfl, 0, rfl⟩

theorem sameI_nil (w : World) : Calls Tryf.prog 11 #[.slice none 0 0, .slice none 0 0] w (IsTrue w) := by
  have hnil := Lib.run_eql_slice_nil (P := Tryf.prog) w 22 3 none 0 0 0 0 Tryf.underlying22
  go_enter Tryf.func11, Tryf.ntmps11
  go_wp2
  refine wp_loop_rounds 1 ?_
  rw [rounds_succ]
  go_wp2
  go_ret
  exact ⟨rfl, 0, rfl⟩

set_option maxHeartbeats 800000 in
theorem sameS_calls (b1 b2 n c1 c2 : Nat) (S : Nat → ByteArray) (w : World) (hn' : n ≤ 65536) (h1 : Strs w b1 0 n S) (h2 : Strs w b2 0 n S) :
    Calls Tryf.prog 10 #[.slice (some ⟨b1, 0, none⟩) n c1, .slice (some ⟨b2, 0, none⟩) n c2] w (IsTrue w) := by
  have hnil1 := Lib.run_eql_slice_nil (P := Tryf.prog) w 23 9 (some ⟨b1, 0, none⟩) n c1 0 0 Tryf.underlying23
  have hnil2 := Lib.run_eql_slice_nil (P := Tryf.prog) w 23 9 (some ⟨b2, 0, none⟩) n c2 0 0 Tryf.underlying23
  go_enter Tryf.func10, Tryf.ntmps10
  go_wp2
  go_loopw [5] (fun i wr => ∃ k m : Nat, k ≤ n ∧ i = .int .i64 k ∧ wr = w.drewN m) (fun i _ => n - (intOf i).toNat)
  case atStart => exact ⟨0, 0, Nat.zero_le _, rfl, rfl⟩
  case round =>
    obtain ⟨k, m, hk, rfl, rfl⟩ := hrel
    clear hnil1 hnil2
    by_cases hlt : k < n
    · have g1 := h1 k hlt
      have g2 := h2 k hlt
      simp only [Nat.zero_add] at g1 g2
      have hlt' : (k : Int) < (n : Int) := by omega
      have hk0 : (0 : Int) ≤ (k : Int) := by omega
      clear h1 h2
      go_wp2
      go_quiet (fail)
      go_wp2
      go_roundw
      case rel => exact ⟨k + 1, m + nq, by omega, by go_num, rfl⟩
      case measure => simp [intOf]; omega
    · clear h1 h2
      go_wp2
      go_ret
      exact ⟨rfl, m, rfl⟩

set_option maxHeartbeats 800000 in
theorem sameI_calls (b1 b2 n c1 c2 : Nat) (K : Nat → Int) (w : World) (hn' : n ≤ 65536) (h1 : Ints w b1 0 n K) (h2 : Ints w b2 0 n K) :
    Calls Tryf.prog 11 #[.slice (some ⟨b1, 0, none⟩) n c1, .slice (some ⟨b2, 0, none⟩) n c2] w (IsTrue w) := by
  have hnil1 := Lib.run_eql_slice_nil (P := Tryf.prog) w 22 3 (some ⟨b1, 0, none⟩) n c1 0 0 Tryf.underlying22
  have hnil2 := Lib.run_eql_slice_nil (P := Tryf.prog) w 22 3 (some ⟨b2, 0, none⟩) n c2 0 0 Tryf.underlying22
  go_enter Tryf.func11, Tryf.ntmps11
  go_wp2
  go_loopw [5] (fun i wr => ∃ k m : Nat, k ≤ n ∧ i = .int .i64 k ∧ wr = w.drewN m) (fun i _ => n - (intOf i).toNat)
  case atStart => exact ⟨0, 0, Nat.zero_le _, rfl, rfl⟩
  case round =>
    obtain ⟨k, m, hk, rfl, rfl⟩ := hrel
    clear hnil1 hnil2
    by_cases hlt : k < n
    · have g1 := h1 k hlt
      have g2 := h2 k hlt
      simp only [Nat.zero_add] at g1 g2
      have hlt' : (k : Int) < (n : Int) := by omega
      have hk0 : (0 : Int) ≤ (k : Int) := by omega
      clear h1 h2
      go_wp2
      go_quiet (fail)
      go_wp2
      go_roundw
      case rel => exact ⟨k + 1, m + nq, by omega, by go_num, rfl⟩
      case measure => simp [intOf]; omega
    · clear h1 h2
      go_wp2
      go_ret
      exact ⟨rfl, m, rfl⟩
end Go.Proofs.Qxb6605748aFmt
