/-
  THE WALK of itoaLaw (9): the decimal numeral.
-/
import Derived.Test.Qxb6605953aDoorRows
import Derived.WalkKit
import Derived.Lib.SlBytesRow
import Derived.Lib.ItoaLen
namespace Go.Proofs.Qxb6605953aDoor
open Go.RowKit

theorem hide {p : Prop} (h : p) : Hid p := h

/-- The bytes l lie in block b from o on. -/
def Row (w : World) (b o : Nat) (l : List UInt8) : Prop := ∀ i x, l[i]? = some x → w.cell? ⟨b, o + i, none⟩ = some (.int .u8 (x.toNat : Int))
theorem Row.bytes {w : World} {b o : Nat} {l : List UInt8} (h : Row w b o l) : Lib.Bytes w b o ⟨l.toArray⟩ := fun i hi => by
  refine h i _ ?_
  have : i < l.length := hi
  rw [List.getElem?_eq_getElem this]
  rfl
/-- n cells lie in block g and may be written. -/
def Room (w : World) (g n : Nat) : Prop := ∀ j, j < n → (∃ v, w.cell? ⟨g, j, none⟩ = some v) ∧ w.frozen? ⟨g, j, none⟩ = false
theorem Room.setCell {w : World} {g n : Nat} (h : Room w g n) (p : Addr) (u : Value) : Room (w.setCell p u) g n := fun j hj => by
  obtain ⟨⟨v, hv⟩, hf⟩ := h j hj
  exact ⟨cell?_setCell_some hv, by rw [World.frozen?_setCell]; exact hf⟩
theorem cell_set_ne {w : World} {g i j : Nat} (h : i ≠ j) (u : Value) : (w.setCell ⟨g, i, none⟩ u).cell? ⟨g, j, none⟩ = w.cell? ⟨g, j, none⟩ :=
  World.cell?_setCell_other _ _ _ _ (fun e => h (congrArg Addr.off e))
theorem Row.push {w : World} {b o : Nat} {l : List UInt8} (h : Row w b (o + 1) l) (x : UInt8) {v : Value} (hv : w.cell? ⟨b, o, none⟩ = some v) : Row (w.setCell ⟨b, o, none⟩ (.int .u8 (x.toNat : Int))) b o (x :: l) := fun i y hy => by
  cases i with
  | zero =>
    simp at hy
    subst hy
    exact World.cell?_setCell_same _ _ _ hv
  | succ i =>
    rw [cell_set_ne (by omega)]
    have := h i y (by simpa using hy)
    rw [show o + (i + 1) = o + 1 + i by omega]
    exact this

/-- What is still to write. -/
def rest (u : Nat) : List UInt8 := if u = 0 then [] else Lib.decDigits u
theorem rest_step {u : Nat} (h : u ≠ 0) : rest u = rest (u / 10) ++ [UInt8.ofNat (48 + u % 10)] := by
  unfold rest
  rw [if_neg h]
  by_cases h1 : u < 10
  · rw [if_pos (by omega), Lib.decDigits_one h1, show u % 10 = u by omega]
    rfl
  · rw [if_neg (by omega), Lib.decDigits, dif_neg h1]
theorem rest_pos {u : Nat} (h : u ≠ 0) : 1 ≤ (rest u).length := by
  rw [rest_step h]; simp

def Says (s : List UInt8) (w : World) (e : Ending) (w' : World) : Prop := e = .returned (.string ⟨s.toArray⟩) ∧ Below w.heap.size w w'

theorem arr35 : Tryd.prog.underlying 35 = some (.array (Tryd.prog.arrayLen 35) (Tryd.prog.elem 35)) := by kernel_rfl
theorem slice_tail (W : World) (b j : Nat) (hj : j < 24) : (Instr.sliceAt 35 (.pointer (some ⟨b, 0, none⟩)) (some (.int .i64 (j : Int))) none none).run Tryd.prog W = .ok (.slice (some ⟨b, j, none⟩) (24 - j) (24 - j)) W := by
  have hl : Tryd.prog.arrayLen 35 = 24 := by kernel_rfl
  have he : Tryd.prog.elem 35 = 5 := by kernel_rfl
  rw [run_sliceAt_array_l W 35 ⟨b, 0, none⟩ arr35 .i64 j (by omega) (by rw [hl]; omega), hl, he, Tryd.sizeOf5]
  simp only [Result.andThen, slicedAt, Int.toNat_natCast]
  rw [if_neg (by omega)]
  simp [Addr.add]
  omega
theorem digit_val (v : Nat) : ((UInt8.ofNat (48 + v % 10)).toNat : Int) = 48 + (v : Int) % 10 := by
  have h : v % 10 < 10 := Nat.mod_lt _ (by omega)
  rw [UInt8.toNat_ofNat']
  rw [Nat.mod_eq_of_lt (by omega)]
  omega
theorem conv_tail (W : World) (b j : Nat) (L : List UInt8) (h : Row W b j L) (hl : j + L.length = 24) : (convert 36 9 (.slice (some ⟨b, j, none⟩) (24 - j) (24 - j))).run Tryd.prog W = .ok (.string ⟨L.toArray⟩) W := by
  have := Lib.run_convert_whole (P := Tryd.prog) W 36 5 9 Tryd.underlying36 Tryd.underlying5 Tryd.underlying9 b j ⟨L.toArray⟩ h.bytes (24 - j)
  have e : (ByteArray.mk L.toArray).size = 24 - j := by show L.length = _; omega
  rw [e] at this
  exact this
theorem fresh_cell (w : World) (j : Nat) (hj : j < 24) : ∃ v, (w.alloc (.cells (Array.replicate 24 (.int .u8 0)) 35)).cell? ⟨w.heap.size, j, none⟩ = some v := by
  refine ⟨.int .u8 0, ?_⟩
  simp [hj]
theorem fresh_frozen (w : World) (j : Nat) : (w.alloc (.cells (Array.replicate 24 (.int .u8 0)) 35)).frozen? ⟨w.heap.size, j, none⟩ = false := by
  simp

set_option maxRecDepth 100000 in
set_option maxHeartbeats 1600000 in
theorem itoa_calls (x : Int) (w : World) (h0 : -9223372036854775808 ≤ x) (h1 : x ≤ 9223372036854775807) : Calls Tryd.prog 9 #[.int .i64 x] w (Says (Lib.itoa x) w) := by
  by_cases hz : x = 0
  · subst hz
    go_enter Tryd.func9, Tryd.ntmps9
    go_wp2
    go_ret
    exact ⟨by kernel_rfl, Below.refl _ _⟩
  by_cases hneg : x < 0
  · obtain ⟨U, rfl⟩ : ∃ U : Nat, x = -(U : Int) := ⟨x.natAbs, by omega⟩
    have hU20 : (Lib.decDigits U).length ≤ 20 := by rw [Lib.decDigits_length]; exact Lib.nDigits_le20 U (by omega)
    have hu : -(-(U : Int) + 1) + 1 = U := by omega
    go_enter Tryd.func9, Tryd.ntmps9
    go_wp2

    go_loopw [4, 6] (fun u i wr => ∃ (v j : Nat) (L : List UInt8), u = .int .u64 v ∧ i = .int .i64 j ∧ v ≤ U ∧ j + L.length = 24 ∧ Hid (Lib.decDigits U = rest v ++ L) ∧ Hid (Room wr w.heap.size 24) ∧ Hid (Row wr w.heap.size j L) ∧ Hid (Below w.heap.size w wr)) (fun u _ _ => (intOf u).toNat)
    case atStart =>
      refine ⟨U, 24, [], rfl, rfl, Nat.le_refl _, rfl, ?_, ?_, fun i x hx => by simp at hx, (Below.refl _ _).alloc (Nat.le_refl _) _⟩
      · show _ = _
        unfold rest
        rw [if_neg (by omega), List.append_nil]
      · intro j hj
        exact ⟨fresh_cell w j hj, fresh_frozen w j⟩
    case round =>
      obtain ⟨v, j, L, rfl, rfl, hvU, hjl, HD, HRm, HRw, HB⟩ := hrel
      by_cases hv : v = 0
      · subst hv
        obtain ⟨j', rfl⟩ : ∃ j', j = j' + 1 := ⟨j - 1, by have h := hU20; rw [HD.out] at h; simp [rest] at h; omega⟩
        obtain ⟨⟨v0, r0⟩, f0⟩ := HRm.out j' (by omega)
        have hjz : (0 : Int) ≤ (j' : Int) := by omega
        have hjz' : (j' : Int) < 24 := by omega
        have HP := hide (HRw.out.push 45 r0)
        have hs := slice_tail (wr.setCell ⟨w.heap.size, j', none⟩ (.int .u8 45)) w.heap.size j' (by omega)
        have hc := conv_tail (wr.setCell ⟨w.heap.size, j', none⟩ (.int .u8 45)) w.heap.size j' (45 :: L) HP.out (by simp; omega)
        go_wp2
        go_ret
        refine ⟨?_, HB.out.setCell (Nat.le_refl _) _⟩
        rw [Lib.itoa_neg U (by omega), HD.out]
        rfl
      · have hlen : 1 ≤ (rest v).length := rest_pos hv
        have htot : (rest v).length + L.length ≤ 20 := by rw [← List.length_append, ← HD.out]; exact hU20
        obtain ⟨j', rfl⟩ : ∃ j', j = j' + 1 := ⟨j - 1, by omega⟩
        obtain ⟨⟨v0, r0⟩, f0⟩ := HRm.out j' (by omega)
        have hjz : (0 : Int) ≤ (j' : Int) := by omega
        have hjz' : (j' : Int) < 24 := by omega
        have hvu : (v : Int) ≤ 18446744073709551615 := by omega
        have d0 : (0 : Int) ≤ 48 + (v : Int) % 10 := by omega
        have d1 : 48 + (v : Int) % 10 ≤ 57 := by omega
        have HP := hide (HRw.out.push (UInt8.ofNat (48 + v % 10)) r0)
        rw [digit_val] at HP
        go_wp2
        go_roundw
        case rel =>
          exact ⟨v / 10, j', UInt8.ofNat (48 + v % 10) :: L, by rw [Int.natCast_ediv]; rfl, rfl, by omega, by simp; omega, by
            show _ = _
            rw [HD.out, rest_step hv]; simp, HRm.out.setCell _ _, HP.out, HB.out.setCell (Nat.le_refl _) _⟩
        case measure => simp [intOf]; omega
  · obtain ⟨U, rfl⟩ : ∃ U : Nat, x = (U : Int) := ⟨x.natAbs, by omega⟩
    have hU20 : (Lib.decDigits U).length ≤ 20 := by rw [Lib.decDigits_length]; exact Lib.nDigits_le20 U (by omega)
    go_enter Tryd.func9, Tryd.ntmps9
    go_wp2
    go_loopw [4, 6] (fun u i wr => ∃ (v j : Nat) (L : List UInt8), u = .int .u64 v ∧ i = .int .i64 j ∧ v ≤ U ∧ j + L.length = 24 ∧ Hid (Lib.decDigits U = rest v ++ L) ∧ Hid (Room wr w.heap.size 24) ∧ Hid (Row wr w.heap.size j L) ∧ Hid (Below w.heap.size w wr)) (fun u _ _ => (intOf u).toNat)
    case atStart =>
      refine ⟨U, 24, [], rfl, rfl, Nat.le_refl _, rfl, ?_, ?_, fun i x hx => by simp at hx, (Below.refl _ _).alloc (Nat.le_refl _) _⟩
      · show _ = _
        unfold rest
        rw [if_neg (by omega), List.append_nil]
      · intro j hj
        exact ⟨fresh_cell w j hj, fresh_frozen w j⟩
    case round =>
      obtain ⟨v, j, L, rfl, rfl, hvU, hjl, HD, HRm, HRw, HB⟩ := hrel
      by_cases hv : v = 0
      · subst hv
        have hj24 : j < 24 := by
          have h := HD.out
          have h2 : 1 ≤ (Lib.decDigits U).length := by rw [Lib.decDigits_length]; exact Lib.nDigits_pos U
          rw [h] at h2
          simp [rest] at h2
          omega
        have hjz : (0 : Int) ≤ (j : Int) := by omega
        have hjz' : (j : Int) < 24 := by omega
        have hs := slice_tail wr w.heap.size j hj24
        have hc := conv_tail wr w.heap.size j L HRw.out hjl
        go_wp2
        go_ret
        refine ⟨?_, HB.out⟩
        rw [Lib.itoa_nonneg U, HD.out]
        rfl
      · have hlen : 1 ≤ (rest v).length := rest_pos hv
        have htot : (rest v).length + L.length ≤ 20 := by rw [← List.length_append, ← HD.out]; exact hU20
        obtain ⟨j', rfl⟩ : ∃ j', j = j' + 1 := ⟨j - 1, by omega⟩
        obtain ⟨⟨v0, r0⟩, f0⟩ := HRm.out j' (by omega)
        have hjz : (0 : Int) ≤ (j' : Int) := by omega
        have hjz' : (j' : Int) < 24 := by omega
        have hvu : (v : Int) ≤ 18446744073709551615 := by omega
        have d0 : (0 : Int) ≤ 48 + (v : Int) % 10 := by omega
        have d1 : 48 + (v : Int) % 10 ≤ 57 := by omega
        have HP := hide (HRw.out.push (UInt8.ofNat (48 + v % 10)) r0)
        rw [digit_val] at HP
        go_wp2
        go_roundw
        case rel =>
          exact ⟨v / 10, j', UInt8.ofNat (48 + v % 10) :: L, by rw [Int.natCast_ediv]; rfl, rfl, by omega, by simp; omega, by
            show _ = _
            rw [HD.out, rest_step hv]; simp, HRm.out.setCell _ _, HP.out, HB.out.setCell (Nat.le_refl _) _⟩
        case measure => simp [intOf]; omega
end Go.Proofs.Qxb6605953aDoor
