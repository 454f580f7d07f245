/-
  THE WALKS of scopeModel (6) and of FnScopeNameExact (3).
-/
import Derived.Test.Qxb6605953aDoorScope
namespace Go.Proofs.Qxb6605953aDoor
open Go.RowKit

theorem cat (x y : List UInt8) : (⟨x.toArray⟩ : ByteArray) ++ ⟨y.toArray⟩ = ⟨(x ++ y).toArray⟩ := by
  apply ByteArray.ext
  simp [ByteArray.data_append]
theorem itoa_says (x : Int) (w : World) (h0 : -9223372036854775808 ≤ x) (h1 : x ≤ 9223372036854775807) (s : ByteArray) (hs : s = ⟨(Lib.itoa x).toArray⟩) : Calls Tryd.prog 9 #[.int .i64 x] w (fun e w' => e = .returned (.string s) ∧ Below w.heap.size w w') := by
  rw [hs]; exact itoa_calls x w h0 h1
theorem colon : (⟨#[58]⟩ : ByteArray) = ⟨[58].toArray⟩ := rfl

set_option linter.unusedSimpArgs false in
set_option maxRecDepth 100000 in
set_option maxHeartbeats 1600000 in
theorem model_calls (a b c l : Int) (d : Nat) (hd : d ≤ 4) (w : World) (ha : InR a) (hb : InR b) (hc : InR c) (hl : InR l) :
    Calls Tryd.prog 6 #[.int .i64 a, .int .i64 b, .int .i64 c, .int .i64 l, .int .i64 d] w (Says (scopeL a b c l d) w) := by
  match d, hd with
  | 0, _ =>
    go_enter Tryd.func6, Tryd.ntmps6
    go_wp2
    go_ret
    exact ⟨by simp [scopeL, Lib.join, List.intercalate], Below.refl _ _⟩
  | 1, _ =>
    obtain ⟨sa, ea⟩ : ∃ s : ByteArray, s = ⟨(Lib.itoa a).toArray⟩ := ⟨_, rfl⟩
    have za : sa.size ≤ 21 := by rw [ea]; exact Lib.itoa_length_le a ha.1 ha.2
    have Ea := hide ea
    clear ea
    go_enter Tryd.func6, Tryd.ntmps6
    go_wp2_with fail
    refine (itoa_says a _ ha.1 ha.2 sa Ea.out).mono ?_
    rintro e w1 ⟨rfl, hb1⟩
    have HB1 : Hid (Below w.heap.size w w1) := hb1
    clear hb1
    go_wp2
    go_ret
    refine ⟨?_, HB1.out⟩
    rw [Ea.out]
    simp [scopeL, Lib.join, List.intercalate]
  | 2, _ =>
    obtain ⟨sa, ea⟩ : ∃ s : ByteArray, s = ⟨(Lib.itoa a).toArray⟩ := ⟨_, rfl⟩
    have za : sa.size ≤ 21 := by rw [ea]; exact Lib.itoa_length_le a ha.1 ha.2
    have Ea := hide ea
    clear ea
    obtain ⟨sb, eb⟩ : ∃ s : ByteArray, s = ⟨(Lib.itoa b).toArray⟩ := ⟨_, rfl⟩
    have zb : sb.size ≤ 21 := by rw [eb]; exact Lib.itoa_length_le b hb.1 hb.2
    have Eb := hide eb
    clear eb
    go_enter Tryd.func6, Tryd.ntmps6
    go_wp2_with fail
    refine (itoa_says a _ ha.1 ha.2 sa Ea.out).mono ?_
    rintro e w1 ⟨rfl, hb1⟩
    have HB1 : Hid (Below w.heap.size w w1) := hb1
    clear hb1
    go_wp2_with fail
    refine (itoa_says b _ hb.1 hb.2 sb Eb.out).mono ?_
    rintro e w2 ⟨rfl, hb2⟩
    have HB2 : Hid (Below w.heap.size w w2) := HB1.out.trans (hb2.mono HB1.out.size)
    clear hb2
    go_wp2
    go_ret
    refine ⟨?_, HB2.out⟩
    rw [Ea.out, Eb.out]
    simp only [colon, cat]
    simp [scopeL, Lib.join, List.intercalate]
  | 3, _ =>
    obtain ⟨sa, ea⟩ : ∃ s : ByteArray, s = ⟨(Lib.itoa a).toArray⟩ := ⟨_, rfl⟩
    have za : sa.size ≤ 21 := by rw [ea]; exact Lib.itoa_length_le a ha.1 ha.2
    have Ea := hide ea
    clear ea
    obtain ⟨sb, eb⟩ : ∃ s : ByteArray, s = ⟨(Lib.itoa b).toArray⟩ := ⟨_, rfl⟩
    have zb : sb.size ≤ 21 := by rw [eb]; exact Lib.itoa_length_le b hb.1 hb.2
    have Eb := hide eb
    clear eb
    obtain ⟨sc, ec⟩ : ∃ s : ByteArray, s = ⟨(Lib.itoa c).toArray⟩ := ⟨_, rfl⟩
    have zc : sc.size ≤ 21 := by rw [ec]; exact Lib.itoa_length_le c hc.1 hc.2
    have Ec := hide ec
    clear ec
    go_enter Tryd.func6, Tryd.ntmps6
    go_wp2_with fail
    refine (itoa_says a _ ha.1 ha.2 sa Ea.out).mono ?_
    rintro e w1 ⟨rfl, hb1⟩
    have HB1 : Hid (Below w.heap.size w w1) := hb1
    clear hb1
    go_wp2_with fail
    refine (itoa_says b _ hb.1 hb.2 sb Eb.out).mono ?_
    rintro e w2 ⟨rfl, hb2⟩
    have HB2 : Hid (Below w.heap.size w w2) := HB1.out.trans (hb2.mono HB1.out.size)
    clear hb2
    go_wp2_with fail
    refine (itoa_says c _ hc.1 hc.2 sc Ec.out).mono ?_
    rintro e w3 ⟨rfl, hb3⟩
    have HB3 : Hid (Below w.heap.size w w3) := HB2.out.trans (hb3.mono HB2.out.size)
    clear hb3
    go_wp2
    go_ret
    refine ⟨?_, HB3.out⟩
    rw [Ea.out, Eb.out, Ec.out]
    simp only [colon, cat]
    simp [scopeL, Lib.join, List.intercalate]
  | 4, _ =>
    obtain ⟨sa, ea⟩ : ∃ s : ByteArray, s = ⟨(Lib.itoa a).toArray⟩ := ⟨_, rfl⟩
    have za : sa.size ≤ 21 := by rw [ea]; exact Lib.itoa_length_le a ha.1 ha.2
    have Ea := hide ea
    clear ea
    obtain ⟨sb, eb⟩ : ∃ s : ByteArray, s = ⟨(Lib.itoa b).toArray⟩ := ⟨_, rfl⟩
    have zb : sb.size ≤ 21 := by rw [eb]; exact Lib.itoa_length_le b hb.1 hb.2
    have Eb := hide eb
    clear eb
    obtain ⟨sc, ec⟩ : ∃ s : ByteArray, s = ⟨(Lib.itoa c).toArray⟩ := ⟨_, rfl⟩
    have zc : sc.size ≤ 21 := by rw [ec]; exact Lib.itoa_length_le c hc.1 hc.2
    have Ec := hide ec
    clear ec
    obtain ⟨sl, el⟩ : ∃ s : ByteArray, s = ⟨(Lib.itoa l).toArray⟩ := ⟨_, rfl⟩
    have zl : sl.size ≤ 21 := by rw [el]; exact Lib.itoa_length_le l hl.1 hl.2
    have El := hide el
    clear el
    go_enter Tryd.func6, Tryd.ntmps6
    go_wp2_with fail
    refine (itoa_says a _ ha.1 ha.2 sa Ea.out).mono ?_
    rintro e w1 ⟨rfl, hb1⟩
    have HB1 : Hid (Below w.heap.size w w1) := hb1
    clear hb1
    go_wp2_with fail
    refine (itoa_says b _ hb.1 hb.2 sb Eb.out).mono ?_
    rintro e w2 ⟨rfl, hb2⟩
    have HB2 : Hid (Below w.heap.size w w2) := HB1.out.trans (hb2.mono HB1.out.size)
    clear hb2
    go_wp2_with fail
    refine (itoa_says c _ hc.1 hc.2 sc Ec.out).mono ?_
    rintro e w3 ⟨rfl, hb3⟩
    have HB3 : Hid (Below w.heap.size w w3) := HB2.out.trans (hb3.mono HB2.out.size)
    clear hb3
    go_wp2_with fail
    refine (itoa_says l _ hl.1 hl.2 sl El.out).mono ?_
    rintro e w4 ⟨rfl, hb4⟩
    have HB4 : Hid (Below w.heap.size w w4) := HB3.out.trans (hb4.mono HB3.out.size)
    clear hb4
    go_wp2
    go_ret
    refine ⟨?_, HB4.out⟩
    rw [Ea.out, Eb.out, Ec.out, El.out]
    simp only [colon, cat]
    simp [scopeL, Lib.join, List.intercalate]

/-- What a law leaves: true; nothing that was there has turned. -/
def LawBack (w : World) (e : Ending) (w' : World) : Prop := e = .returned (.bool true) ∧ Below w.heap.size w w'

set_option maxRecDepth 100000 in
set_option maxHeartbeats 1600000 in
theorem exact_calls (a b c l d : Int) (w : World) (ha : InR a) (hb : InR b) (hc : InR c) (hl : InR l) (ht : Tab w) :
    Calls Tryd.prog 3 #[.int .i64 a, .int .i64 b, .int .i64 c, .int .i64 l, .int .i64 d] w (LawBack w) := by
  have HT := hide ht
  clear ht
  by_cases h0 : d < 0
  · go_enter Tryd.func3, Tryd.ntmps3
    go_wp2
    go_ret
    exact ⟨rfl, Below.refl _ _⟩
  by_cases h1 : 4 < d
  · go_enter Tryd.func3, Tryd.ntmps3
    go_wp2
    go_ret
    exact ⟨rfl, Below.refl _ _⟩
  obtain ⟨n, rfl⟩ : ∃ n : Nat, d = n := ⟨d.toNat, by omega⟩
  have hn : n ≤ 4 := by omega
  go_enter Tryd.func3, Tryd.ntmps3
  go_wp2_with fail
  obtain ⟨s, es⟩ : ∃ s : ByteArray, s = ⟨(scopeL a b c l n).toArray⟩ := ⟨_, rfl⟩
  have ES := hide es
  clear es
  refine (zzscope_calls a b c l n hn _ ha hb hc hl (HT.out.below ((Below.refl _ w).alloc (Nat.le_refl _) _) HT.out.lt)).mono ?_
  rintro e w1 ⟨rfl, hb1⟩
  rw [← ES.out]
  have HB1 : Hid (Below w.heap.size w w1) := ((Below.refl _ w).alloc (Nat.le_refl _) _).trans (hb1.mono (by simp))
  clear hb1
  go_wp2_with fail
  refine (model_calls a b c l n hn _ ha hb hc hl).mono ?_
  rintro e w2 ⟨rfl, hb2⟩
  rw [← ES.out]
  have HB2 : Hid (Below w.heap.size w w2) := HB1.out.trans (hb2.mono HB1.out.size)
  clear hb2
  go_wp2
  go_ret
  exact ⟨rfl, HB2.out⟩
end Go.Proofs.Qxb6605953aDoor
