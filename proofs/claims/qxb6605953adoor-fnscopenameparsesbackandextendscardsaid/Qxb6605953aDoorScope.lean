/-
  THE WALK of scopeName (8) and ZZscopeName (5).
-/
import Derived.Test.Qxb6605953aDoorItoa
import Derived.Test.Qxb6605953aDoorLib
import Derived.BigRegion
import Derived.Deep.QuietTactic
namespace Go.Proofs.Qxb6605953aDoor
open Go.RowKit

theorem grow_below (w : World) (k : Nat) (os : Array Obj) : Below w.heap.size w (Sort.grow (w.drewN k) os) :=
  ⟨rfl, rfl, rfl, by simp [Sort.grow], fun i hi => by show (w.heap ++ os)[i]? = _; rw [Array.getElem?_append_left hi]⟩
theorem itoa10 (n : Int) (w : World) (h0 : -9223372036854775808 ≤ n) (h1 : n ≤ 9223372036854775807) (htab : Lib.TabIs Tryd.prog w "internal/strconv.uint64pow10" .u64 Lib.pow10Tab) :
    Calls Tryd.prog 10 #[.int .i64 n] w (Says (Lib.itoa n) w) :=
  (strconv_Itoa n h0 h1 w htab).mono fun e w' ⟨he, k, os, hw⟩ => ⟨he, by rw [hw]; exact grow_below w k os⟩

theorem gP : Tryd.prog.globalNamed "internal/strconv.uint64pow10" = some 0 := by kernel_rfl
/-- The table that Itoa reads. -/
def Tab (w : World) : Prop := Lib.TabIs Tryd.prog w "internal/strconv.uint64pow10" .u64 Lib.pow10Tab
theorem Tab.lt {w : World} (h : Tab w) : 0 < w.heap.size := by
  unfold Tab Lib.TabIs World.var? at h
  rw [gP] at h
  simp only [Option.bind_some] at h
  rcases Nat.lt_or_ge 0 w.heap.size with h' | h'
  · exact h'
  · rw [Array.getElem?_eq_none h'] at h; cases h
theorem Tab.below {w w' : World} {B : Nat} (h : Tab w) (hb : Below B w w') (hB : 0 < B) : Tab w' := by
  unfold Tab Lib.TabIs World.var? at h ⊢
  rw [gP] at h ⊢
  simp only [Option.bind_some] at h ⊢
  rw [hb.block 0 hB]
  exact h

/-- The name of the first d fields. -/
def scopeL (a b c l : Int) (d : Nat) : List UInt8 := Lib.join (([a, b, c, l].take d).map Lib.itoa) [58]

theorem info9 : (Tryd.prog.info? 9).map (fun i => (i.zero, i.size, i.bytes)) = some (some (.string ⟨#[]⟩), 1, 16) := by kernel_rfl
theorem room_of_owns {w : World} {base e size g n : Nat} {xs : List Value} (h : w.ownsRow base e size (.slice (some ⟨g, 0, none⟩) n n) n xs) : Room w g (n * size) := fun j hj => by
  refine ⟨?_, h.frozenAt j⟩
  rw [h.cellAt j hj]
  have hl : xs.length = n * size := h.1
  exact ⟨xs[j]'(by omega), List.getElem?_eq_getElem (by omega)⟩
theorem grown_below {w w' : World} (h : w.grownBy w' none) : Below w.heap.size w w' := (Below.refl _ _).grown h (Nat.le_refl _) (fun k hk => by cases hk)

theorem Room.below {w w' : World} {g n B : Nat} (h : Room w g n) (hb : Below B w w') (hg : g < B) : Room w' g n := fun j hj => by
  obtain ⟨⟨v, hv⟩, hf⟩ := h j hj
  exact ⟨⟨v, by rw [hb.cell (p := ⟨g, j, none⟩) hg]; exact hv⟩, by rw [hb.frozen (p := ⟨g, j, none⟩) hg]; exact hf⟩
def InR (x : Int) : Prop := -9223372036854775808 ≤ x ∧ x ≤ 9223372036854775807

theorem scopeL_len (a b c l : Int) (d : Nat) (hd : d ≤ 4) (ha : InR a) (hb : InR b) (hc : InR c) (hl : InR l) : (scopeL a b c l d).length ≤ 100 := by
  have h1 := Lib.itoa_length_le a ha.1 ha.2
  have h2 := Lib.itoa_length_le b hb.1 hb.2
  have h3 := Lib.itoa_length_le c hc.1 hc.2
  have h4 := Lib.itoa_length_le l hl.1 hl.2
  match d, hd with
  | 0, _ => simp [scopeL, Lib.join, List.intercalate]
  | 1, _ => simp [scopeL, Lib.join, List.intercalate]; omega
  | 2, _ => simp [scopeL, Lib.join, List.intercalate]; omega
  | 3, _ => simp [scopeL, Lib.join, List.intercalate]; omega
  | 4, _ => simp [scopeL, Lib.join, List.intercalate]; omega

/-- The names, as the slice holds them. -/
def namesOf (a b c l : Int) (d : Nat) : List ByteArray := ([a, b, c, l].take d).map fun x => ⟨(Lib.itoa x).toArray⟩
theorem namesOf_len (a b c l : Int) (d : Nat) (hd : d ≤ 4) : (namesOf a b c l d).length = d := by simp [namesOf]; omega
theorem namesOf_at (a b c l : Int) (d j : Nat) (x : ByteArray) (h : (namesOf a b c l d)[j]? = some x) : j < d ∧ ∃ y, [a, b, c, l][j]? = some y ∧ x = ⟨(Lib.itoa y).toArray⟩ := by
  unfold namesOf at h
  rw [List.getElem?_map, Option.map_eq_some_iff] at h
  obtain ⟨y, hy, rfl⟩ := h
  rw [List.getElem?_take] at hy
  by_cases hj : j < d
  · rw [if_pos hj] at hy; exact ⟨hj, y, hy, rfl⟩
  · rw [if_neg hj] at hy; cases hy
theorem namesOf_join (a b c l : Int) (d : Nat) : Lib.join ((namesOf a b c l d).map (·.data.toList)) [58] = scopeL a b c l d := by
  unfold namesOf scopeL
  rw [List.map_map]
  rfl
theorem join_calls (a b c l : Int) (d G : Nat) (hd : d ≤ 4) (w : World) (ha : InR a) (hb : InR b) (hc : InR c) (hl : InR l)
    (h : ∀ j x, j < d → [a, b, c, l][j]? = some x → w.cell? ⟨G, j, none⟩ = some (.string ⟨(Lib.itoa x).toArray⟩)) :
    Calls Tryd.prog 11 #[.slice (some ⟨G, 0, none⟩) d d, .string ⟨#[58]⟩] w (Says (scopeL a b c l d) w) := by
  by_cases h0 : d = 0
  · subst h0
    exact (strings_Join_none _ 0 ⟨#[58]⟩ w).mono fun e w' ⟨he, hw⟩ => ⟨he, by rw [hw]; exact Below.refl _ _⟩
  have hl' := scopeL_len a b c l d hd ha hb hc hl
  have hn := namesOf_len a b c l d hd
  obtain ⟨x0, hx0⟩ : ∃ x, [a, b, c, l][0]? = some x := ⟨a, rfl⟩
  have hG : G < w.heap.size := World.block_lt_of_cell? _ _ (h 0 x0 (by omega) hx0)
  have := strings_Join G 0 d (namesOf a b c l d) ⟨#[58]⟩ w (fun j x hx => by
    obtain ⟨hj, y, hy, rfl⟩ := namesOf_at a b c l d j x hx
    rw [Nat.zero_add]
    exact h j y hj hy) hG (by omega) (by omega) (by
      show (Lib.join ((namesOf a b c l d).map (·.data.toList)) [58]).length ≤ _
      rw [namesOf_join]; omega)
  rw [hn] at this
  refine this.mono fun e w' ⟨he, hb'⟩ => ⟨?_, hb'⟩
  rw [he]
  show Ending.returned (.string ⟨(Lib.join ((namesOf a b c l d).map (·.data.toList)) [58]).toArray⟩) = _
  rw [namesOf_join]

set_option maxRecDepth 100000 in
set_option maxHeartbeats 1600000 in
theorem scope_calls (a b c l : Int) (d : Nat) (hd : d ≤ 4) (w : World) (ha : InR a) (hb : InR b) (hc : InR c) (hl : InR l) (ht : Tab w) :
    Calls Tryd.prog 8 #[.agg #[.int .i64 a, .int .i64 b, .int .i64 c, .int .i64 l], .int .i64 d] w (Says (scopeL a b c l d) w) := by
  obtain ⟨i9, hi9, hz90, hz91, hz92⟩ := info_parts info9
  have HT := hide ht
  clear ht
  go_enter Tryd.func8, Tryd.ntmps8
  go_wp2_with (first
    | (at_make; refine wpList_make_full _ rfl _ _ 33 rfl 0 9 i9 (.string ⟨#[]⟩) 1 Tryd.underlying33 hi9 hz90 hz91 .i64 .i64 _ _ d rfl rfl (by omega) (by omega) (by rw [hz92]; omega) (by unfold maxLen; omega) (Nat.zero_le _) ?_; intro w1 hown hgrow))
  have hroom : Room w1 (w.heap.size + 1 + 1) d := by have := room_of_owns hown; simpa using this
  have hb0 : Below w.heap.size w ((w.alloc (.cells #[.int .i64 a, .int .i64 b, .int .i64 c, .int .i64 l] 23)).alloc (.cells #[.int .i64 a, .int .i64 b, .int .i64 c, .int .i64 l] 3)) :=
    ((Below.refl _ _).alloc (Nat.le_refl _) _).alloc (by simp) _
  have hb1 := grown_below hgrow
  have HB1 : Hid (Below w.heap.size w w1) := hb0.trans (hb1.mono (by simp; omega))
  have HS1 : w.heap.size + 1 + 1 ≤ w1.heap.size := by have := hb1.size; simpa using this
  have HF : Hid (∀ j x, [a, b, c, l][j]? = some x → w1.cell? ⟨w.heap.size + 1, j, none⟩ = some (.int .i64 x)) := fun j x hx => by
    rw [hb1.cell (p := ⟨w.heap.size + 1, j, none⟩) (by simp)]
    match j, hx with
    | 0, hx => simp at hx; subst hx; simp
    | 1, hx => simp at hx; subst hx; simp
    | 2, hx => simp at hx; subst hx; simp
    | 3, hx => simp at hx; subst hx; simp
  clear hown hgrow hb0 hb1 hi9 hz90 hz91 hz92
  go_loopw [25] (fun i wr => ∃ k : Nat, k ≤ d ∧ i = .int .i64 k ∧ Hid (Room wr (w.heap.size + 1 + 1) d) ∧ Hid (Below (w.heap.size + 1 + 1) w1 wr) ∧ Hid (∀ j x, j < k → [a, b, c, l][j]? = some x → wr.cell? ⟨w.heap.size + 1 + 1, j, none⟩ = some (.string ⟨(Lib.itoa x).toArray⟩))) (fun i _ => d - (intOf i).toNat)
  case atStart => exact ⟨0, Nat.zero_le _, rfl, hroom, Below.refl _ _, fun j x hj => by omega⟩
  case round =>
    obtain ⟨k, hk, rfl, HR, HB, HC⟩ := hrel
    clear hroom
    by_cases hlt : k < d
    · obtain ⟨x, hx⟩ : ∃ x, [a, b, c, l][k]? = some x := ⟨_, List.getElem?_eq_getElem (by simp; omega)⟩
      have hxr : InR x := by
        have := List.mem_of_getElem? hx
        simp at this
        rcases this with rfl | rfl | rfl | rfl <;> assumption
      have Hx := hide hx
      clear hx
      have hcx : wr.cell? ⟨w.heap.size + 1, k, none⟩ = some (.int .i64 x) := by rw [HB.out.cell (p := ⟨w.heap.size + 1, k, none⟩) (by simp)]; exact HF.out k x Hx.out
      have kd : (k : Int) < (d : Int) := by omega
      have hG : w.heap.size + 1 + 1 < wr.heap.size := by obtain ⟨⟨v, hv⟩, _⟩ := HR.out k hlt; exact World.block_lt_of_cell? _ _ hv
      have HTr := hide (HT.out.below (HB1.out.trans (HB.out.mono (by omega))) HT.out.lt)
      go_wp2_with fail
      refine (itoa10 x wr hxr.1 hxr.2 HTr.out).mono ?_
      rintro e w2 ⟨rfl, hb2⟩
      have HR2 := hide (HR.out.below hb2 hG)
      have HB2 : Hid (Below (w.heap.size + 1 + 1) w1 w2) := HB.out.trans (hb2.mono (by omega))
      have HC2 : Hid (∀ j x, j < k → [a, b, c, l][j]? = some x → w2.cell? ⟨w.heap.size + 1 + 1, j, none⟩ = some (.string ⟨(Lib.itoa x).toArray⟩)) := fun j x hj hx => by
        rw [hb2.cell (p := ⟨w.heap.size + 1 + 1, j, none⟩) hG]; exact HC.out j x hj hx
      obtain ⟨⟨v, hv⟩, hf⟩ := HR2.out k hlt
      clear hb2 HR HB HC HTr hcx
      go_wp2
      go_roundw
      case rel =>
        refine ⟨k + 1, by omega, by go_num, HR2.out.setCell _ _, HB2.out.setCell (Nat.le_refl _) _, fun j y hj hy => ?_⟩
        by_cases e : k = j
        · subst e
          have : y = x := Option.some.inj (hy.symm.trans Hx.out)
          subst this
          exact World.cell?_setCell_same _ _ _ hv
        · rw [cell_set_ne e]; exact HC2.out j y (by omega) hy
      case measure => simp [intOf]; omega
    · obtain rfl : k = d := by omega
      go_wp2_with fail
      refine (join_calls a b c l k _ hd wr ha hb hc hl HC.out).mono ?_
      rintro e w2 ⟨rfl, hb2⟩
      have HB2 : Hid (Below w.heap.size w w2) := (HB1.out.trans (HB.out.mono (by omega))).trans (hb2.mono (by have := HB.out.size; omega))
      clear hb2
      go_wp2
      go_ret
      exact ⟨rfl, HB2.out⟩

set_option maxHeartbeats 400000 in
theorem zzscope_calls (a b c l : Int) (d : Nat) (hd : d ≤ 4) (w : World) (ha : InR a) (hb : InR b) (hc : InR c) (hl : InR l) (ht : Tab w) :
    Calls Tryd.prog 5 #[.agg #[.int .i64 a, .int .i64 b, .int .i64 c, .int .i64 l], .int .i64 d] w (Says (scopeL a b c l d) w) := by
  have HT := hide ht
  clear ht
  go_enter Tryd.func5, Tryd.ntmps5
  go_wp2_with fail
  refine (scope_calls a b c l d hd _ ha hb hc hl (HT.out.below ((Below.refl _ w).alloc (Nat.le_refl _) _) HT.out.lt)).mono ?_
  rintro e w2 ⟨rfl, hb2⟩
  have HB2 : Hid (Below w.heap.size w w2) := ((Below.refl _ w).alloc (Nat.le_refl _) _).trans (hb2.mono (by simp))
  clear hb2
  go_wp2
  go_ret
  exact ⟨rfl, HB2.out⟩
end Go.Proofs.Qxb6605953aDoor
