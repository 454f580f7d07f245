/-
  THE WALK of readArgument (12).
-/
import Derived.Test.Qxb6605748aFmtRoles
import Derived.Test.Qxb6605748aFmtCount
namespace Go.Proofs.Qxb6605748aFmt
open Go.RowKit Go.Extern.Stop Go.Stop Go.Extern

abbrev roleName : ByteArray := ⟨#[97, 32, 114, 111, 108, 101]⟩

/-- The count that a text gives. -/
def countArg (s : ByteArray) (pos : Int) : Option Arg :=
  match numOf s with
  | some v => if 0 ≤ v then some ⟨countName, none, none, v, pos⟩ else none
  | none => none

/-- What readArgument reads from token k on, and where the cursor stands behind it. -/
def readArg (T : Nat → Tok) (n k : Nat) : Option Arg × Nat :=
  if (T k).kind = 3 then (some ⟨roleName, some [unq (T k)], some [(T k).pos], 0, (T k).pos⟩, k + 1)
  else if (T k).kind = 4 then (countArg (T k).text (T k).pos, k + 1)
  else if (T k).kind = 20 then
    if (T (k + 1)).kind = 4 then (countArg ((T k).text ++ (T (k + 1)).text) (T k).pos, k + 2) else (countArg (T k).text (T k).pos, k + 1)
  else if (T k).kind = 7 then (rolesArg (listRun T n (k + 1)).1 (T k).pos, (listRun T n (k + 1)).2)
  else (none, nx T k)

/-- What readCount leaves, as an argument. -/
theorem ArgBack.of_count {s : ByteArray} {pos : Int} {C B n k : Nat} {w w' : World} {e : Ending} (h : CountBack s pos C B n k w e w') : ArgBack (countArg s pos) C B n k w e w' := by
  obtain ⟨h, r⟩ := h
  refine ⟨?_, r⟩
  unfold countArg
  rcases h with ⟨v, hv, h0, rfl⟩ | ⟨hv, p, rfl⟩
  · rw [hv]; simp only [h0, if_true]; exact ⟨_, _, rfl, rfl, rfl⟩
  · cases hn : numOf s with
    | none => exact ⟨p, rfl⟩
    | some v => simp only [Int.not_le.2 (hv v hn), if_false]; exact ⟨p, rfl⟩

theorem one_str {w : World} {g : Nat} {x : ByteArray} (h : w.cell? ⟨g, 0, none⟩ = some (.string x)) : Strs w g 0 [x].length (fun j => [x].getD j ⟨#[]⟩) := fun j hj => by
  obtain rfl : j = 0 := by simp at hj; omega
  exact h
theorem one_int {w : World} {g : Nat} {x : Int} (h : w.cell? ⟨g, 0, none⟩ = some (.int .i64 x)) : Ints w g 0 [x].length (fun j => [x].getD j 0) := fun j hj => by
  obtain rfl : j = 0 := by simp at hj; omega
  exact h
theorem below_eight {w w1 : World} {B r : Nat} (h : Below B w w1) (hr : B ≤ r) (hs : B ≤ w1.heap.size) (v0 v1 v2 v3 v4 : Value) (o1 o2 o3 : Obj) :
    Below B w ((((((((w1.setCell ⟨r, 0, none⟩ v0).setCell ⟨r, 1, none⟩ v1).setCell ⟨r, 2, none⟩ v2).setCell ⟨r, 3, none⟩ v3).setCell ⟨r, 4, none⟩ v4).alloc o1).alloc o2).alloc o3).drew :=
  ((((below_five h hr v0 v1 v2 v3 v4).alloc (by simpa using hs) _).alloc (by simp; omega) _).alloc (by simp; omega) _).drew
attribute [local go_sem ↓] Go.wp_at_zero Go.wp_at_succ

theorem co {W : World} {a : Addr} {v : Value} {o : Obj} (h : W.cell? a = some v) : (W.alloc o).cell? a = some v := by
  have hlt : a.block < W.heap.size := World.block_lt_of_cell? _ _ h
  have e : (W.alloc o).cell? a = W.cell? a := by simp only [World.cell?, World.alloc, Array.getElem?_push, Nat.ne_of_lt hlt, if_false]
  rw [e, h]
theorem s5 {W : World} {r b i : Nat} {v v0 v1 v2 v3 v4 : Value} (hr : r ≠ b) (h : W.cell? ⟨b, i, none⟩ = some v) :
    (((((W.setCell ⟨r, 0, none⟩ v0).setCell ⟨r, 1, none⟩ v1).setCell ⟨r, 2, none⟩ v2).setCell ⟨r, 3, none⟩ v3).setCell ⟨r, 4, none⟩ v4).cell? ⟨b, i, none⟩ = some v := by
  rw [World.cell?_setCell_far _ _ _ _ hr, World.cell?_setCell_far _ _ _ _ hr, World.cell?_setCell_far _ _ _ _ hr, World.cell?_setCell_far _ _ _ _ hr, World.cell?_setCell_far _ _ _ _ hr]; exact h

section
variable (F : Interp) (C B n k : Nat) (T : Nat → Tok) (w : World)

set_option linter.unusedSimpArgs false in
set_option maxRecDepth 100000 in
set_option maxHeartbeats 2000000 in
theorem arg_string (hT : Toks w B n T) (hC : Cur w C B n k) (hk : k < n) (hn : n ≤ 65537) (FT : Fit T n) (h3 : (T k).kind = 3) :
    Calls Tryf.prog 12 #[.pointer (some ⟨C, 0, none⟩)] w (ArgBack (some ⟨roleName, some [unq (T k)], some [(T k).pos], 0, (T k).pos⟩) C B n (k + 1) w) := by
  have hCw := hC.lt
  have hBw := hT.lt (by omega)
  have hq := FT.quoted k hk h3
  have hsh := FT.short k hk
  have h3' : ((T k).kind == 3) = true := by simp [h3]
  have h30 := hide (show (T k).kind ≠ 0 by omega)
  have hb0 : Below w.heap.size w (w.alloc (.cells #[.string ⟨#[]⟩, .slice none 0 0, .slice none 0 0, .int .i64 0, .int .i64 0] 43)) := (Below.refl _ w).alloc (Nat.le_refl _) _
  have HT := hide (hT.bx (D := w.heap.size) (C := w.heap.size) (Bx.of hb0) hBw (by omega))
  have HC := hide (hC.below hb0 hCw)
  clear hT hC h3 hb0
  go_enter Tryf.func12, Tryf.ntmps12
  go_wp2_with fail
  refine (advance_step C B n k T _ HT.out HC.out hk hn h30.out).mono ?_
  rintro e wa ⟨rfl, hba, hca⟩
  dsimp only [Tok.val]
  have hsa : w.heap.size + 1 ≤ wa.heap.size := by have := hba.size; simpa using this
  have hc : ∀ b o, b < w.heap.size + 1 → b ≠ C → wa.cell? ⟨b, o, none⟩ = (w.alloc (.cells #[.string ⟨#[]⟩, .slice none 0 0, .slice none 0 0, .int .i64 0, .int .i64 0] 43)).cell? ⟨b, o, none⟩ := fun b o h1 h2 => hba.cell (p := ⟨b, o, none⟩) (by simpa using h1) h2
  have hf : ∀ b o, b < w.heap.size + 1 → b ≠ C → wa.frozen? ⟨b, o, none⟩ = (w.alloc (.cells #[.string ⟨#[]⟩, .slice none 0 0, .slice none 0 0, .int .i64 0, .int .i64 0] 43)).frozen? ⟨b, o, none⟩ := fun b o h1 h2 => hba.frozen (p := ⟨b, o, none⟩) (by simpa using h1) h2
  have hne : w.heap.size ≠ C := by omega
  have HBA : Hid (Bx w.heap.size C w wa) := (Bx.of ((Below.refl _ w).alloc (Nat.le_refl _) _)).trans (hba.mono (by simp))
  have HCA := hide hca
  have hz : w.heap.size < wa.heap.size := by omega
  clear hba hca HT HC
  go_wp2_with fail
  have rc : ∀ o v, (w.alloc (.cells #[.string ⟨#[]⟩, .slice none 0 0, .slice none 0 0, .int .i64 0, .int .i64 0] 43)).cell? ⟨w.heap.size, o, none⟩ = some v → (wa.alloc (Obj.cells #[Value.int IntKind.i64 (T k).kind, Value.string (T k).text, Value.int IntKind.i64 (T k).pos, Value.int IntKind.i64 (T k).fin] 37)).cell? ⟨w.heap.size, o, none⟩ = some v := fun o v h => by
    rw [World.cell?_alloc_past _ _ _ hz, hc _ _ (by omega) hne]; exact h
  have rf : ∀ o, (wa.alloc (Obj.cells #[Value.int IntKind.i64 (T k).kind, Value.string (T k).text, Value.int IntKind.i64 (T k).pos, Value.int IntKind.i64 (T k).fin] 37)).frozen? ⟨w.heap.size, o, none⟩ = false := fun o => by
    rw [World.frozen?_alloc_past _ _ _ hz, hf _ _ (by omega) hne]; simp
  have c0 := rc 0 (.string ⟨#[]⟩) (by simp)
  have c1 := rc 1 (.slice none 0 0) (by simp)
  have c2 := rc 2 (.slice none 0 0) (by simp)
  have c3 := rc 3 (.int .i64 0) (by simp)
  have c4 := rc 4 (.int .i64 0) (by simp)
  generalize hWZ : wa.alloc (Obj.cells #[Value.int IntKind.i64 (T k).kind, Value.string (T k).text, Value.int IntKind.i64 (T k).pos, Value.int IntKind.i64 (T k).fin] 37) = wz at *
  have tc0 : wz.cell? ⟨wa.heap.size, 0, none⟩ = some (.int .i64 (T k).kind) := by rw [← hWZ]; simp
  have tc1 : wz.cell? ⟨wa.heap.size, 1, none⟩ = some (.string (T k).text) := by rw [← hWZ]; simp
  have tc2 : wz.cell? ⟨wa.heap.size, 2, none⟩ = some (.int .i64 (T k).pos) := by rw [← hWZ]; simp
  have tc3 : wz.cell? ⟨wa.heap.size, 3, none⟩ = some (.int .i64 (T k).fin) := by rw [← hWZ]; simp
  have hzs : wz.heap.size = wa.heap.size + 1 := by rw [← hWZ]; simp
  have HBZ := hide (show Below wa.heap.size wa wz by rw [← hWZ]; exact (Below.refl _ _).alloc (Nat.le_refl _) _)
  have lz : w.heap.size < wz.heap.size := by omega
  have lz1 : w.heap.size < wz.heap.size + 1 := by omega
  have lz2 : w.heap.size < wz.heap.size + 1 + 1 := by omega
  have lt : wa.heap.size < wz.heap.size := by omega
  have lt1 : wa.heap.size < wz.heap.size + 1 := by omega
  have lt2 : wa.heap.size < wz.heap.size + 1 + 1 := by omega
  have hrt : w.heap.size ≠ wa.heap.size := by omega
  have HZS := hide hzs
  clear hWZ hc hf rc hzs
  generalize htb : wa.heap.size = tb at *
  have HTB := hide htb
  clear htb
  refine wp_region_X (fun _ => True) (fun w' => w'.cell? ⟨tb, 0, none⟩ = some (.int .i64 (T k).kind) ∧ w'.cell? ⟨tb, 1, none⟩ = some (.string (T k).text) ∧ w'.cell? ⟨tb, 2, none⟩ = some (.int .i64 (T k).pos) ∧ w'.cell? ⟨tb, 3, none⟩ = some (.int .i64 (T k).fin)) (fun j => decide (9 ≤ j)) (by kernel_rfl) ?_
  have HS : Hid (wz.drew.cell? ⟨tb, 0, none⟩ = some (.int .i64 (T k).kind) ∧ wz.drew.cell? ⟨tb, 1, none⟩ = some (.string (T k).text) ∧ wz.drew.cell? ⟨tb, 2, none⟩ = some (.int .i64 (T k).pos) ∧ wz.drew.cell? ⟨tb, 3, none⟩ = some (.int .i64 (T k).fin)) := ⟨tc0, tc1, tc2, tc3⟩
  refine wpAnyX_take (i := 0) (v := .agg #[.int .i64 (T k).kind, .string (T k).text, .int .i64 (T k).pos, .int .i64 (T k).fin]) rfl (by kernel_rfl) (by kernel_rfl) (by kernel_rfl) (by kernel_rfl) (fun _ _ _ h => h) (Or.inl ⟨by rfl, fun w hSw => by obtain ⟨e0, e1, e2, e3⟩ := hSw; go_simp⟩) trivial HS ?_
  simp only [Act.put, List.setIfInBounds_toArray, List.set_cons_zero, List.set_cons_succ]
  refine wpAnyX_take (i := 3) (v := .pointer (some ⟨tb, 2, none⟩)) rfl (by kernel_rfl) (by kernel_rfl) (by kernel_rfl) (by kernel_rfl) (fun _ _ _ h => h) (Or.inl ⟨by rfl, fun w hSw => by obtain ⟨e0, e1, e2, e3⟩ := hSw; go_simp⟩) trivial HS ?_
  simp only [Act.put, List.setIfInBounds_toArray, List.set_cons_zero, List.set_cons_succ]
  refine wpAnyX_take (i := 4) (v := .int .i64 (T k).pos) rfl (by kernel_rfl) (by kernel_rfl) (by kernel_rfl) (by kernel_rfl) (fun _ _ _ h => h) (Or.inl ⟨by rfl, fun w hSw => by obtain ⟨e0, e1, e2, e3⟩ := hSw; go_simp⟩) trivial HS ?_
  simp only [Act.put, List.setIfInBounds_toArray, List.set_cons_zero, List.set_cons_succ]
  refine wpAnyX_take (i := 6) (v := .pointer (some ⟨tb, 2, none⟩)) rfl (by kernel_rfl) (by kernel_rfl) (by kernel_rfl) (by kernel_rfl) (fun _ _ _ h => h) (Or.inl ⟨by rfl, fun w hSw => by obtain ⟨e0, e1, e2, e3⟩ := hSw; go_simp⟩) trivial HS ?_
  simp only [Act.put, List.setIfInBounds_toArray, List.set_cons_zero, List.set_cons_succ]
  refine wpAnyX_take (i := 7) (v := .int .i64 (T k).pos) rfl (by kernel_rfl) (by kernel_rfl) (by kernel_rfl) (by kernel_rfl) (fun _ _ _ h => h) (Or.inl ⟨by rfl, fun w hSw => by obtain ⟨e0, e1, e2, e3⟩ := hSw; go_simp⟩) trivial HS ?_
  simp only [Act.put, List.setIfInBounds_toArray, List.set_cons_zero, List.set_cons_succ]
  refine wpAnyX_ready (rs := [1, 5]) (by kernel_rfl) (by simp) ?_
  refine AllReadyX.cons rfl (fun K hK => ?_) ?_
  · go_simp
    refine (unquoted_calls (T k) _ hq hsh).mono ?_
    rintro e w' ⟨rfl, rfl⟩
    refine hK.out _ _ trivial (fun _ => ⟨(co tc0), (co tc1), (co tc2), (co tc3)⟩) ?_
    clear hK K
    try simp only [Act.put, List.setIfInBounds_toArray, List.set_cons_zero, List.set_cons_succ]
    refine wpAnyX_ready (rs := [2, 5]) (by kernel_rfl) (by simp) ?_
    refine AllReadyX.cons rfl (fun K hK => ?_) ?_
    · go_simp
      refine hK.out _ _ trivial (fun _ => ⟨(co (co tc0)), (co (co tc1)), (co (co tc2)), (co (co tc3))⟩) ?_
      clear hK K
      try simp only [Act.put, List.setIfInBounds_toArray, List.set_cons_zero, List.set_cons_succ]
      refine wpAnyX_ready (rs := [5]) (by kernel_rfl) (by simp) ?_
      refine AllReadyX.cons rfl (fun K hK => ?_) ?_
      rotate_left
      exact AllReadyX.nil
      go_simp
      refine hK.out _ _ trivial (fun _ => ⟨(co (co (co tc0))), (co (co (co tc1))), (co (co (co tc2))), (co (co (co tc3)))⟩) ?_
      clear hK K
      try simp only [Act.put, List.setIfInBounds_toArray, List.set_cons_zero, List.set_cons_succ]
      refine wpAnyX_take (i := 8) (v := argVal roleName (.slice (some ⟨wz.heap.size + 1, 0, none⟩) 1 1) (.slice (some ⟨wz.heap.size + 1 + 1, 0, none⟩) 1 1) 0 (T k).pos) rfl (by kernel_rfl) (by kernel_rfl) (by kernel_rfl) (by kernel_rfl) (fun _ _ _ h => h) (Or.inl ⟨by rfl, fun w hSw => by obtain ⟨e0, e1, e2, e3⟩ := hSw; go_simp⟩) trivial ⟨(co (co (co tc0))), (co (co (co tc1))), (co (co (co tc2))), (co (co (co tc3)))⟩ ?_
      simp only [Act.put, List.setIfInBounds_toArray, List.set_cons_zero, List.set_cons_succ]
      refine wpAnyX_ready (rs := [9]) (by kernel_rfl) (by simp) ?_
      refine AllReadyX.cons rfl (fun K hK => ?_) ?_
      rotate_left
      exact AllReadyX.nil
      go_simp
      refine hK.out _ _ trivial (fun h => by cases h) ?_
      clear hK K
      try simp only [Act.put, List.setIfInBounds_toArray, List.set_cons_zero, List.set_cons_succ]
      refine wpAnyX_ready (rs := [10]) (by kernel_rfl) (by simp) ?_
      refine AllReadyX.cons rfl (fun K hK => ?_) ?_
      rotate_left
      exact AllReadyX.nil
      go_simp
      refine hK.out _ _ trivial (fun h => by cases h) ?_
      clear hK K
      try simp only [Act.put, List.setIfInBounds_toArray, List.set_cons_zero, List.set_cons_succ]
      refine wpAnyX_done (by kernel_rfl) ?_ _
      go_wp2
      exact bodyPost_ret (v := .tuple #[argVal roleName (.slice (some ⟨wz.heap.size + 1, 0, none⟩) 1 1) (.slice (some ⟨wz.heap.size + 1 + 1, 0, none⟩) 1 1) 0 (T k).pos, .nilIface]) (by simp [results, Tryf.results12, go_sem, lz, lz1, lz2, c0, c1, c2, c3, c4]) rfl
        ⟨⟨_, _, rfl, ⟨_, _, rfl, by omega, by simp; try omega, one_str (by go_simp)⟩, ⟨_, _, rfl, by omega, by simp; try omega, one_int (by go_simp)⟩⟩, HBA.out.trans (Bx.of (below_eight (HBZ.out.mono (by omega)) (Nat.le_refl _) (by omega) _ _ _ _ _ _ _ _)), HCA.out.below (below_eight (HBZ.out.mono (by omega)) (Nat.le_refl _) (by omega) _ _ _ _ _ _ _ _) hCw⟩
    refine AllReadyX.cons rfl (fun K hK => ?_) ?_
    · go_simp
      refine hK.out _ _ trivial (fun _ => ⟨(co (co tc0)), (co (co tc1)), (co (co tc2)), (co (co tc3))⟩) ?_
      clear hK K
      try simp only [Act.put, List.setIfInBounds_toArray, List.set_cons_zero, List.set_cons_succ]
      refine wpAnyX_ready (rs := [2]) (by kernel_rfl) (by simp) ?_
      refine AllReadyX.cons rfl (fun K hK => ?_) ?_
      rotate_left
      exact AllReadyX.nil
      go_simp
      refine hK.out _ _ trivial (fun _ => ⟨(co (co (co tc0))), (co (co (co tc1))), (co (co (co tc2))), (co (co (co tc3)))⟩) ?_
      clear hK K
      try simp only [Act.put, List.setIfInBounds_toArray, List.set_cons_zero, List.set_cons_succ]
      refine wpAnyX_take (i := 8) (v := argVal roleName (.slice (some ⟨wz.heap.size + 1 + 1, 0, none⟩) 1 1) (.slice (some ⟨wz.heap.size + 1, 0, none⟩) 1 1) 0 (T k).pos) rfl (by kernel_rfl) (by kernel_rfl) (by kernel_rfl) (by kernel_rfl) (fun _ _ _ h => h) (Or.inl ⟨by rfl, fun w hSw => by obtain ⟨e0, e1, e2, e3⟩ := hSw; go_simp⟩) trivial ⟨(co (co (co tc0))), (co (co (co tc1))), (co (co (co tc2))), (co (co (co tc3)))⟩ ?_
      simp only [Act.put, List.setIfInBounds_toArray, List.set_cons_zero, List.set_cons_succ]
      refine wpAnyX_ready (rs := [9]) (by kernel_rfl) (by simp) ?_
      refine AllReadyX.cons rfl (fun K hK => ?_) ?_
      rotate_left
      exact AllReadyX.nil
      go_simp
      refine hK.out _ _ trivial (fun h => by cases h) ?_
      clear hK K
      try simp only [Act.put, List.setIfInBounds_toArray, List.set_cons_zero, List.set_cons_succ]
      refine wpAnyX_ready (rs := [10]) (by kernel_rfl) (by simp) ?_
      refine AllReadyX.cons rfl (fun K hK => ?_) ?_
      rotate_left
      exact AllReadyX.nil
      go_simp
      refine hK.out _ _ trivial (fun h => by cases h) ?_
      clear hK K
      try simp only [Act.put, List.setIfInBounds_toArray, List.set_cons_zero, List.set_cons_succ]
      refine wpAnyX_done (by kernel_rfl) ?_ _
      go_wp2
      exact bodyPost_ret (v := .tuple #[argVal roleName (.slice (some ⟨wz.heap.size + 1 + 1, 0, none⟩) 1 1) (.slice (some ⟨wz.heap.size + 1, 0, none⟩) 1 1) 0 (T k).pos, .nilIface]) (by simp [results, Tryf.results12, go_sem, lz, lz1, lz2, c0, c1, c2, c3, c4]) rfl
        ⟨⟨_, _, rfl, ⟨_, _, rfl, by omega, by simp; try omega, one_str (by go_simp)⟩, ⟨_, _, rfl, by omega, by simp; try omega, one_int (by go_simp)⟩⟩, HBA.out.trans (Bx.of (below_eight (HBZ.out.mono (by omega)) (Nat.le_refl _) (by omega) _ _ _ _ _ _ _ _)), HCA.out.below (below_eight (HBZ.out.mono (by omega)) (Nat.le_refl _) (by omega) _ _ _ _ _ _ _ _) hCw⟩
    exact AllReadyX.nil
  refine AllReadyX.cons rfl (fun K hK => ?_) ?_
  · go_simp
    refine hK.out _ _ trivial (fun _ => ⟨(co tc0), (co tc1), (co tc2), (co tc3)⟩) ?_
    clear hK K
    try simp only [Act.put, List.setIfInBounds_toArray, List.set_cons_zero, List.set_cons_succ]
    refine wpAnyX_ready (rs := [1]) (by kernel_rfl) (by simp) ?_
    refine AllReadyX.cons rfl (fun K hK => ?_) ?_
    rotate_left
    exact AllReadyX.nil
    go_simp
    refine (unquoted_calls (T k) _ hq hsh).mono ?_
    rintro e w' ⟨rfl, rfl⟩
    refine hK.out _ _ trivial (fun _ => ⟨(co (co tc0)), (co (co tc1)), (co (co tc2)), (co (co tc3))⟩) ?_
    clear hK K
    try simp only [Act.put, List.setIfInBounds_toArray, List.set_cons_zero, List.set_cons_succ]
    refine wpAnyX_ready (rs := [2]) (by kernel_rfl) (by simp) ?_
    refine AllReadyX.cons rfl (fun K hK => ?_) ?_
    rotate_left
    exact AllReadyX.nil
    go_simp
    refine hK.out _ _ trivial (fun _ => ⟨(co (co (co tc0))), (co (co (co tc1))), (co (co (co tc2))), (co (co (co tc3)))⟩) ?_
    clear hK K
    try simp only [Act.put, List.setIfInBounds_toArray, List.set_cons_zero, List.set_cons_succ]
    refine wpAnyX_take (i := 8) (v := argVal roleName (.slice (some ⟨wz.heap.size + 1 + 1, 0, none⟩) 1 1) (.slice (some ⟨wz.heap.size, 0, none⟩) 1 1) 0 (T k).pos) rfl (by kernel_rfl) (by kernel_rfl) (by kernel_rfl) (by kernel_rfl) (fun _ _ _ h => h) (Or.inl ⟨by rfl, fun w hSw => by obtain ⟨e0, e1, e2, e3⟩ := hSw; go_simp⟩) trivial ⟨(co (co (co tc0))), (co (co (co tc1))), (co (co (co tc2))), (co (co (co tc3)))⟩ ?_
    simp only [Act.put, List.setIfInBounds_toArray, List.set_cons_zero, List.set_cons_succ]
    refine wpAnyX_ready (rs := [9]) (by kernel_rfl) (by simp) ?_
    refine AllReadyX.cons rfl (fun K hK => ?_) ?_
    rotate_left
    exact AllReadyX.nil
    go_simp
    refine hK.out _ _ trivial (fun h => by cases h) ?_
    clear hK K
    try simp only [Act.put, List.setIfInBounds_toArray, List.set_cons_zero, List.set_cons_succ]
    refine wpAnyX_ready (rs := [10]) (by kernel_rfl) (by simp) ?_
    refine AllReadyX.cons rfl (fun K hK => ?_) ?_
    rotate_left
    exact AllReadyX.nil
    go_simp
    refine hK.out _ _ trivial (fun h => by cases h) ?_
    clear hK K
    try simp only [Act.put, List.setIfInBounds_toArray, List.set_cons_zero, List.set_cons_succ]
    refine wpAnyX_done (by kernel_rfl) ?_ _
    go_wp2
    exact bodyPost_ret (v := .tuple #[argVal roleName (.slice (some ⟨wz.heap.size + 1 + 1, 0, none⟩) 1 1) (.slice (some ⟨wz.heap.size, 0, none⟩) 1 1) 0 (T k).pos, .nilIface]) (by simp [results, Tryf.results12, go_sem, lz, lz1, lz2, c0, c1, c2, c3, c4]) rfl
      ⟨⟨_, _, rfl, ⟨_, _, rfl, by omega, by simp; try omega, one_str (by go_simp)⟩, ⟨_, _, rfl, by omega, by simp; try omega, one_int (by go_simp)⟩⟩, HBA.out.trans (Bx.of (below_eight (HBZ.out.mono (by omega)) (Nat.le_refl _) (by omega) _ _ _ _ _ _ _ _)), HCA.out.below (below_eight (HBZ.out.mono (by omega)) (Nat.le_refl _) (by omega) _ _ _ _ _ _ _ _) hCw⟩
  exact AllReadyX.nil
end
end Go.Proofs.Qxb6605748aFmt
