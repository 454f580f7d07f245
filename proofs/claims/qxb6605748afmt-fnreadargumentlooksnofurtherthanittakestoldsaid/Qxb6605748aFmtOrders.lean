/-
  A REGION THAT DRAWS ITS ORDER, LOADS CELLS AND STORES INTO THOSE SAME CELLS AT ITS END ('a.x, a.y = append(a.x, u), append(a.y, v)'): a load may be taken first under a condition S on the world, where S must be shown anew behind every operation BUT those in X (the stores, which wait for the loads). Beside the library's held orders, whose S binds behind the stores too.
-/
import Derived.OrdersHeld
import Derived.Deep.RegionHeld
namespace Go.Proofs.Qxb6605748aFmt
section
variable {P : Program} {ops : Array Oper} {Q : Exit → Act → World → Prop} {md : Region.Mode} {S0 S : World → Prop} {X : Nat → Bool}

/-- Whatever order is picked from here on; behind every operation that is carried out S0 holds, and S too if it is not in X. -/
def wpAnyX (P : Program) (md : Region.Mode) (ops : Array Oper) (Q : Exit → Act → World → Prop) (S0 S : World → Prop) (X : Nat → Bool) : Nat → Array Bool → Act → World → Prop
  | 0, listed, a, w => Region.ready md ops listed = [] ∧ Q .normal a w
  | fuel + 1, listed, a, w =>
    (Region.ready md ops listed = [] → Q .normal a w) ∧
    ∀ i ∈ Region.ready md ops listed, wpOp P ops Q i (fun a' w' => (S0 w' ∧ (X i = false → S w')) ∧ wpAnyX P md ops Q S0 S X fuel (listed.setIfInBounds i true) a' w') a w

theorem wpAny_of_X : ∀ (fuel : Nat) (listed : Array Bool) (a : Act) (w : World), wpAnyX P md ops Q S0 S X fuel listed a w → wpAny P md ops Q fuel listed a w
  | 0, _, _, _, h => h
  | fuel + 1, _, _, _, h => ⟨h.1, fun i hi => wpOp_mono (fun a' w' h' => wpAny_of_X fuel _ a' w' h'.2) (h.2 i hi)⟩

theorem wpAnyX_first {i : Nat} {oi : Oper} {v : Value} (hi : ops[i]? = some oi) (hsel : ∀ (j : Nat) (o : Oper) cs b, ops[j]? = some o → o.op ≠ .select cs b)
    (hQ : ∀ c a w, Q (.panic c) (a.put oi.dst v) w → Q (.panic c) a w)
    :
    ∀ (fuel : Nat) (listed : Array Bool) (a : Act) (w : World),
      (∀ j oj, ops[j]? = some oj → listed.getD j true = false → X j = true → ∃ e ∈ oj.after, Region.binds md e = true ∧ e.on = i) →
      (∀ j oj, ops[j]? = some oj → j ≠ i → listed.getD j true = false → (∀ e ∈ oj.after, Region.binds md e = true → e.on ≠ i) → oi.apart ops oj = true) →
      i ∈ Region.ready md ops listed → YieldsIf P ops S oi v a → S0 w → S w →
      wpAnyX P md ops Q S0 S X fuel (listed.setIfInBounds i true) (a.put oi.dst v) w → wpAnyX P md ops Q S0 S X (fuel + 1) listed a w := by
  intro fuel
  induction fuel with
  | zero =>
    intro listed a w _ _ hr hy hS0 hS H
    refine ⟨fun h => (by rw [h] at hr; cases hr), fun j hj => ?_⟩
    by_cases hji : j = i
    · subst hji; exact hy.wpOp hi hS ⟨⟨hS0, fun _ => hS⟩, H⟩
    · have := ready_mono hj hji
      rw [H.1] at this
      cases this
  | succ fuel ih =>
    intro listed a w hX hfree hr hy hS0 hS H
    refine ⟨fun h => (by rw [h] at hr; cases hr), fun j hj => ?_⟩
    by_cases hji : j = i
    · subst hji; exact hy.wpOp hi hS ⟨⟨hS0, fun _ => hS⟩, H⟩
    · have h1 := H.2 j (ready_mono hj hji)
      obtain ⟨hjun, oj, hoj, hall⟩ := mem_ready.1 hj
      have hnot : ∀ e ∈ oj.after, Region.binds md e = true → e.on ≠ i := fun e he hb heq => by
        have h1 := hall e he hb
        have h0 := (mem_ready.1 hr).1
        rw [heq] at h1
        rcases Nat.lt_or_ge i listed.size with h' | h'
        · simp [h'] at h0 h1; rw [h0] at h1; cases h1
        · simp [Array.getElem?_eq_none h'] at h1
      have hxj : X j = false := by
        cases hx : X j with
        | false => rfl
        | true =>
          obtain ⟨e, he, hb, heq⟩ := hX j oj hoj hjun hx
          exact absurd heq (hnot e he hb)
      have h2 := wpOp_putIf hoj (hfree j oj hoj hji hjun hnot) (fun cs b => hsel i oi cs b hi) (fun cs b => hsel j oj cs b hoj) hQ hy h1
      have hfree' : ∀ k ok, ops[k]? = some ok → k ≠ i → (listed.setIfInBounds j true).getD k true = false →
          (∀ e ∈ ok.after, Region.binds md e = true → e.on ≠ i) → oi.apart ops ok = true := fun k ok hk hki hun hno => by
        refine hfree k ok hk hki ?_ hno
        by_cases hjk : j = k
        · subst hjk; exact hjun
        · rw [getD_set_ne true hjk] at hun; exact hun
      have hX' : ∀ k ok, ops[k]? = some ok → (listed.setIfInBounds j true).getD k true = false → X k = true → ∃ e ∈ ok.after, Region.binds md e = true ∧ e.on = i := fun k ok hk hun hxk => by
        refine hX k ok hk ?_ hxk
        by_cases hjk : j = k
        · subst hjk; exact hjun
        · rw [getD_set_ne true hjk] at hun; exact hun
      refine wpOp_mono (fun a' w' h3 => ⟨h3.2.1, ih (listed.setIfInBounds j true) a' w' hX' hfree' (ready_mono hr (Ne.symm hji)) h3.1 h3.2.1.1 (h3.2.1.2 hxj) ?_⟩) h2
      rw [Array.setIfInBounds_comm _ _ hji]
      exact h3.2.2

theorem wpAnyX_first0 {i : Nat} {oi : Oper} {v : Value} (hi : ops[i]? = some oi) (hsel : ∀ (j : Nat) (o : Oper) cs b, ops[j]? = some o → o.op ≠ .select cs b)
    (hQ : ∀ c a w, Q (.panic c) (a.put oi.dst v) w → Q (.panic c) a w) (hXi : X i = true)
    :
    ∀ (fuel : Nat) (listed : Array Bool) (a : Act) (w : World),
      (∀ j oj, ops[j]? = some oj → j ≠ i → listed.getD j true = false → (∀ e ∈ oj.after, Region.binds md e = true → e.on ≠ i) → oi.apart ops oj = true) →
      i ∈ Region.ready md ops listed → YieldsIf P ops S0 oi v a → S0 w →
      wpAnyX P md ops Q S0 S X fuel (listed.setIfInBounds i true) (a.put oi.dst v) w → wpAnyX P md ops Q S0 S X (fuel + 1) listed a w := by
  intro fuel
  induction fuel with
  | zero =>
    intro listed a w _ hr hy hS0 H
    refine ⟨fun h => (by rw [h] at hr; cases hr), fun j hj => ?_⟩
    by_cases hji : j = i
    · subst hji; exact hy.wpOp hi hS0 ⟨⟨hS0, fun h => absurd (hXi.symm.trans h) (by decide)⟩, H⟩
    · have := ready_mono hj hji
      rw [H.1] at this
      cases this
  | succ fuel ih =>
    intro listed a w hfree hr hy hS0 H
    refine ⟨fun h => (by rw [h] at hr; cases hr), fun j hj => ?_⟩
    by_cases hji : j = i
    · subst hji; exact hy.wpOp hi hS0 ⟨⟨hS0, fun h => absurd (hXi.symm.trans h) (by decide)⟩, H⟩
    · have h1 := H.2 j (ready_mono hj hji)
      obtain ⟨hjun, oj, hoj, hall⟩ := mem_ready.1 hj
      have hnot : ∀ e ∈ oj.after, Region.binds md e = true → e.on ≠ i := fun e he hb heq => by
        have h1 := hall e he hb
        have h0 := (mem_ready.1 hr).1
        rw [heq] at h1
        rcases Nat.lt_or_ge i listed.size with h' | h'
        · simp [h'] at h0 h1; rw [h0] at h1; cases h1
        · simp [Array.getElem?_eq_none h'] at h1
      have h2 := wpOp_putIf hoj (hfree j oj hoj hji hjun hnot) (fun cs b => hsel i oi cs b hi) (fun cs b => hsel j oj cs b hoj) hQ hy h1
      have hfree' : ∀ k ok, ops[k]? = some ok → k ≠ i → (listed.setIfInBounds j true).getD k true = false →
          (∀ e ∈ ok.after, Region.binds md e = true → e.on ≠ i) → oi.apart ops ok = true := fun k ok hk hki hun hno => by
        refine hfree k ok hk hki ?_ hno
        by_cases hjk : j = k
        · subst hjk; exact hjun
        · rw [getD_set_ne true hjk] at hun; exact hun
      refine wpOp_mono (fun a' w' h3 => ⟨h3.2.1, ih (listed.setIfInBounds j true) a' w' hfree' (ready_mono hr (Ne.symm hji)) h3.1 h3.2.1.1 ?_⟩) h2
      rw [Array.setIfInBounds_comm _ _ hji]
      exact h3.2.2

/-- Do all operations in X (of those that there are) wait for number i? -/
def waits (md : Region.Mode) (ops : Array Oper) (X : Nat → Bool) (listed : Array Bool) (i : Nat) : Bool :=
  (List.range ops.size).all fun j => listed.getD j true || !(X j) || match ops[j]? with | some o => o.after.any (fun e => Region.binds md e && e.on == i) | none => true

theorem waits_spec {i : Nat} {listed : Array Bool} (h : waits md ops X listed i = true) (j : Nat) (oj : Oper) (hj : ops[j]? = some oj) (hun : listed.getD j true = false) (hx : X j = true) : ∃ e ∈ oj.after, Region.binds md e = true ∧ e.on = i := by
  unfold waits at h
  have h1 := List.all_eq_true.1 h j (List.mem_range.2 (Array.getElem?_eq_some_iff.1 hj).1)
  simp only [hx, hj, hun, Bool.not_true, Bool.false_or] at h1
  obtain ⟨e, he, hb⟩ := Array.any_eq_true'.1 h1
  simp only [Bool.and_eq_true, beq_iff_eq] at hb
  exact ⟨e, he, hb.1, hb.2⟩

theorem wpAnyX_take {i : Nat} {oi : Oper} {v : Value} {fuel : Nat} {listed : Array Bool} {a : Act} {w : World} (hi : ops[i]? = some oi)
    (hs : Region.noSelect ops = true) (hf : Region.free md ops listed i = true) (hr : (Region.ready md ops listed).contains i = true) (hx : waits md ops X listed i = true)
    (hQ : ∀ c a w, Q (.panic c) (a.put oi.dst v) w → Q (.panic c) a w) (hy : YieldsIf P ops S oi v a) (hS0 : S0 w) (hS : S w)
    (h : wpAnyX P md ops Q S0 S X fuel (listed.setIfInBounds i true) (a.put oi.dst v) w) : wpAnyX P md ops Q S0 S X (fuel + 1) listed a w :=
  wpAnyX_first hi (Region.noSelect_spec hs) hQ fuel listed a w (waits_spec hx) (Region.free_spec hi hf) (by simpa using hr) hy hS0 hS h

theorem wpAnyX_take0 {i : Nat} {oi : Oper} {v : Value} {fuel : Nat} {listed : Array Bool} {a : Act} {w : World} (hi : ops[i]? = some oi)
    (hs : Region.noSelect ops = true) (hf : Region.free md ops listed i = true) (hr : (Region.ready md ops listed).contains i = true) (hx : X i = true)
    (hQ : ∀ c a w, Q (.panic c) (a.put oi.dst v) w → Q (.panic c) a w) (hy : YieldsIf P ops S0 oi v a) (hS0 : S0 w)
    (h : wpAnyX P md ops Q S0 S X fuel (listed.setIfInBounds i true) (a.put oi.dst v) w) : wpAnyX P md ops Q S0 S X (fuel + 1) listed a w :=
  wpAnyX_first0 hi (Region.noSelect_spec hs) hQ hx fuel listed a w (Region.free_spec hi hf) (by simpa using hr) hy hS0 h

/-- Each of the operations 'rs' comes up next. -/
def AllReadyX (P : Program) (md : Region.Mode) (ops : Array Oper) (Q : Exit → Act → World → Prop) (S0 S : World → Prop) (X : Nat → Bool) (fuel : Nat) (listed : Array Bool) (a : Act) (w : World) (rs : List Nat) : Prop :=
  ∀ i ∈ rs, wpOp P ops Q i (fun a' w' => (S0 w' ∧ (X i = false → S w')) ∧ wpAnyX P md ops Q S0 S X fuel (listed.setIfInBounds i true) a' w') a w

theorem AllReadyX.nil {fuel : Nat} {listed : Array Bool} {a : Act} {w : World} : AllReadyX P md ops Q S0 S X fuel listed a w [] := fun _ h => by cases h

theorem AllReadyX.cons {fuel : Nat} {listed : Array Bool} {a : Act} {w : World} {i : Nat} {o : Oper} {rs : List Nat} (ho : ops[i]? = some o)
    (h : ∀ K' : Act → World → Prop, Shut (∀ a w, S0 w → (X i = false → S w) → wpAnyX P md ops Q S0 S X fuel (listed.setIfInBounds i true) a w → K' a w) → if Region.wanted o (yielded ops a.tmps) = true then Oper.wp P o a w K' Q else K' (a.put o.dst undef) w)
    (hs : AllReadyX P md ops Q S0 S X fuel listed a w rs) : AllReadyX P md ops Q S0 S X fuel listed a w (i :: rs) := fun j hj => by
  rcases List.mem_cons.1 hj with rfl | hj
  · exact wpOp_step ho (fun K' hK => h K' (fun a w hS0 hS hW => hK a w ⟨⟨hS0, hS⟩, hW⟩))
  · exact hs j hj

theorem wpAnyX_ready {rs : List Nat} {fuel : Nat} {listed : Array Bool} {a : Act} {w : World} (hr : Region.ready md ops listed = rs) (hne : rs ≠ [])
    (h : AllReadyX P md ops Q S0 S X fuel listed a w rs) : wpAnyX P md ops Q S0 S X (fuel + 1) listed a w :=
  ⟨fun h0 => absurd (hr ▸ h0) hne, hr ▸ h⟩

theorem wpAnyX_done {listed : Array Bool} {a : Act} {w : World} (hr : Region.ready md ops listed = []) (h : Q .normal a w) :
    ∀ fuel, wpAnyX P md ops Q S0 S X fuel listed a w
  | 0 => ⟨hr, h⟩
  | _ + 1 => ⟨fun _ => h, by rw [hr]; simp⟩

theorem wp_region_X (S0 S : World → Prop) (X : Nat → Bool) {id : Nat} {a : Act} {w : World} (hm : P.follows .mixedOrders = true)
    (h : wpAnyX P .any ops Q S0 S X ops.size (Array.replicate ops.size false) a w.drew) : (Code.region id ops true).wp P Q a w :=
  wp_region_any hm (wpAny_of_X _ _ _ _ h)
end
end Go.Proofs.Qxb6605748aFmt
