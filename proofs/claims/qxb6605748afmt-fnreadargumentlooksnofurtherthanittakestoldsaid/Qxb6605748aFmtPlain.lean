/-
  THE PLAIN LAW: readArgument looks no further than it takes.
-/
import Derived.Test.Qxb6605748aFmtArg
namespace Go.Proofs.Qxb6605748aFmt

/-- T' holds what T holds from s to e, and an end token at e. -/
structure Capped (T T' : Nat → Tok) (s e : Nat) : Prop where
  same : ∀ j, s ≤ j → j < e → T' (j - s) = T j
  fin : (T' (e - s)).kind = 0

theorem nx_eq (T : Nat → Tok) (k : Nat) : ((T k).kind = 0 ∧ nx T k = k) ∨ ((T k).kind ≠ 0 ∧ nx T k = k + 1) := by
  unfold nx; split <;> simp [*]

theorem roles_law (T T' : Nat → Tok) (n s : Nat) (FT : Fit T n) : ∀ (f k : Nat) (R : List ByteArray) (Q : List Int), s ≤ k → k < n → n ≤ k + f →
    k ≤ (roles T f k R Q).2 ∧ (roles T f k R Q).2 < n ∧
    (Capped T T' s (roles T f k R Q).2 → ∀ f', (roles T f k R Q).2 + 1 ≤ k + f' → roles T' f' (k - s) R Q = ((roles T f k R Q).1, (roles T f k R Q).2 - s)) := by
  intro f
  induction f with
  | zero => intro k R Q _ h1 h2; omega
  | succ f ih =>
    intro k R Q hs hk hf
    unfold roles
    by_cases h3 : (T k).kind = 3
    · have hk1 := FT.last k hk (by omega)
      rw [if_neg (by simpa using h3)]
      by_cases h8 : (T (k + 1)).kind = 8
      · rw [if_pos h8]
        have hk2 := FT.last (k + 1) hk1 (by omega)
        refine ⟨by simp, by simpa using hk2, fun hc f' hf' => ?_⟩
        obtain ⟨f', rfl⟩ : ∃ g, f' = g + 1 := ⟨f' - 1, by simp at hf'; omega⟩
        have e0 := hc.same k hs (by simp)
        have e1 := hc.same (k + 1) (by omega) (by simp)
        rw [show k + 1 - s = k - s + 1 by omega] at e1
        simp only [e0, e1, h3, h8]
        simp
        omega
      · rw [if_neg h8]
        by_cases h9 : (T (k + 1)).kind = 9
        · rw [if_pos h9]
          have hk2 := FT.last (k + 1) hk1 (by omega)
          obtain ⟨a, b, c⟩ := ih (k + 2) (R ++ [unq (T k)]) (Q ++ [(T k).pos]) (by omega) (by omega) (by omega)
          refine ⟨by omega, b, fun hc f' hf' => ?_⟩
          obtain ⟨f', rfl⟩ : ∃ g, f' = g + 1 := ⟨f' - 1, by omega⟩
          have e0 := hc.same k hs (by omega)
          have e1 := hc.same (k + 1) (by omega) (by omega)
          rw [show k + 1 - s = k - s + 1 by omega] at e1
          have hrec := c hc f' (by omega)
          rw [show k + 2 - s = k - s + 2 by omega] at hrec
          simp only [e0, e1, h3, h9]
          simpa using hrec
        · rw [if_neg h9]
          rcases nx_eq T (k + 1) with ⟨z, e⟩ | ⟨z, e⟩
          · rw [e]
            refine ⟨by simp, by simpa using hk1, fun hc f' hf' => ?_⟩
            obtain ⟨f', rfl⟩ : ∃ g, f' = g + 1 := ⟨f' - 1, by simp at hf'; omega⟩
            have e0 := hc.same k hs (by simp)
            have e1 := hc.fin
            rw [show k + 1 - s = k - s + 1 by omega] at e1
            simp only [e0, e1, h3, nx]
            simp
            omega
          · rw [e]
            have hk2 := FT.last (k + 1) hk1 z
            refine ⟨by simp; omega, by simpa using hk2, fun hc f' hf' => ?_⟩
            obtain ⟨f', rfl⟩ : ∃ g, f' = g + 1 := ⟨f' - 1, by simp at hf'; omega⟩
            have e0 := hc.same k hs (by simp; omega)
            have e1 := hc.same (k + 1) (by omega) (by simp)
            rw [show k + 1 - s = k - s + 1 by omega] at e1
            simp only [e0, e1, h3, h8, h9, z, nx]
            simp
            omega
    · rw [if_pos (by simpa using h3)]
      rcases nx_eq T k with ⟨z, e⟩ | ⟨z, e⟩
      · rw [e]
        refine ⟨by simp, hk, fun hc f' hf' => ?_⟩
        obtain ⟨f', rfl⟩ : ∃ g, f' = g + 1 := ⟨f' - 1, by simp at hf'; omega⟩
        have e1 := hc.fin
        simp only [e1, nx]
        simp
      · rw [e]
        have hk1 := FT.last k hk z
        refine ⟨by simp, by simpa using hk1, fun hc f' hf' => ?_⟩
        obtain ⟨f', rfl⟩ : ∃ g, f' = g + 1 := ⟨f' - 1, by simp at hf'; omega⟩
        have e0 := hc.same k hs (by simp)
        have e2 : nx T' (k - s) = k - s + 1 := by unfold nx; rw [e0, if_neg z]
        simp only [e0, e2, ne_eq, h3, not_false_eq_true, if_true]
        simp
        omega

theorem list_law (T T' : Nat → Tok) (n s k : Nat) (FT : Fit T n) (hs : s ≤ k) (hk : k < n) :
    k ≤ (listRun T n k).2 ∧ (listRun T n k).2 < n ∧
    (Capped T T' s (listRun T n k).2 → ∀ n', (listRun T n k).2 - s + 1 ≤ n' → listRun T' n' (k - s) = ((listRun T n k).1, (listRun T n k).2 - s)) := by
  unfold listRun
  by_cases h8 : (T k).kind = 8
  · have hk1 := FT.last k hk (by omega)
    rw [if_pos h8]
    refine ⟨by simp, by simpa using hk1, fun hc n' hn' => ?_⟩
    have e0 := hc.same k hs (by simp)
    rw [e0, if_pos h8]
    simp
    omega
  · rw [if_neg h8]
    obtain ⟨a, b, c⟩ := roles_law T T' n s FT (n - k) k [] [] hs hk (by omega)
    refine ⟨a, b, fun hc n' hn' => ?_⟩
    have h8' : (T' (k - s)).kind ≠ 8 := by
      by_cases e : (roles T (n - k) k [] []).2 = k
      · have := hc.fin; rw [e] at this; omega
      · rw [hc.same k hs (by omega)]; exact h8
    rw [if_neg h8']
    exact c hc (n' - (k - s)) (by omega)

theorem roles_len (T : Nat → Tok) : ∀ (f k : Nat) (R : List ByteArray) (Q : List Int) (R' : List ByteArray) (Q' : List Int), (roles T f k R Q).1 = some (R', Q') →
    0 < R'.length ∧ 0 < Q'.length ∧ R'.length + k ≤ R.length + (roles T f k R Q).2 ∧ Q'.length + k ≤ Q.length + (roles T f k R Q).2 := by
  intro f
  induction f with
  | zero => intro k R Q R' Q' h; simp [roles] at h
  | succ f ih =>
    intro k R Q R' Q' h
    unfold roles at h ⊢
    by_cases h3 : (T k).kind = 3
    · rw [if_neg (by simpa using h3)] at h ⊢
      by_cases h8 : (T (k + 1)).kind = 8
      · rw [if_pos h8] at h ⊢
        simp only [Option.some.injEq, Prod.mk.injEq] at h
        obtain ⟨rfl, rfl⟩ := h
        simp
        omega
      · rw [if_neg h8] at h ⊢
        by_cases h9 : (T (k + 1)).kind = 9
        · rw [if_pos h9] at h ⊢
          have := ih _ _ _ _ _ h
          simp at this
          omega
        · rw [if_neg h9] at h
          simp at h
    · rw [if_pos (by simpa using h3)] at h
      simp at h

theorem countName_ne : countName ≠ ⟨#[]⟩ := by decide
theorem rolesName_ne : rolesName ≠ ⟨#[]⟩ := by decide
theorem roleName_ne : roleName ≠ ⟨#[]⟩ := by decide
theorem count_facts {s : ByteArray} {pos : Int} {a : Arg} (h : countArg s pos = some a) : a.kind ≠ ⟨#[]⟩ ∧ a.roles = none ∧ a.ats = none := by
  unfold countArg at h
  split at h
  · split at h
    · cases h; exact ⟨countName_ne, rfl, rfl⟩
    · cases h
  · cases h
theorem roles_facts {r : Option (List ByteArray × List Int)} {pos : Int} {a : Arg} (h : rolesArg r pos = some a) : a.kind ≠ ⟨#[]⟩ ∧ ∃ R Q, r = some (R, Q) ∧ (a.roles = some R ∧ a.ats = some Q) ∧ R ≠ [] := by
  unfold rolesArg at h
  split at h
  · cases h
  · cases h; exact ⟨rolesName_ne, _, _, rfl, ⟨rfl, rfl⟩, by simp⟩
  · cases h
theorem listRun_len (T : Nat → Tok) (n k : Nat) (R : List ByteArray) (Q : List Int) (h : (listRun T n k).1 = some (R, Q)) (hne : R ≠ []) :
    0 < R.length ∧ 0 < Q.length ∧ R.length + k ≤ (listRun T n k).2 ∧ Q.length + k ≤ (listRun T n k).2 := by
  unfold listRun at h ⊢
  by_cases h8 : (T k).kind = 8
  · rw [if_pos h8] at h
    simp only [Option.some.injEq, Prod.mk.injEq] at h
    exact absurd h.1.symm hne
  · rw [if_neg h8] at h ⊢
    have := roles_len T _ _ _ _ _ _ h
    simp at this
    omega

/-- readArgument stays within the tokens; what it accepts took a token and has a kind; handed only the tokens that it took, closed by an end token, it answers the same. -/
theorem arg_law (T T' : Nat → Tok) (n k : Nat) (FT : Fit T n) (hk : k < n) :
    k ≤ (readArg T n k).2 ∧ (readArg T n k).2 < n ∧ (∀ a, (readArg T n k).1 = some a → k < (readArg T n k).2 ∧ a.kind ≠ ⟨#[]⟩ ∧ (∀ L, a.roles = some L → L.length ≤ n ∧ 0 < L.length) ∧ (∀ L, a.ats = some L → L.length ≤ n ∧ 0 < L.length)) ∧
    (Capped T T' k (readArg T n k).2 → readArg T' ((readArg T n k).2 - k + 1) 0 = ((readArg T n k).1, (readArg T n k).2 - k)) := by
  unfold readArg
  by_cases c3 : (T k).kind = 3
  · have hk1 := FT.last k hk (by omega)
    rw [if_pos c3]
    refine ⟨by simp, by simpa using hk1, fun a ha => ?_, fun hc => ?_⟩
    · simp only [Option.some.injEq] at ha
      subst ha
      refine ⟨by simp, roleName_ne, fun L hL => ?_, fun L hL => ?_⟩ <;> simp at hL <;> subst hL <;> simp <;> omega
    · have e0 := hc.same k (Nat.le_refl _) (by simp)
      rw [Nat.sub_self] at e0
      rw [e0, if_pos c3]
      simp
  rw [if_neg c3]
  by_cases c4 : (T k).kind = 4
  · have hk1 := FT.last k hk (by omega)
    rw [if_pos c4]
    refine ⟨by simp, by simpa using hk1, fun a ha => ?_, fun hc => ?_⟩
    · obtain ⟨h1, h2, h3⟩ := count_facts ha
      refine ⟨by simp, h1, fun L hL => ?_, fun L hL => ?_⟩
      · rw [h2] at hL; cases hL
      · rw [h3] at hL; cases hL
    · have e0 := hc.same k (Nat.le_refl _) (by simp)
      rw [Nat.sub_self] at e0
      rw [e0, if_neg c3, if_pos c4]
      simp
  rw [if_neg c4]
  by_cases c20 : (T k).kind = 20
  · have hk1 := FT.last k hk (by omega)
    rw [if_pos c20]
    by_cases c44 : (T (k + 1)).kind = 4
    · have hk2 := FT.last (k + 1) hk1 (by omega)
      rw [if_pos c44]
      refine ⟨by simp, by simpa using hk2, fun a ha => ?_, fun hc => ?_⟩
      · obtain ⟨h1, h2, h3⟩ := count_facts ha
        refine ⟨by simp, h1, fun L hL => ?_, fun L hL => ?_⟩
        · rw [h2] at hL; cases hL
        · rw [h3] at hL; cases hL
      · have e0 := hc.same k (Nat.le_refl _) (by simp)
        have e1 := hc.same (k + 1) (by omega) (by simp)
        rw [Nat.sub_self] at e0
        rw [show k + 1 - k = 0 + 1 by omega] at e1
        rw [e0, if_neg c3, if_neg c4, if_pos c20, e1, if_pos c44]
        simp
    · rw [if_neg c44]
      refine ⟨by simp, by simpa using hk1, fun a ha => ?_, fun hc => ?_⟩
      · obtain ⟨h1, h2, h3⟩ := count_facts ha
        refine ⟨by simp, h1, fun L hL => ?_, fun L hL => ?_⟩
        · rw [h2] at hL; cases hL
        · rw [h3] at hL; cases hL
      · have e0 := hc.same k (Nat.le_refl _) (by simp)
        have e1 := hc.fin
        rw [Nat.sub_self] at e0
        rw [show k + 1 - k = 0 + 1 by omega] at e1
        rw [e0, if_neg c3, if_neg c4, if_pos c20, if_neg (by omega)]
        simp
  rw [if_neg c20]
  by_cases c7 : (T k).kind = 7
  · have hk1 := FT.last k hk (by omega)
    rw [if_pos c7]
    obtain ⟨a1, b1, l1⟩ := list_law T T' n k (k + 1) FT (by omega) hk1
    refine ⟨by simp; omega, b1, fun a ha => ?_, fun hc => ?_⟩
    · obtain ⟨h1, R, Q, h2, h3, h4⟩ := roles_facts ha
      have hl := listRun_len T n (k + 1) R Q h2 (by intro e; subst e; exact h4 rfl)
      refine ⟨by simp; omega, h1, fun L hL => ?_, fun L hL => ?_⟩
      · rw [h3.1] at hL; cases hL; omega
      · rw [h3.2] at hL; cases hL; omega
    · have e0 := hc.same k (Nat.le_refl _) (by simp; omega)
      rw [Nat.sub_self] at e0
      have hr := l1 hc ((listRun T n (k + 1)).2 - k + 1) (Nat.le_refl _)
      rw [show k + 1 - k = 0 + 1 by omega] at hr
      rw [e0, if_neg c3, if_neg c4, if_neg c20, if_pos c7, hr]
  rw [if_neg c7]
  rcases nx_eq T k with ⟨z, e⟩ | ⟨z, e⟩
  · rw [e]
    refine ⟨by simp, hk, fun a ha => by simp at ha, fun hc => ?_⟩
    have e1 := hc.fin
    simp only [Nat.sub_self] at e1 ⊢
    have e2 : nx T' 0 = 0 := by unfold nx; rw [if_pos e1]
    rw [if_neg (by omega), if_neg (by omega), if_neg (by omega), if_neg (by omega), e2]
  · rw [e]
    have hk1 := FT.last k hk z
    refine ⟨by simp, by simpa using hk1, fun a ha => by simp at ha, fun hc => ?_⟩
    have e0 := hc.same k (Nat.le_refl _) (by simp)
    rw [Nat.sub_self] at e0
    have e2 : nx T' 0 = 1 := by unfold nx; rw [e0, if_neg z]
    rw [e0, if_neg c3, if_neg c4, if_neg c20, if_neg c7, e2]
    simp
end Go.Proofs.Qxb6605748aFmt
