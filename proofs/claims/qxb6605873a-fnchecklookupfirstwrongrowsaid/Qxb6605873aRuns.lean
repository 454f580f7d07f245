/-
  The plain side of the merge sort.
-/
import Derived.Test.Qxb6605873aRank
set_option linter.unusedVariables false
namespace Go.Proofs.Qxb6605873a

/-- Each run of w places holds its own entries, in their order. -/
structure Runs (P : Nat → Int) (n w : Nat) (X : Nat → Nat) : Prop where
  bd : ∀ q t, q * w ≤ t → t < q * w + w → t < n → q * w ≤ X t ∧ X t < q * w + w ∧ X t < n
  st : ∀ q t u, q * w ≤ t → t < u → u < q * w + w → u < n → lx P (X t) (X u)
  sur : ∀ i, i < n → ∃ t, t < n ∧ X t = i

theorem Runs.start (P : Nat → Int) (n : Nat) : Runs P n 1 (fun t => t) :=
  ⟨fun q t h1 h2 h3 => ⟨h1, h2, h3⟩, fun q t u h1 h2 h3 h4 => by omega, fun i hi => ⟨i, hi, rfl⟩⟩

/-- The first q runs of 2 w places of Y are merged out of X. -/
structure Pass (P : Nat → Int) (n w : Nat) (X Y : Nat → Nat) (q : Nat) : Prop where
  bd : ∀ r t, r < q → r * (2 * w) ≤ t → t < r * (2 * w) + 2 * w → t < n → r * (2 * w) ≤ Y t ∧ Y t < r * (2 * w) + 2 * w ∧ Y t < n
  st : ∀ r t u, r < q → r * (2 * w) ≤ t → t < u → u < r * (2 * w) + 2 * w → u < n → lx P (Y t) (Y u)
  cov : ∀ t, t < q * (2 * w) → t < n → ∃ u, u < n ∧ u < q * (2 * w) ∧ Y u = X t

theorem Pass.start (P : Nat → Int) (n w : Nat) (X Y : Nat → Nat) : Pass P n w X Y 0 :=
  ⟨fun r t h => by omega, fun r t u h => by omega, fun t h => by omega⟩

theorem Pass.fin {P : Nat → Int} {n w q : Nat} {X Y : Nat → Nat} (hX : Runs P n w X) (h : Pass P n w X Y q) (hq : n ≤ q * (2 * w)) : Runs P n (w * 2) Y := by
  have e : w * 2 = 2 * w := Nat.mul_comm _ _
  rw [e]
  have lt : ∀ r t, r * (2 * w) ≤ t → t < n → r < q := fun r t h1 h2 => by
    rcases Nat.lt_or_ge r q with c | c
    · exact c
    · have := Nat.mul_le_mul_right (2 * w) c
      omega
  refine ⟨fun r t h1 h2 h3 => h.bd r t (lt r t h1 h3) h1 h2 h3, fun r t u h1 h2 h3 h4 => h.st r t u (lt r t h1 (by omega)) h1 h2 h3 h4, fun i hi => ?_⟩
  obtain ⟨t, ht, e⟩ := hX.sur i hi
  obtain ⟨u, hu, _, e2⟩ := h.cov t (by omega) ht
  exact ⟨u, hu, by rw [e2, e]⟩

/-- The merge of run q, from lo: [lo, a) of the left part and [mid, b) of the right part are laid. -/
structure Mer (P : Nat → Int) (n w : Nat) (X Y : Nat → Nat) (q lo mid hi a b k : Nat) : Prop where
  pass : Pass P n w X Y q
  elo : lo = q * (2 * w)
  emid : mid = min (lo + w) n
  ehi : hi = min (lo + 2 * w) n
  hlo : lo < n
  ha : lo ≤ a
  ha' : a ≤ mid
  hb : mid ≤ b
  hb' : b ≤ hi
  hk : k + mid = a + b
  bd : ∀ t, lo ≤ t → t < k → lo ≤ Y t ∧ Y t < lo + 2 * w ∧ Y t < n
  st : ∀ t u, lo ≤ t → t < u → u < k → lx P (Y t) (Y u)
  la : ∀ t s, lo ≤ t → t < k → a ≤ s → s < mid → lx P (Y t) (X s)
  lb : ∀ t s, lo ≤ t → t < k → b ≤ s → s < hi → lx P (Y t) (X s)
  ca : ∀ s, lo ≤ s → s < a → ∃ u, lo ≤ u ∧ u < k ∧ Y u = X s
  cb : ∀ s, mid ≤ s → s < b → ∃ u, lo ≤ u ∧ u < k ∧ Y u = X s

def upd (Y : Nat → Nat) (k z : Nat) : Nat → Nat := fun t => if t = k then z else Y t
theorem upd_at {Y : Nat → Nat} {k z : Nat} : upd Y k z k = z := by simp [upd]
theorem upd_off {Y : Nat → Nat} {k z t : Nat} (h : t ≠ k) : upd Y k z t = Y t := by simp [upd, h]

theorem Pass.upd {P : Nat → Int} {n w q : Nat} {X Y : Nat → Nat} (h : Pass P n w X Y q) {k z : Nat} (hk : q * (2 * w) ≤ k) : Pass P n w X (upd Y k z) q := by
  have top : ∀ r t, r < q → t < r * (2 * w) + 2 * w → t < q * (2 * w) := fun r t h1 h2 => by
    have := Nat.mul_le_mul_right (2 * w) (Nat.succ_le_of_lt h1)
    rw [Nat.succ_mul] at this
    omega
  refine ⟨fun r t h1 h2 h3 h4 => ?_, fun r t u h1 h2 h3 h4 h5 => ?_, fun t h1 h2 => ?_⟩
  · have := top r t h1 h3
    rw [upd_off (by omega)]; exact h.bd r t h1 h2 h3 h4
  · have := top r u h1 h4
    rw [upd_off (by omega), upd_off (by omega)]; exact h.st r t u h1 h2 h3 h4 h5
  · obtain ⟨u, hu, hu2, e⟩ := h.cov t h1 h2
    exact ⟨u, hu, hu2, by rw [upd_off (by omega)]; exact e⟩

/-- The next one is from the left. -/
theorem Mer.left {P : Nat → Int} {n w q lo mid hi a b k : Nat} {X Y : Nat → Nat} (hX : Runs P n w X) (h : Mer P n w X Y q lo mid hi a b k) (hlt : a < mid)
    (hn : b < hi → ¬ P (X b) < P (X a)) : Mer P n w X (upd Y k (X a)) q lo mid hi (a + 1) b (k + 1) := by
  obtain ⟨pass, elo, emid, ehi, hlo, ha, ha', hb, hb', hk, bd, st, la, lb, ca, cb⟩ := h
  have e2 : 2 * q * w = lo := by rw [elo, Nat.mul_comm 2 q, Nat.mul_assoc]
  have e3 : (2 * q + 1) * w = lo + w := by rw [Nat.add_mul, e2, Nat.one_mul]
  have bda := hX.bd (2 * q) a (by omega) (by omega) (by omega)
  rw [e2] at bda
  have sta : ∀ s, a < s → s < mid → lx P (X a) (X s) := fun s h1 h2 => hX.st (2 * q) a s (by omega) h1 (by omega) (by omega)
  have stb : ∀ s, b ≤ s → s < hi → lx P (X a) (X s) := fun s h1 h2 => by
    have hbh : b < hi := by omega
    have bdb := hX.bd (2 * q + 1) b (by omega) (by omega) (by omega)
    rw [e3] at bdb
    have c := hn hbh
    have l1 : lx P (X a) (X b) := by unfold lx; omega
    rcases Nat.eq_or_lt_of_le h1 with e | e
    · rw [← e]; exact l1
    · exact lx_trans l1 (hX.st (2 * q + 1) b s (by omega) e (by omega) (by omega))
  refine ⟨pass.upd (by omega), elo, emid, ehi, hlo, by omega, by omega, hb, hb', by omega, ?_, ?_, ?_, ?_, ?_, ?_⟩
  · intro t h1 h2
    by_cases e : t = k
    · subst e; rw [upd_at]; omega
    · rw [upd_off e]; exact bd t h1 (by omega)
  · intro t u h1 h2 h3
    rw [upd_off (by omega : t ≠ k)]
    by_cases e : u = k
    · subst e; rw [upd_at]; exact la t a h1 h2 (Nat.le_refl _) hlt
    · rw [upd_off e]; exact st t u h1 h2 (by omega)
  · intro t s h1 h2 h3 h4
    by_cases e : t = k
    · subst e; rw [upd_at]; exact sta s (by omega) h4
    · rw [upd_off e]; exact la t s h1 (by omega) (by omega) h4
  · intro t s h1 h2 h3 h4
    by_cases e : t = k
    · subst e; rw [upd_at]; exact stb s h3 h4
    · rw [upd_off e]; exact lb t s h1 (by omega) h3 h4
  · intro s h1 h2
    by_cases e : s = a
    · subst e; exact ⟨k, by omega, by omega, upd_at⟩
    · obtain ⟨u, u1, u2, u3⟩ := ca s h1 (by omega)
      exact ⟨u, u1, by omega, by rw [upd_off (by omega)]; exact u3⟩
  · intro s h1 h2
    obtain ⟨u, u1, u2, u3⟩ := cb s h1 h2
    exact ⟨u, u1, by omega, by rw [upd_off (by omega)]; exact u3⟩

/-- The next one is from the right. -/
theorem Mer.right {P : Nat → Int} {n w q lo mid hi a b k : Nat} {X Y : Nat → Nat} (hX : Runs P n w X) (h : Mer P n w X Y q lo mid hi a b k) (hlt : b < hi)
    (hn : a < mid → P (X b) < P (X a)) : Mer P n w X (upd Y k (X b)) q lo mid hi a (b + 1) (k + 1) := by
  obtain ⟨pass, elo, emid, ehi, hlo, ha, ha', hb, hb', hk, bd, st, la, lb, ca, cb⟩ := h
  have e2 : 2 * q * w = lo := by rw [elo, Nat.mul_comm 2 q, Nat.mul_assoc]
  have e3 : (2 * q + 1) * w = lo + w := by rw [Nat.add_mul, e2, Nat.one_mul]
  have bdb := hX.bd (2 * q + 1) b (by omega) (by omega) (by omega)
  rw [e3] at bdb
  have stb : ∀ s, b < s → s < hi → lx P (X b) (X s) := fun s h1 h2 => hX.st (2 * q + 1) b s (by omega) h1 (by omega) (by omega)
  have sta : ∀ s, a ≤ s → s < mid → lx P (X b) (X s) := fun s h1 h2 => by
    have l1 : lx P (X b) (X a) := Or.inl (hn (by omega))
    rcases Nat.eq_or_lt_of_le h1 with e | e
    · rw [← e]; exact l1
    · exact lx_trans l1 (hX.st (2 * q) a s (by omega) e (by omega) (by omega))
  refine ⟨pass.upd (by omega), elo, emid, ehi, hlo, by omega, by omega, by omega, by omega, by omega, ?_, ?_, ?_, ?_, ?_, ?_⟩
  · intro t h1 h2
    by_cases e : t = k
    · subst e; rw [upd_at]; omega
    · rw [upd_off e]; exact bd t h1 (by omega)
  · intro t u h1 h2 h3
    rw [upd_off (by omega : t ≠ k)]
    by_cases e : u = k
    · subst e; rw [upd_at]; exact lb t b h1 h2 (Nat.le_refl _) hlt
    · rw [upd_off e]; exact st t u h1 h2 (by omega)
  · intro t s h1 h2 h3 h4
    by_cases e : t = k
    · subst e; rw [upd_at]; exact sta s h3 h4
    · rw [upd_off e]; exact la t s h1 (by omega) h3 h4
  · intro t s h1 h2 h3 h4
    by_cases e : t = k
    · subst e; rw [upd_at]; exact stb s (by omega) h4
    · rw [upd_off e]; exact lb t s h1 (by omega) (by omega) h4
  · intro s h1 h2
    obtain ⟨u, u1, u2, u3⟩ := ca s h1 h2
    exact ⟨u, u1, by omega, by rw [upd_off (by omega)]; exact u3⟩
  · intro s h1 h2
    by_cases e : s = b
    · subst e; exact ⟨k, by omega, by omega, upd_at⟩
    · obtain ⟨u, u1, u2, u3⟩ := cb s h1 (by omega)
      exact ⟨u, u1, by omega, by rw [upd_off (by omega)]; exact u3⟩

theorem Mer.start {P : Nat → Int} {n w q lo mid hi : Nat} {X Y : Nat → Nat} (h : Pass P n w X Y q) (elo : lo = q * (2 * w)) (emid : mid = min (lo + w) n) (ehi : hi = min (lo + 2 * w) n) (hlo : lo < n) :
    Mer P n w X Y q lo mid hi lo mid lo :=
  ⟨h, elo, emid, ehi, hlo, Nat.le_refl _, by omega, Nat.le_refl _, by omega, rfl, fun t h1 h2 => by omega, fun t u h1 h2 h3 => by omega, fun t s h1 h2 => by omega, fun t s h1 h2 => by omega, fun s h1 h2 => by omega, fun s h1 h2 => by omega⟩

theorem Mer.fin {P : Nat → Int} {n w q lo mid hi a b k : Nat} {X Y : Nat → Nat} (h : Mer P n w X Y q lo mid hi a b k) (h1 : mid ≤ a) (h2 : hi ≤ b) : Pass P n w X Y (q + 1) := by
  obtain ⟨pass, elo, emid, ehi, hlo, ha, ha', hb, hb', hk, bd, st, la, lb, ca, cb⟩ := h
  have e : (q + 1) * (2 * w) = lo + 2 * w := by rw [Nat.add_mul, Nat.one_mul, ← elo]
  refine ⟨fun r t h1 h2 h3 h4 => ?_, fun r t u h1 h2 h3 h4 h5 => ?_, fun t h1 h2 => ?_⟩
  · rcases Nat.lt_or_ge r q with c | c
    · exact pass.bd r t c h2 h3 h4
    · obtain rfl : r = q := by omega
      rw [← elo] at h2 h3 ⊢
      exact bd t h2 (by omega)
  · rcases Nat.lt_or_ge r q with c | c
    · exact pass.st r t u c h2 h3 h4 h5
    · obtain rfl : r = q := by omega
      rw [← elo] at h2 h4
      exact st t u h2 h3 (by omega)
  · rw [e] at h1 ⊢
    rcases Nat.lt_or_ge t lo with c | c
    · obtain ⟨u, u1, u2, u3⟩ := pass.cov t (by omega) h2
      exact ⟨u, u1, by omega, u3⟩
    · rcases Nat.lt_or_ge t mid with c2 | c2
      · obtain ⟨u, u1, u2, u3⟩ := ca t c (by omega)
        exact ⟨u, by omega, by omega, u3⟩
      · obtain ⟨u, u1, u2, u3⟩ := cb t c2 (by omega)
        exact ⟨u, by omega, by omega, u3⟩

theorem rank_of_runs {P : Nat → Int} {n w : Nat} {X : Nat → Nat} (h : Runs P n w X) (hw : n ≤ w) : ∃ ρ : Nat → Nat, Rank P n X ρ := by
  have st : ∀ r s, r < s → s < n → lx P (X r) (X s) := fun r s h1 h2 => h.st 0 r s (by omega) h1 (by omega) h2
  refine ⟨fun i => if hi : i < n then Classical.choose (h.sur i hi) else 0, ⟨fun r hr => (h.bd 0 r (by omega) (by omega) hr).2.2, ?_, ?_, ?_, st⟩⟩
  · intro i hi
    simp only [dif_pos hi]
    exact (Classical.choose_spec (h.sur i hi)).1
  · intro r hr
    have hb := (h.bd 0 r (by omega) (by omega) hr).2.2
    simp only [dif_pos hb]
    obtain ⟨c1, c2⟩ := Classical.choose_spec (h.sur _ hb)
    generalize Classical.choose (h.sur _ hb) = u at c1 c2
    rcases Nat.lt_trichotomy u r with f | f | f
    · have := st u r f hr; rw [c2] at this; exact (lx_irrefl this).elim
    · exact f
    · have := st r u f c1; rw [c2] at this; exact (lx_irrefl this).elim
  · intro i hi
    simp only [dif_pos hi]
    exact (Classical.choose_spec (h.sur i hi)).2
end Go.Proofs.Qxb6605873a
