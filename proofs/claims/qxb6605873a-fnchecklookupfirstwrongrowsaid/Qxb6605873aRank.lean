/-
  The plain side: the order of the entries by position, then by number; sorted keys give it.
-/
import Derived.Test.Qxb6605873aMem
set_option linter.unusedVariables false
namespace Go.Proofs.Qxb6605873a
open Go.RowKit Go.Sort

/-- Entry i stands ahead of entry j. -/
def lx (P : Nat → Int) (i j : Nat) : Prop := P i < P j ∨ (P i = P j ∧ i < j)

/-- σ lists the entries in their order; ρ gives each its place. -/
structure Rank (P : Nat → Int) (n : Nat) (σ ρ : Nat → Nat) : Prop where
  sb : ∀ r, r < n → σ r < n
  rb : ∀ i, i < n → ρ i < n
  rs : ∀ r, r < n → ρ (σ r) = r
  sr : ∀ i, i < n → σ (ρ i) = i
  mono : ∀ r s, r < s → s < n → lx P (σ r) (σ s)

theorem lx_irrefl {P : Nat → Int} {i : Nat} (h : lx P i i) : False := by rcases h with h | ⟨_, h⟩ <;> omega
theorem lx_trans {P : Nat → Int} {i j k : Nat} (h : lx P i j) (h' : lx P j k) : lx P i k := by
  unfold lx at *; omega
theorem lx_asymm {P : Nat → Int} {i j : Nat} (h : lx P i j) (h' : lx P j i) : False := lx_irrefl (lx_trans h h')

theorem Rank.unique {P : Nat → Int} {n : Nat} {σ ρ σ' ρ' : Nat → Nat} (h : Rank P n σ ρ) (h' : Rank P n σ' ρ') : ∀ i, i < n → ρ i = ρ' i := by
  have key : ∀ r, r < n → σ r = σ' r := by
    intro r
    induction r using Nat.strongRecOn with
    | ind r ih =>
      intro hr
      -- where does σ r stand in σ'?
      have hb := h'.rb (σ r) (h.sb r hr)
      have hs := h'.sr (σ r) (h.sb r hr)
      have hb2 := h.rb (σ' r) (h'.sb r hr)
      have hs2 := h.sr (σ' r) (h'.sb r hr)
      rcases Nat.lt_trichotomy (ρ' (σ r)) r with e | e | e
      · have e2 := ih _ e (by omega)
        rw [hs] at e2
        have := congrArg ρ e2
        rw [h.rs r hr, h.rs _ (by omega)] at this
        omega
      · rw [← e, hs, e]
      · have m1 := h'.mono r _ e hb
        rw [hs] at m1
        rcases Nat.lt_trichotomy (ρ (σ' r)) r with f | f | f
        · have f2 := ih _ f (by omega)
          rw [hs2] at f2
          have := congrArg ρ' f2
          rw [h'.rs r hr, h'.rs _ (by omega)] at this
          omega
        · rw [← f, hs2, f]
        · have m2 := h.mono r _ f hb2
          rw [hs2] at m2
          exact (lx_asymm m1 m2).elim
  intro i hi
  have a := h'.sr i hi
  rw [← key _ (h'.rb i hi)] at a
  have := h.rs _ (h'.rb i hi)
  rw [a] at this
  exact this

def key (P : Nat → Int) (i : Nat) : Int := P i * 4294967296 + i
theorem key_mod {P : Nat → Int} {i : Nat} (hi : i ≤ 1048576) : (key P i % 4294967296).toNat = i := by unfold key; omega
theorem key_inj {P : Nat → Int} {i j : Nat} (hi : i ≤ 1048576) (hj : j ≤ 1048576) (h : key P i = key P j) : i = j := by
  have := key_mod (P := P) hi
  rw [h, key_mod hj] at this
  exact this.symm
theorem key_lt {P : Nat → Int} {i j : Nat} (hi : i ≤ 1048576) (hj : j ≤ 1048576) (h : key P i < key P j) : lx P i j := by
  unfold key at h; unfold lx; omega

def keysArr (P : Nat → Int) (n : Nat) : Array Int := ((List.range n).map (key P)).toArray
theorem keysArr_size {P : Nat → Int} {n : Nat} : (keysArr P n).size = n := by simp [keysArr]
theorem keysArr_get {P : Nat → Int} {n t : Nat} (h : t < n) : (keysArr P n)[t]! = key P t := by
  have hs : t < (keysArr P n).size := by rw [keysArr_size]; exact h
  rw [getElem!_pos (keysArr P n) t hs]
  simp [keysArr]

theorem rank_of_sorted {P : Nat → Int} {n : Nat} {R : Array Int} (hn : n ≤ 1048576) (h : Done 0 n (keysArr P n) R) :
    R.size = n ∧ ∃ σ ρ : Nat → Nat, Rank P n σ ρ ∧ ∀ r, r < n → R[r]! = key P (σ r) := by
  obtain ⟨⟨hs, _, hp⟩, hsort⟩ := h
  rw [keysArr_size] at hs
  have e1 : (R.extract 0 n).toList = R.toList := by rw [← hs]; simp
  have e2 : ((keysArr P n).extract 0 n).toList = (List.range n).map (key P) := by
    have : (keysArr P n).extract 0 n = keysArr P n := by
      have := Array.extract_size (xs := keysArr P n)
      rw [keysArr_size] at this; exact this
    rw [this]; simp [keysArr]
  rw [e1, e2] at hp
  have hget : ∀ r, r < n → R[r]! ∈ R.toList := fun r hr => by
    rw [getElem!_pos R r (by omega)]; simp
  have h1 : ∀ r, r < n → ∃ i, i < n ∧ R[r]! = key P i := fun r hr => by
    have := hp.mem_iff.1 (hget r hr)
    simp only [List.mem_map, List.mem_range] at this
    obtain ⟨i, hi, e⟩ := this
    exact ⟨i, hi, e.symm⟩
  have h2 : ∀ i, i < n → ∃ r, r < n ∧ R[r]! = key P i := fun i hi => by
    have : key P i ∈ R.toList := hp.mem_iff.2 (by simp only [List.mem_map, List.mem_range]; exact ⟨i, hi, rfl⟩)
    obtain ⟨r, hr, e⟩ := List.mem_iff_getElem.1 this
    refine ⟨r, by simpa [hs] using hr, ?_⟩
    rw [getElem!_pos R r (by simpa using hr)]
    simpa using e
  have hnd : R.toList.Nodup := by
    refine hp.symm.nodup ?_ 
    rw [List.nodup_iff_pairwise_ne, List.pairwise_map]
    refine List.Pairwise.imp_of_mem ?_ (List.nodup_iff_pairwise_ne.1 (List.nodup_range (n := n)))
    intro a b ha hb hab e
    simp only [List.mem_range] at ha hb
    exact hab (key_inj (by omega) (by omega) e)
  have hne : ∀ r s, r < s → s < n → R[r]! ≠ R[s]! := fun r s hrs hsn e => by
    rw [getElem!_pos R r (by omega), getElem!_pos R s (by omega)] at e
    have hp := List.pairwise_iff_getElem.1 (List.nodup_iff_pairwise_ne.1 hnd) r s (by simp; omega) (by simp; omega) hrs
    exact hp (by simpa using e)
  refine ⟨hs, fun r => (R[r]! % 4294967296).toNat, fun i => if h : i < n then Classical.choose (h2 i h) else 0, ⟨?_, ?_, ?_, ?_, ?_⟩, ?_⟩
  · intro r hr
    obtain ⟨i, hi, e⟩ := h1 r hr
    show (R[r]! % 4294967296).toNat < n
    rw [e, key_mod (by omega)]; exact hi
  · intro i hi
    simp only [dif_pos hi]
    exact (Classical.choose_spec (h2 i hi)).1
  · intro r hr
    obtain ⟨i, hi, e⟩ := h1 r hr
    show (if h : (R[r]! % 4294967296).toNat < n then Classical.choose (h2 _ h) else 0) = r
    have e3 : (R[r]! % 4294967296).toNat = i := by rw [e, key_mod (by omega)]
    have hc : (R[r]! % 4294967296).toNat < n := by omega
    rw [dif_pos hc]
    obtain ⟨c1, c2⟩ := Classical.choose_spec (h2 _ hc)
    generalize Classical.choose (h2 _ hc) = u at c1 c2
    rw [e3, ← e] at c2
    rcases Nat.lt_trichotomy u r with f | f | f
    · exact (hne u r f hr c2).elim
    · exact f
    · exact (hne r u f c1 c2.symm).elim
  · intro i hi
    show (R[if h : i < n then Classical.choose (h2 i h) else 0]! % 4294967296).toNat = i
    rw [dif_pos hi, (Classical.choose_spec (h2 i hi)).2, key_mod (by omega)]
  · intro r s hrs hsn
    obtain ⟨i, hi, e⟩ := h1 r (by omega)
    obtain ⟨j, hj, f⟩ := h1 s hsn
    show lx P (R[r]! % 4294967296).toNat (R[s]! % 4294967296).toNat
    have a := hsort r s (Nat.zero_le _) hrs hsn
    have b := hne r s hrs hsn
    rw [e, f] at a b ⊢
    rw [key_mod (by omega), key_mod (by omega)]
    refine key_lt (by omega) (by omega) ?_
    simp [ltInt] at a
    omega
  · intro r hr
    obtain ⟨i, hi, e⟩ := h1 r hr
    show R[r]! = key P (R[r]! % 4294967296).toNat
    rw [e, key_mod (by omega)]
end Go.Proofs.Qxb6605873a
