/-
  The rows that the law copies out: what the copying loop keeps.
-/
import Derived.Test.Qxb6605748aFmtZZ
import Derived.Test.Qxb6605748aFmtPlain
namespace Go.Proofs.Qxb6605748aFmt
open Go.RowKit Go.Extern.Stop Go.Stop Go.Extern

def capI (X : Nat → Int) (k i j : Nat) : Int := if j < i then X (k + j) else 0
def capS (X : Nat → ByteArray) (k i : Nat) (z : ByteArray) (j : Nat) : ByteArray := if j < i then X (k + j) else z

/-- The rows copied so far. -/
structure Lp (w0 w : World) (gk gt gp ge k m i : Nat) (K P E : Nat → Int) (S : Nat → ByteArray) (z : ByteArray) : Prop where
  k2 : Ints w gk 0 (m + 1) (capI K k i)
  t2 : Strs w gt 0 (m + 1) (capS S k i z)
  p2 : Ints w gp 0 (m + 1) (capI P k i)
  e2 : Ints w ge 0 (m + 1) (capI E k i)
  rk : Room w gk (m + 1)
  rt : Room w gt (m + 1)
  rp : Room w gp (m + 1)
  re : Room w ge (m + 1)
  below : Below w0.heap.size w0 w
  l0 : w0.heap.size ≤ gk
  l1 : gk < gt
  l2 : gt < gp
  l3 : gp < ge
  l4 : ge < w.heap.size

theorem far {w : World} {g b i j : Nat} {v : Value} (h : g ≠ b) : (w.setCell ⟨g, i, none⟩ v).cell? ⟨b, j, none⟩ = w.cell? ⟨b, j, none⟩ := World.cell?_setCell_far _ _ _ _ h
theorem Ints.far {w : World} {g b i n : Nat} {v : Value} {X : Nat → Int} (h : Ints w b 0 n X) (hg : g ≠ b) : Ints (w.setCell ⟨g, i, none⟩ v) b 0 n X := fun j hj => by
  rw [Qxb6605748aFmt.far hg]; exact h j hj
theorem Strs.far {w : World} {g b i n : Nat} {v : Value} {X : Nat → ByteArray} (h : Strs w b 0 n X) (hg : g ≠ b) : Strs (w.setCell ⟨g, i, none⟩ v) b 0 n X := fun j hj => by
  rw [Qxb6605748aFmt.far hg]; exact h j hj
theorem Ints.put {w : World} {b i n : Nat} {x : Int} {X Y : Nat → Int} (h : Ints w b 0 n X) (hx : Y i = x) (hY : ∀ j, j < n → j ≠ i → Y j = X j) : Ints (w.setCell ⟨b, i, none⟩ (.int .i64 x)) b 0 n Y := fun j hj => by
  have := h j hj
  simp only [Nat.zero_add] at this ⊢
  by_cases e : i = j
  · subst e; rw [hx]; exact World.cell?_setCell_same _ _ _ this
  · rw [cell_set_ne e, this, hY j hj (fun e' => e e'.symm)]
theorem Strs.put {w : World} {b i n : Nat} {x : ByteArray} {X Y : Nat → ByteArray} (h : Strs w b 0 n X) (hx : Y i = x) (hY : ∀ j, j < n → j ≠ i → Y j = X j) : Strs (w.setCell ⟨b, i, none⟩ (.string x)) b 0 n Y := fun j hj => by
  have := h j hj
  simp only [Nat.zero_add] at this ⊢
  by_cases e : i = j
  · subst e; rw [hx]; exact World.cell?_setCell_same _ _ _ this
  · rw [cell_set_ne e, this, hY j hj (fun e' => e e'.symm)]
theorem Ints.same {w : World} {b n : Nat} {X Y : Nat → Int} (h : Ints w b 0 n X) (hY : ∀ j, j < n → Y j = X j) : Ints w b 0 n Y := fun j hj => by rw [hY j hj]; exact h j hj
theorem capI_at {X : Nat → Int} {k i : Nat} : capI X k (i + 1) i = X (k + i) := by unfold capI; rw [if_pos (by omega)]
theorem capI_off {X : Nat → Int} {k i j : Nat} (h : j ≠ i) : capI X k (i + 1) j = capI X k i j := by
  unfold capI
  by_cases e : j < i
  · rw [if_pos e, if_pos (by omega)]
  · rw [if_neg e, if_neg (by omega)]
theorem capS_at {X : Nat → ByteArray} {k i : Nat} {z : ByteArray} : capS X k (i + 1) z i = X (k + i) := by unfold capS; rw [if_pos (by omega)]
theorem capS_off {X : Nat → ByteArray} {k i j : Nat} {z : ByteArray} (h : j ≠ i) : capS X k (i + 1) z j = capS X k i z j := by
  unfold capS
  by_cases e : j < i
  · rw [if_pos e, if_pos (by omega)]
  · rw [if_neg e, if_neg (by omega)]

theorem Lp.step {w0 w : World} {gk gt gp ge k m i : Nat} {K P E : Nat → Int} {S : Nat → ByteArray} {z : ByteArray} (h : Lp w0 w gk gt gp ge k m i K P E S z) :
    Lp w0 ((((w.setCell ⟨gk, i, none⟩ (.int .i64 (K (k + i)))).setCell ⟨gt, i, none⟩ (.string (S (k + i)))).setCell ⟨gp, i, none⟩ (.int .i64 (P (k + i)))).setCell ⟨ge, i, none⟩ (.int .i64 (E (k + i)))) gk gt gp ge k m (i + 1) K P E S z := by
  obtain ⟨a1, a2, a3, a4, a5, a6, a7, a8, a9, b0, b1, b2, b3, b4⟩ := h
  exact ⟨(((a1.put capI_at (fun j _ e => capI_off e)).far (by omega)).far (by omega)).far (by omega),
    (((a2.far (by omega)).put capS_at (fun j _ e => capS_off e)).far (by omega)).far (by omega),
    (((a3.far (by omega)).far (by omega)).put capI_at (fun j _ e => capI_off e)).far (by omega),
    (((a4.far (by omega)).far (by omega)).far (by omega)).put capI_at (fun j _ e => capI_off e),
    (((a5.setCell _ _).setCell _ _).setCell _ _).setCell _ _, (((a6.setCell _ _).setCell _ _).setCell _ _).setCell _ _,
    (((a7.setCell _ _).setCell _ _).setCell _ _).setCell _ _, (((a8.setCell _ _).setCell _ _).setCell _ _).setCell _ _,
    (((a9.setCell b0 _).setCell (by simp; omega) _).setCell (by simp; omega) _).setCell (by simp; omega) _, b0, b1, b2, b3, by simpa using b4⟩

/-- The end token laid behind them. -/
theorem Lp.close {w0 w : World} {gk gt gp ge k m : Nat} {K P E : Nat → Int} {S : Nat → ByteArray} {z : ByteArray} (h : Lp w0 w gk gt gp ge k m m K P E S z) (z' : ByteArray) :
    Lp w0 ((w.setCell ⟨gk, m, none⟩ (.int .i64 0)).setCell ⟨gt, m, none⟩ (.string z')) gk gt gp ge k m m K P E S z' := by
  obtain ⟨a1, a2, a3, a4, a5, a6, a7, a8, a9, b0, b1, b2, b3, b4⟩ := h
  exact ⟨(a1.put (by unfold capI; rw [if_neg (by omega)]) (fun j _ e => rfl)).far (by omega),
    (a2.far (by omega)).put (by unfold capS; rw [if_neg (by omega)]) (fun j hj e => by unfold capS; rw [if_pos (by omega), if_pos (by omega)]),
    (a3.far (by omega)).far (by omega), (a4.far (by omega)).far (by omega),
    (a5.setCell _ _).setCell _ _, (a6.setCell _ _).setCell _ _, (a7.setCell _ _).setCell _ _, (a8.setCell _ _).setCell _ _,
    (a9.setCell b0 _).setCell (by simp; omega) _, b0, b1, b2, b3, by simpa using b4⟩

/-- The four fresh rows. -/
theorem Lp.start {w0 w1 w2 w3 w4 : World} {e1 e2 k m : Nat} {K P E : Nat → Int} {S : Nat → ByteArray}
    (h1 : w1.ownsRow 0 e1 1 (.slice (some ⟨w0.heap.size, 0, none⟩) (m + 1) (m + 1)) (m + 1) (madeCells #[.int .i64 0] ((m + 1) * 1)).toList) (g1 : w0.grownBy w1 none)
    (h2 : w2.ownsRow 0 e2 1 (.slice (some ⟨w1.heap.size, 0, none⟩) (m + 1) (m + 1)) (m + 1) (madeCells #[.string ⟨#[]⟩] ((m + 1) * 1)).toList) (g2 : w1.grownBy w2 none)
    (h3 : w3.ownsRow 0 e1 1 (.slice (some ⟨w2.heap.size, 0, none⟩) (m + 1) (m + 1)) (m + 1) (madeCells #[.int .i64 0] ((m + 1) * 1)).toList) (g3 : w2.grownBy w3 none)
    (h4 : w4.ownsRow 0 e1 1 (.slice (some ⟨w3.heap.size, 0, none⟩) (m + 1) (m + 1)) (m + 1) (madeCells #[.int .i64 0] ((m + 1) * 1)).toList) (g4 : w3.grownBy w4 none) :
    Lp w0 w4 w0.heap.size w1.heap.size w2.heap.size w3.heap.size k m 0 K P E S ⟨#[]⟩ := by
  have r1 : Room w1 w0.heap.size (m + 1) := by have := room_of_owns h1; simpa using this
  have r2 : Room w2 w1.heap.size (m + 1) := by have := room_of_owns h2; simpa using this
  have r3 : Room w3 w2.heap.size (m + 1) := by have := room_of_owns h3; simpa using this
  have r4 : Room w4 w3.heap.size (m + 1) := by have := room_of_owns h4; simpa using this
  have s1 : w0.heap.size < w1.heap.size := World.block_lt_of_cell? _ _ (r1 0 (by omega)).1.choose_spec
  have s2 : w1.heap.size < w2.heap.size := World.block_lt_of_cell? _ _ (r2 0 (by omega)).1.choose_spec
  have s3 : w2.heap.size < w3.heap.size := World.block_lt_of_cell? _ _ (r3 0 (by omega)).1.choose_spec
  have s4 : w3.heap.size < w4.heap.size := World.block_lt_of_cell? _ _ (r4 0 (by omega)).1.choose_spec
  have b1 := grown_below g1
  have b2 := grown_below g2
  have b3 := grown_below g3
  have b4 := grown_below g4
  have i1 : Ints w1 w0.heap.size 0 (m + 1) (capI K k 0) := fun j hj => by simp only [Nat.zero_add]; rw [made_cell h1 hj]; simp [capI]
  have i2 : Strs w2 w1.heap.size 0 (m + 1) (capS S k 0 ⟨#[]⟩) := fun j hj => by simp only [Nat.zero_add]; rw [made_cell h2 hj]; simp [capS]
  have i3 : Ints w3 w2.heap.size 0 (m + 1) (capI P k 0) := fun j hj => by simp only [Nat.zero_add]; rw [made_cell h3 hj]; simp [capI]
  have i4 : Ints w4 w3.heap.size 0 (m + 1) (capI E k 0) := fun j hj => by simp only [Nat.zero_add]; rw [made_cell h4 hj]; simp [capI]
  exact ⟨((i1.below b2 s1).below b3 (by omega)).below b4 (by omega), (i2.below b3 s2).below b4 (by omega), i3.below b4 s3, i4,
    ((r1.below b2 s1).below b3 (by omega)).below b4 (by omega), (r2.below b3 s2).below b4 (by omega), r3.below b4 s3, r4,
    ((b1.trans (b2.mono (by omega))).trans (b3.mono (by omega))).trans (b4.mono (by omega)), Nat.le_refl _, s1, s2, s3, s4⟩

abbrev endText : ByteArray := ⟨#[101, 110, 100, 32, 111, 102, 32, 109, 97, 116, 99, 104, 101, 114]⟩

theorem cap_fit {K P E : Nat → Int} {S : Nat → ByteArray} {n k m : Nat} (FT : Fit (fun j => ⟨K j, S j, P j, E j⟩) n) (hk : k + m < n) :
    Fit (fun j => ⟨capI K k m j, capS S k m endText j, capI P k m j, capI E k m j⟩) (m + 1) := by
  refine ⟨fun j hj hz => ?_, fun j hj hz => ?_, fun j hj => ?_⟩
  · by_cases e : j < m
    · omega
    · simp [capI, e] at hz
  · by_cases e : j < m
    · simp only [capI, capS, if_pos e] at hz ⊢
      exact FT.quoted (k + j) (by omega) hz
    · simp [capI, e] at hz
  · by_cases e : j < m
    · simp only [capS, if_pos e]
      exact FT.short (k + j) (by omega)
    · simp only [capS, if_neg e]
      decide
theorem cap_capped (K P E : Nat → Int) (S : Nat → ByteArray) (k m : Nat) :
    Capped (fun j => ⟨K j, S j, P j, E j⟩) (fun j => ⟨capI K k m j, capS S k m endText j, capI P k m j, capI E k m j⟩) k (k + m) := by
  refine ⟨fun j h1 h2 => ?_, ?_⟩
  · have e : j - k < m := by omega
    simp only [capI, capS, if_pos e]
    rw [show k + (j - k) = j by omega]
  · simp [capI]

theorem kind_test {s : ByteArray} (h : s ≠ ⟨#[]⟩) : (s.toList == ([] : List UInt8)) = false := by
  rw [beq_eq_false_iff_ne, ByteArray.toList_eq]
  intro e
  apply h
  cases s with
  | mk d => 
    have : d = #[] := Array.toList_eq_nil_iff.1 e
    rw [this]

theorem same_S {w : World} {n b1 b2 : Nat} {v v' : Value} {o : Option (List ByteArray)} (h : SlS w b1 v o) (h' : SlS w b2 v' o) (hl : ∀ L, o = some L → L.length ≤ 65536) :
    Calls Tryf.prog 10 #[v, v'] (w.drewN n) (IsTrue (w.drewN n)) := by
  cases o with
  | none =>
    have e : v = .slice none 0 0 := h
    have e' : v' = .slice none 0 0 := h'
    subst e e'
    exact sameS_nil _
  | some L =>
    obtain ⟨g, c, rfl, _, _, hs⟩ := h
    obtain ⟨g', c', rfl, _, _, hs'⟩ := h'
    exact sameS_calls _ _ _ _ _ (fun j => L.getD j ⟨#[]⟩) _ (hl L rfl) hs hs'
theorem same_I {w : World} {n b1 b2 : Nat} {v v' : Value} {o : Option (List Int)} (h : SlI w b1 v o) (h' : SlI w b2 v' o) (hl : ∀ L, o = some L → L.length ≤ 65536) :
    Calls Tryf.prog 11 #[v, v'] (w.drewN n) (IsTrue (w.drewN n)) := by
  cases o with
  | none =>
    have e : v = .slice none 0 0 := h
    have e' : v' = .slice none 0 0 := h'
    subst e e'
    exact sameI_nil _
  | some L =>
    obtain ⟨g, c, rfl, _, _, hs⟩ := h
    obtain ⟨g', c', rfl, _, _, hs'⟩ := h'
    exact sameI_calls _ _ _ _ _ (fun j => L.getD j 0) _ (hl L rfl) hs hs'
theorem SlS.far {w w' : World} {base : Nat} {v : Value} {o : Option (List ByteArray)} (h : SlS w base v o) (hb : Below w.heap.size w w') (h0 : 0 < base) : SlS w' base v o :=
  h.bx (Bx.of (C := 0) hb) (Nat.le_refl _) h0 (Nat.le_refl _)
theorem SlI.far {w w' : World} {base : Nat} {v : Value} {o : Option (List Int)} (h : SlI w base v o) (hb : Below w.heap.size w w') (h0 : 0 < base) : SlI w' base v o :=
  h.bx (Bx.of (C := 0) hb) (Nat.le_refl _) h0 (Nat.le_refl _)
end Go.Proofs.Qxb6605748aFmt
