/-
  Rows of memory; slices.Sort.
-/
import Derived.Test.Qxb6605873aSort11
import Derived.Lib.SliceRun
set_option linter.unusedVariables false
namespace Go.Proofs.Qxb6605873a
open Go.RowKit Go.Sort

set_option maxRecDepth 100000 in
set_option maxHeartbeats 1000000 in
theorem sort_calls (w0 : World) (blk c n : Nat) (d : Array Int) (w : World) (hd : d.size = n) (hH : Arr w0 w blk d) (hsz : n ≤ 1048576) :
    Calls Try.prog 27 #[.slice (some ⟨blk, 0, none⟩) n c] w (PdqPost w0 blk 0 n d) := by
  have HD : Hid (d.size = n) := hd
  have HA : Hid (Arr w0 w blk d) := hH
  obtain ⟨K, hK⟩ : ∃ K, K = Lib.bitLen n := ⟨_, rfl⟩
  have hK64 : K ≤ 64 := by
    rcases Nat.eq_zero_or_pos n with h | h
    · subst h; subst hK; decide
    · have := (bitLen_spec n h hsz).2.2; omega
  have HK : Hid (Lib.bitLen n = K) := hK.symm
  clear hd hH hK
  go_enter Try.func27, Try.ntmps27
  go_wp2_with fail
  refine (bits_Len (n : Int) _ (by omega) (by omega)).mono ?_
  rintro e w' ⟨rfl, rfl⟩
  rw [Int.toNat_natCast, HK.out]
  go_wp2_with fail
  refine (pdq_calls w0 blk c n hsz n 0 n K d _ (by omega) HD.out HA.out (by omega) (Nat.le_refl _) hK64 (Or.inl rfl)).mono ?_
  rintro e w' ⟨rfl, d', hA', hD'⟩
  have HA' : Hid (Arr w0 w' blk d') := hA'
  have HD' : Hid (Done 0 n d d') := hD'
  clear hA' hD'
  go_wp2
  go_end0
  exact ⟨rfl, d', HA'.out, HD'.out⟩

/-- n numbers of kind k at the head of block b. -/
def Nums (k : IntKind) (w : World) (b n : Nat) (K : Nat → Int) : Prop := ∀ j, j < n → w.cell? ⟨b, j, none⟩ = some (.int k (K j))
/-- n cells lie in block b and may be written. -/
def Room (w : World) (b n : Nat) : Prop := ∀ j, j < n → (∃ v, w.cell? ⟨b, j, none⟩ = some v) ∧ w.frozen? ⟨b, j, none⟩ = false

theorem far {w : World} {g b i j : Nat} {s t : Option Nat} {v : Value} (h : g ≠ b) : (w.setCell ⟨g, i, s⟩ v).cell? ⟨b, j, t⟩ = w.cell? ⟨b, j, t⟩ :=
  World.cell?_setCell_other _ _ _ _ (fun e => h (congrArg Addr.block e))
theorem near {w : World} {g i j : Nat} {v : Value} (h : i ≠ j) : (w.setCell ⟨g, i, none⟩ v).cell? ⟨g, j, none⟩ = w.cell? ⟨g, j, none⟩ :=
  World.cell?_setCell_other _ _ _ _ (fun e => h (congrArg Addr.off e))

theorem Room.setCell {w : World} {g n : Nat} (h : Room w g n) (p : Addr) (u : Value) : Room (w.setCell p u) g n := fun j hj => by
  obtain ⟨⟨v, hv⟩, hf⟩ := h j hj
  exact ⟨cell?_setCell_some hv, by rw [World.frozen?_setCell]; exact hf⟩
theorem Room.below {w w' : World} {g n B : Nat} (h : Room w g n) (hb : Go.RowKit.Below B w w') (hg : g < B) : Room w' g n := fun j hj => by
  obtain ⟨⟨v, hv⟩, hf⟩ := h j hj
  exact ⟨⟨v, by rw [hb.cell (p := ⟨g, j, none⟩) hg]; exact hv⟩, by rw [hb.frozen (p := ⟨g, j, none⟩) hg]; exact hf⟩
theorem Room.drewN {w : World} {g n : Nat} (h : Room w g n) (q : Nat) : Room (w.drewN q) g n := h
theorem Nums.below {k : IntKind} {w w' : World} {b n B : Nat} {K : Nat → Int} (h : Nums k w b n K) (hb : Go.RowKit.Below B w w') (hB : b < B) : Nums k w' b n K := fun j hj => by
  rw [hb.cell (p := ⟨b, j, none⟩) hB]; exact h j hj
theorem Nums.far {k : IntKind} {w : World} {g b i n : Nat} {v : Value} {K : Nat → Int} (h : Nums k w b n K) (hg : g ≠ b) : Nums k (w.setCell ⟨g, i, none⟩ v) b n K := fun j hj => by
  rw [Qxb6605873a.far hg]; exact h j hj
theorem Nums.put {k : IntKind} {w : World} {b i n : Nat} {x : Int} {K Y : Nat → Int} (h : Nums k w b n K) (hx : Y i = x) (hY : ∀ j, j < n → j ≠ i → Y j = K j) : Nums k (w.setCell ⟨b, i, none⟩ (.int k x)) b n Y := fun j hj => by
  have := h j hj
  by_cases e : i = j
  · subst e; rw [hx]; exact World.cell?_setCell_same _ _ _ this
  · rw [near e, this, hY j hj (fun e' => e e'.symm)]
/-- One more number, into room. -/
theorem Nums.grow {k : IntKind} {w : World} {b n m : Nat} {x : Int} {K : Nat → Int} (h : Nums k w b n K) (hr : Room w b m) (hn : n < m) (hx : K n = x) : Nums k (w.setCell ⟨b, n, none⟩ (.int k x)) b (n + 1) K := fun j hj => by
  by_cases e : n = j
  · subst e; obtain ⟨⟨v, hv⟩, _⟩ := hr n hn; rw [hx]; exact World.cell?_setCell_same _ _ _ hv
  · rw [near e]; exact h j (by omega)

theorem owns_lt {w : World} {base e size g n : Nat} {xs : List Value} (h : w.ownsRow base e size (.slice (some ⟨g, 0, none⟩) n n) n xs) : g < w.heap.size := by
  rcases h.2 with ⟨h1, _⟩ | ⟨g', cap, cur, hv, _, hh, _⟩
  · cases h1
  · simp at hv
    obtain ⟨rfl, _⟩ := hv
    exact (Array.getElem?_eq_some_iff.1 hh).1
theorem room_of_owns {w : World} {base e size g n : Nat} {xs : List Value} (h : w.ownsRow base e size (.slice (some ⟨g, 0, none⟩) n n) n xs) : Room w g (n * size) := fun j hj => by
  refine ⟨?_, h.frozenAt j⟩
  rw [h.cellAt j hj]
  have hl : xs.length = n * size := h.1
  exact ⟨xs[j]'(by omega), List.getElem?_eq_getElem (by omega)⟩
theorem made_cell {w : World} {base e g n : Nat} {z : Value} {j : Nat} (h : w.ownsRow base e 1 (.slice (some ⟨g, 0, none⟩) n n) n (madeCells #[z] (n * 1)).toList) (hj : j < n) : w.cell? ⟨g, j, none⟩ = some z := by
  rw [h.cellAt j (by omega), toList_madeCells_one]
  simp [hj]
theorem grown_below {w w' : World} (h : w.grownBy w' none) : Go.RowKit.Below w.heap.size w w' := (Go.RowKit.Below.refl _ _).grown h (Nat.le_refl _) (fun k hk => by cases hk)

/-- What is asked of a row of the law's own that is only read: where it has elements it leads to a block's head. -/
def Rd (k : IntKind) (w : World) (a : Option Addr) (n : Nat) (K : Nat → Int) : Prop :=
  0 < n → ∃ b : Nat, a = some ⟨b, 0, none⟩ ∧ b < w.heap.size ∧ ∀ j, j < n → w.cell? ⟨b, j, none⟩ = some (.int k (K j))
theorem Rd.below {k : IntKind} {w w' : World} {a : Option Addr} {n : Nat} {K : Nat → Int} (h : Rd k w a n K) (hb : Go.RowKit.Below w.heap.size w w') : Rd k w' a n K := fun hn => by
  obtain ⟨b, e, hl, hc⟩ := h hn
  exact ⟨b, e, Nat.lt_of_lt_of_le hl hb.size, fun j hj => by rw [hb.cell (p := ⟨b, j, none⟩) hl]; exact hc j hj⟩
/-- The like of an argument that came in. -/
def Rx (k : IntKind) (w : World) (a : Option Addr) (n : Nat) (K : Nat → Int) : Prop :=
  0 < n → ∃ x : Addr, a = some x ∧ x.block < w.heap.size ∧ ∀ j, j < n → w.cell? (x.add j) = some (.int k (K j))
theorem add_block (x : Addr) (j : Nat) : (x.add j).block = x.block := by unfold Addr.add; split <;> rfl
theorem Rx.below {k : IntKind} {w w' : World} {a : Option Addr} {n : Nat} {K : Nat → Int} (h : Rx k w a n K) (hb : Go.RowKit.Below w.heap.size w w') : Rx k w' a n K := fun hn => by
  obtain ⟨x, e, hl, hc⟩ := h hn
  exact ⟨x, e, Nat.lt_of_lt_of_le hl hb.size, fun j hj => by rw [hb.cell (p := x.add j) (by rw [add_block]; exact hl)]; exact hc j hj⟩

theorem info43 : (Try.prog.info? 43).map (fun i => (i.zero, i.size, i.bytes)) = some (some (.int .u32 0), 1, 4) := by kernel_rfl
theorem info23 : (Try.prog.info? 23).map (fun i => (i.zero, i.size, i.bytes)) = some (some (.int .u64 0), 1, 8) := by kernel_rfl
theorem info3 : (Try.prog.info? 3).map (fun i => (i.zero, i.size, i.bytes)) = some (some (.int .i64 0), 1, 8) := by kernel_rfl
theorem info5 : (Try.prog.info? 5).map (fun i => (i.zero, i.size, i.bytes)) = some (some (.int .u8 0), 1, 1) := by kernel_rfl
theorem info53 : (Try.prog.info? 53).map (fun i => (i.zero, i.size, i.bytes)) = some (some (.agg #[.int .u32 0, .int .u64 0, .int .u32 0]), 3, 24) := by kernel_rfl
theorem info60 : (Try.prog.info? 60).map (fun i => (i.zero, i.size, i.bytes)) = some (some (.agg #[.int .u32 0, .int .u8 0, .int .u8 0, .int .u32 0, .slice none 0 0, .int .u32 0, .int .i64 0]), 7, 56) := by kernel_rfl
end Go.Proofs.Qxb6605873a
