/-
  THE WALK of readRoles's closure (22): one role of a list.
-/
import Derived.Test.Qxb6605748aFmtTok
import Derived.Test.Qxb6605748aFmtOrders
import Derived.Deep.RegionHeld3
import Derived.Deep.AppendLies
import Derived.Deep.DrawnRows
import Derived.OwnWalk
namespace Go.Proofs.Qxb6605748aFmt
open Go.RowKit

theorem Bx.owns {w w' : World} {base e size n C : Nat} {v : Value} {xs : List Value} (h : w.ownsRow base e size v n xs) (hb : Bx w.heap.size C w w') (hC : C < base) : w'.ownsRow base e size v n xs := by
  refine ⟨h.1, ?_⟩
  rcases h.2 with h0 | ⟨g, cap, cur, hv, hg, hh, r⟩
  · exact Or.inl h0
  · refine Or.inr ⟨g, cap, cur, hv, hg, ?_, r⟩
    have hlt : g < w.heap.size := by
      rcases Nat.lt_or_ge g w.heap.size with h' | h'
      · exact h'
      · simp [Array.getElem?_eq_none h'] at hh
    rw [hb.block g hlt (by omega)]; exact hh

abbrev unq (t : Tok) : ByteArray := t.text.extract 1 (t.text.size - 1)

/-- What stands while a list of roles is read: the captured cursor, the cursor, the tokens, the argument that is built (block A), and its two slices. -/
structure Build (w : World) (P1 A C B n k base : Nat) (T : Nat → Tok) (nm : ByteArray) (ps : Int) (R : List ByteArray) (Q : List Int) (rv av : Value) : Prop where
  cap : w.cell? ⟨P1, 0, none⟩ = some (.pointer (some ⟨C, 0, none⟩))
  toks : Toks w B n T
  cur : Cur w C B n k
  arg : w.heap[A]? = some (.cells #[.string nm, rv, av, .int .i64 0, .int .i64 ps] 43 (0, 0))
  roles : w.ownsRow base 9 1 rv R.length (R.map Value.string)
  ats : w.ownsRow base 3 1 av Q.length (Q.map (Value.int .i64))
  room : base ≤ w.heap.size
  cC : C < base
  cA : A < base
  cP : P1 < base
  cB : B < base
  nAC : A ≠ C
  nAB : A ≠ B
  nPC : P1 ≠ C
  nPA : P1 ≠ A
  nBC : B ≠ C

theorem owns_lt {w : World} {base e size n : Nat} {v : Value} {xs : List Value} (h : w.ownsRow base e size v n xs) : ∀ b, w.heap.size ≤ b → some b ≠ v.ownBlock := fun b hb hv => by
  rcases h.2 with ⟨rfl, _⟩ | ⟨g, cap, cur, rfl, _, hh, _⟩
  · simp [Value.ownBlock] at hv
  · simp only [Value.ownBlock, Option.some.injEq] at hv
    subst hv
    have := (Array.getElem?_eq_some_iff.1 hh).1
    omega
theorem owns_ge {w : World} {base e size n : Nat} {v : Value} {xs : List Value} (h : w.ownsRow base e size v n xs) : ∀ b, b < base → some b ≠ v.ownBlock := fun b hb hv => by
  rcases h.2 with ⟨rfl, _⟩ | ⟨g, cap, cur, rfl, hg, hh, _⟩
  · simp [Value.ownBlock] at hv
  · simp only [Value.ownBlock, Option.some.injEq] at hv
    omega
/-- Two rows of different element types do not lie in one block. -/
theorem owns_apart {w : World} {base e e' size size' n n' : Nat} {v v' : Value} {xs xs' : List Value} (h : w.ownsRow base e size v n xs) (h' : w.ownsRow base e' size' v' n' xs') (hne : e ≠ e') : v.ownBlock = none ∨ v.ownBlock ≠ v'.ownBlock := by
  rcases h.2 with ⟨rfl, _⟩ | ⟨g, cap, cur, rfl, hg, hh, _⟩
  · exact Or.inl rfl
  · refine Or.inr fun hb => ?_
    rcases h'.2 with ⟨rfl, _⟩ | ⟨g', cap', cur', rfl, hg', hh', _⟩
    · simp [Value.ownBlock] at hb
    · simp only [Value.ownBlock, Option.some.injEq] at hb
      subst hb
      rw [hh] at hh'
      simp only [Option.some.injEq, Obj.cells.injEq] at hh'
      exact hne hh'.2.1
theorem news_one {W : World} {blk : Nat} {x : Value} (h : W.cell? ⟨blk, 0, none⟩ = some x) : ∀ j u, [x][j]? = some u → W.cell? ((⟨blk, 0, none⟩ : Addr).add j) = some u := fun j u hu => by
  match j, hu with
  | 0, hu =>
    simp only [List.getElem?_cons_zero, Option.some.injEq] at hu
    subst hu
    simpa [Addr.add] using h

/-- Below block number B, and but for blocks C and A, w' is as w was. -/
structure B2 (B C A : Nat) (w w' : World) : Prop where
  os : w'.os = w.os
  tape : w'.tape = w.tape
  output : w'.output = w.output
  size : w.heap.size ≤ w'.heap.size
  block : ∀ k, k < B → k ≠ C → k ≠ A → w'.heap[k]? = w.heap[k]?
theorem B2.refl (B C A : Nat) (w : World) : B2 B C A w w := ⟨rfl, rfl, rfl, Nat.le_refl _, fun _ _ _ _ => rfl⟩
theorem B2.trans {B C A : Nat} {a b c : World} (h : B2 B C A a b) (k : B2 B C A b c) : B2 B C A a c :=
  ⟨k.os.trans h.os, k.tape.trans h.tape, k.output.trans h.output, Nat.le_trans h.size k.size, fun i hi hc ha => (k.block i hi hc ha).trans (h.block i hi hc ha)⟩
theorem B2.of {B D C A : Nat} {w w' : World} (h : Bx D C w w') (hB : B ≤ D) : B2 B C A w w' := ⟨h.os, h.tape, h.output, h.size, fun k hk hc _ => h.block k (Nat.lt_of_lt_of_le hk hB) hc⟩

theorem heap_set {w : World} {b i : Nat} {cs : Array Value} {t : TypeId} {fr : Nat × Nat} (h : w.heap[b]? = some (.cells cs t fr)) (v : Value) : (w.setCell ⟨b, i, none⟩ v).heap[b]? = some (.cells (cs.setIfInBounds i v) t fr) := by
  have hlt := (Array.getElem?_eq_some_iff.1 h).1
  have he := (Array.getElem?_eq_some_iff.1 h).2
  simp [World.setCell, Array.getElem_modify, hlt, he]

theorem build_done {w wa w2 : World} {P1 A C B n k base : Nat} {T : Nat → Tok} {nm : ByteArray} {ps : Int} {R : List ByteArray} {Q : List Int} {rv av v1 v2 : Value} (x : ByteArray) (y : Int)
    (H : Build w P1 A C B n k base T nm ps R Q rv av) (hba : Bx w.heap.size C w wa) (hca : Cur wa C B n (k + 1)) (hw2 : ∀ b, b < base → w2.heap[b]? = wa.heap[b]?) (hsz : base ≤ w2.heap.size) (ho : w2.os = wa.os) (ht : w2.tape = wa.tape) (hu : w2.output = wa.output) (hsw : wa.heap.size ≤ w2.heap.size)
    (h1 : w2.ownsRow base 9 1 v1 (R.length + 1) (R.map Value.string ++ [Value.string x])) (h2 : w2.ownsRow base 3 1 v2 (Q.length + 1) (Q.map (Value.int .i64) ++ [.int .i64 y])) :
    Build ((w2.setCell ⟨A, 1, none⟩ v1).setCell ⟨A, 2, none⟩ v2) P1 A C B n (k + 1) base T nm ps (R ++ [x]) (Q ++ [y]) v1 v2 ∧ B2 base C A w ((w2.setCell ⟨A, 1, none⟩ v1).setCell ⟨A, 2, none⟩ v2) := by
  have hr := H.room
  have hcC := H.cC
  have hcA := H.cA
  have hcP := H.cP
  have hcB := H.cB
  have nAC := H.nAC
  have nAB := H.nAB
  have nPC := H.nPC
  have nPA := H.nPA
  have nBC := H.nBC
  have hblk : ∀ b, b < base → b ≠ A → ((w2.setCell ⟨A, 1, none⟩ v1).setCell ⟨A, 2, none⟩ v2).heap[b]? = wa.heap[b]? := fun b hb hne => by
    rw [Below.heap_setCell _ _ _ _ hne, Below.heap_setCell _ _ _ _ hne]; exact hw2 b hb
  have hblk' : ∀ b, b < base → b ≠ A → b ≠ C → ((w2.setCell ⟨A, 1, none⟩ v1).setCell ⟨A, 2, none⟩ v2).heap[b]? = w.heap[b]? := fun b hb hne hc => (hblk b hb hne).trans (hba.block b (by omega) hc)
  have hA : w2.heap[A]? = some (.cells #[.string nm, rv, av, .int .i64 0, .int .i64 ps] 43 (0, 0)) := (hw2 A hcA).trans ((hba.block A (by omega) nAC).trans H.arg)
  refine ⟨?_, ⟨ho.trans hba.os, ht.trans hba.tape, hu.trans hba.output, by have := hba.size; simp; omega, fun b hb hc ha => hblk' b hb ha hc⟩⟩
  refine ⟨?_, fun j hj => ?_, ⟨?_, ?_, ?_⟩, ?_, ?_, ?_, ?_, hcC, hcA, hcP, hcB, nAC, nAB, nPC, nPA, nBC⟩
  · exact (World.cell?_of_block (w := w) (hblk' P1 hcP nPA nPC)).trans H.cap
  · have e := fun o => World.cell?_of_block (w := w) (w' := (w2.setCell ⟨A, 1, none⟩ v1).setCell ⟨A, 2, none⟩ v2) (a := ⟨B, o, none⟩) (hblk' B hcB (Ne.symm nAB) nBC)
    rw [e, e, e, e]
    exact H.toks j hj
  · exact (World.cell?_of_block (w := wa) (hblk C hcC (Ne.symm nAC))).trans hca.toks
  · exact (World.cell?_of_block (w := wa) (hblk C hcC (Ne.symm nAC))).trans hca.next
  · exact (World.frozen?_of_block (w := wa) (hblk C hcC (Ne.symm nAC))).trans hca.free
  · rw [heap_set (heap_set hA v1) v2]; simp
  · have := ownsRow_setCell_below (ownsRow_setCell_below h1 (a := ⟨A, 1, none⟩) hcA v1) (a := ⟨A, 2, none⟩) hcA v2
    simpa using this
  · have := ownsRow_setCell_below (ownsRow_setCell_below h2 (a := ⟨A, 1, none⟩) hcA v1) (a := ⟨A, 2, none⟩) hcA v2
    simpa using this
  · simpa using hsz

attribute [local go_sem ↓] Go.wp_at_zero Go.wp_at_succ

/-- What the reading of one role leaves: it is there; of what was there below base nothing has turned but the cursor and the argument. -/
def ItemBack (P1 A C B n k base : Nat) (T : Nat → Tok) (nm : ByteArray) (ps : Int) (R : List ByteArray) (Q : List Int) (w : World) (e : Ending) (w' : World) : Prop :=
  e = .returned .nilIface ∧ (∃ rv' av', Build w' P1 A C B n k base T nm ps R Q rv' av') ∧ B2 base C A w w'

set_option linter.unusedSimpArgs false in
set_option maxRecDepth 100000 in
set_option maxHeartbeats 3200000 in
theorem item_string (P1 A C B n k base : Nat) (T : Nat → Tok) (nm : ByteArray) (ps : Int) (R : List ByteArray) (Q : List Int) (rv av : Value) (w : World)
    (H : Build w P1 A C B n k base T nm ps R Q rv av) (hk : k < n) (hn : n ≤ 65537) (h3 : (T k).kind = 3) (h2 : 2 ≤ (T k).text.size) (hs : (T k).text.size ≤ 1048576) (hR : R.length ≤ 65537) (hQ : Q.length ≤ 65537) :
    Calls Tryf.prog 22 #[.pointer (some ⟨P1, 0, none⟩), .pointer (some ⟨A, 0, none⟩)] w (ItemBack P1 A C B n (k + 1) base T nm ps (R ++ [unq (T k)]) (Q ++ [(T k).pos]) w) := by
  obtain ⟨i9, hi9, hz90, hz91, hz92⟩ := info_parts info9
  obtain ⟨i3, hi3, hz30, hz31, hz32⟩ := info_parts info3
  have hcap := H.cap
  have hP1 : P1 < w.heap.size := by have := H.cP; have := H.room; omega
  have h3' : ((T k).kind != 3) = false := by simp [h3]
  have H3 := hide h3
  clear h3
  go_enter Tryf.func22, Tryf.ntmps22
  go_wp2_with fail
  refine (advance_step C B n k T _ H.toks H.cur hk hn (by rw [H3.out]; decide)).mono ?_
  rintro e wa ⟨rfl, hba, hca⟩
  dsimp only [Tok.val]
  go_wp2_with fail
  have hsa : w.heap.size ≤ wa.heap.size := hba.size
  have hroom := H.room
  have hcA := H.cA
  have hA : wa.heap[A]? = some (.cells #[.string nm, rv, av, .int .i64 0, .int .i64 ps] 43 (0, 0)) := (hba.block A (by omega) H.nAC).trans H.arg
  have hRa : wa.ownsRow base 9 1 rv R.length (R.map Value.string) := Bx.owns H.roles hba H.cC
  have hQa : wa.ownsRow base 3 1 av Q.length (Q.map (Value.int .i64)) := Bx.owns H.ats hba H.cC
  have ltR := owns_lt hRa
  have ltQ := owns_lt hQa
  have geR := owns_ge hRa
  have geQ := owns_ge hQa
  have hap := owns_apart hQa hRa (by decide)
  generalize hWZ : wa.alloc (Obj.cells #[Value.int IntKind.i64 (T k).kind, Value.string (T k).text, Value.int IntKind.i64 (T k).pos, Value.int IntKind.i64 (T k).fin] 37) = wz
  have hWZs : wz.heap.size = wa.heap.size + 1 := by rw [← hWZ]; simp
  have hownR : wz.ownsRow base 9 1 rv R.length (R.map Value.string) := by rw [← hWZ]; exact hRa.alloc _
  have hownQ : wz.ownsRow base 3 1 av Q.length (Q.map (Value.int .i64)) := by rw [← hWZ]; exact hQa.alloc _
  have hAz : wz.heap[A]? = some (.cells #[.string nm, rv, av, .int .i64 0, .int .i64 ps] 43 (0, 0)) := by rw [← hWZ, Below.heap_alloc _ _ _ (by omega)]; exact hA
  have tc0 : wz.cell? ⟨wa.heap.size, 0, none⟩ = some (.int .i64 (T k).kind) := by rw [← hWZ]; simp
  have tc1 : wz.cell? ⟨wa.heap.size, 1, none⟩ = some (.string (T k).text) := by rw [← hWZ]; simp
  have tc2 : wz.cell? ⟨wa.heap.size, 2, none⟩ = some (.int .i64 (T k).pos) := by rw [← hWZ]; simp
  have tc3 : wz.cell? ⟨wa.heap.size, 3, none⟩ = some (.int .i64 (T k).fin) := by rw [← hWZ]; simp
  have HWZ := hide hWZ
  have hzo : Hid (wz.os = wa.os) := by rw [← hWZ]; rfl
  have hzt : Hid (wz.tape = wa.tape) := by rw [← hWZ]; rfl
  have hzu : Hid (wz.output = wa.output) := by rw [← hWZ]; rfl
  have HH := hide H
  have HBA := hide hba
  have HCA := hide hca
  have HAZ := hide hAz
  have cA1 : wz.cell? ⟨A, 1, none⟩ = some rv := by simp [World.cell?, hAz]
  have cA2 : wz.cell? ⟨A, 2, none⟩ = some av := by simp [World.cell?, hAz]
  have fA1 : wz.frozen? ⟨A, 1, none⟩ = false := by simp [World.frozen?, hAz]
  have fA2 : wz.frozen? ⟨A, 2, none⟩ = false := by simp [World.frozen?, hAz]
  have HRA := hide hRa
  have HQA := hide hQa
  have HAA := hide hA
  have HSA := hide hsa
  have lA : A < wz.heap.size := by omega
  have lt : wa.heap.size < wz.heap.size := by omega
  have lb : base ≤ wz.heap.size := by omega
  have HWS := hide hWZs
  have HAP := hide hap
  have LTR := hide ltR
  have LTQ := hide ltQ
  have GER := hide geR
  have GEQ := hide geQ
  clear hWZ hWZs H hba hca hAz hRa hQa hA hsa hap ltR ltQ geR geQ hcap hP1
  have hAt : A ≠ wa.heap.size := by have := HSA.out; omega
  generalize htb : wa.heap.size = tb at *
  have lA' : A < wz.heap.size + 1 := by omega
  have lA'' : A < wz.heap.size + 1 + 1 := by omega
  have lt' : tb < wz.heap.size + 1 := by omega
  have lt'' : tb < wz.heap.size + 1 + 1 := by omega
  refine wp_region_X (fun w' => w'.cell? ⟨tb, 0, none⟩ = some (.int .i64 (T k).kind) ∧ w'.cell? ⟨tb, 1, none⟩ = some (.string (T k).text) ∧ w'.cell? ⟨tb, 2, none⟩ = some (.int .i64 (T k).pos) ∧ w'.cell? ⟨tb, 3, none⟩ = some (.int .i64 (T k).fin))
    (fun w' => w'.cell? ⟨A, 1, none⟩ = some rv ∧ w'.cell? ⟨A, 2, none⟩ = some av) (fun j => j == 2 || j == 8 || j == 9 || decide (12 ≤ j)) (by kernel_rfl) ?_
  have HS0 : Hid (wz.drew.cell? ⟨tb, 0, none⟩ = some (.int .i64 (T k).kind) ∧ wz.drew.cell? ⟨tb, 1, none⟩ = some (.string (T k).text) ∧ wz.drew.cell? ⟨tb, 2, none⟩ = some (.int .i64 (T k).pos) ∧ wz.drew.cell? ⟨tb, 3, none⟩ = some (.int .i64 (T k).fin)) := ⟨tc0, tc1, tc2, tc3⟩
  have HS : Hid (wz.drew.cell? ⟨A, 1, none⟩ = some rv ∧ wz.drew.cell? ⟨A, 2, none⟩ = some av) := ⟨cA1, cA2⟩
  refine wpAnyX_take0 (i := 8) (v := .pointer (some ⟨tb, 2, none⟩)) rfl (by kernel_rfl) (by kernel_rfl) (by kernel_rfl) rfl (fun _ _ _ h => h) (Or.inl ⟨by rfl, fun w hSw => by obtain ⟨e0, e1, e2, e3⟩ := hSw; go_simp⟩) HS0 ?_
  simp only [Act.put, List.setIfInBounds_toArray, List.set_cons_zero, List.set_cons_succ]
  refine wpAnyX_take0 (i := 9) (v := .int .i64 (T k).pos) rfl (by kernel_rfl) (by kernel_rfl) (by kernel_rfl) rfl (fun _ _ _ h => h) (Or.inl ⟨by rfl, fun w hSw => by obtain ⟨e0, e1, e2, e3⟩ := hSw; go_simp⟩) HS0 ?_
  simp only [Act.put, List.setIfInBounds_toArray, List.set_cons_zero, List.set_cons_succ]
  refine wpAnyX_take0 (i := 2) (v := .agg #[.int .i64 (T k).kind, .string (T k).text, .int .i64 (T k).pos, .int .i64 (T k).fin]) rfl (by kernel_rfl) (by kernel_rfl) (by kernel_rfl) rfl (fun _ _ _ h => h) (Or.inl ⟨by rfl, fun w hSw => by obtain ⟨e0, e1, e2, e3⟩ := hSw; go_simp⟩) HS0 ?_
  simp only [Act.put, List.setIfInBounds_toArray, List.set_cons_zero, List.set_cons_succ]
  refine wpAnyX_take (i := 0) (v := .pointer (some ⟨A, 1, none⟩)) rfl (by kernel_rfl) (by kernel_rfl) (by kernel_rfl) (by kernel_rfl) (fun _ _ _ h => h) (Or.inl ⟨by rfl, fun w hSw => by obtain ⟨e0, e1⟩ := hSw; go_simp⟩) HS0 HS ?_
  simp only [Act.put, List.setIfInBounds_toArray, List.set_cons_zero, List.set_cons_succ]
  refine wpAnyX_take (i := 1) (v := rv) rfl (by kernel_rfl) (by kernel_rfl) (by kernel_rfl) (by kernel_rfl) (fun _ _ _ h => h) (Or.inl ⟨by rfl, fun w hSw => by obtain ⟨e0, e1⟩ := hSw; go_simp⟩) HS0 HS ?_
  simp only [Act.put, List.setIfInBounds_toArray, List.set_cons_zero, List.set_cons_succ]
  refine wpAnyX_take (i := 6) (v := .pointer (some ⟨A, 2, none⟩)) rfl (by kernel_rfl) (by kernel_rfl) (by kernel_rfl) (by kernel_rfl) (fun _ _ _ h => h) (Or.inl ⟨by rfl, fun w hSw => by obtain ⟨e0, e1⟩ := hSw; go_simp⟩) HS0 HS ?_
  simp only [Act.put, List.setIfInBounds_toArray, List.set_cons_zero, List.set_cons_succ]
  refine wpAnyX_take (i := 7) (v := av) rfl (by kernel_rfl) (by kernel_rfl) (by kernel_rfl) (by kernel_rfl) (fun _ _ _ h => h) (Or.inl ⟨by rfl, fun w hSw => by obtain ⟨e0, e1⟩ := hSw; go_simp⟩) HS0 HS ?_
  simp only [Act.put, List.setIfInBounds_toArray, List.set_cons_zero, List.set_cons_succ]
  refine wpAnyX_ready (rs := [3, 10]) (by kernel_rfl) (by simp) ?_
  refine AllReadyX.cons rfl (fun K hK => ?_) ?_
  · go_simp
    refine (unquoted_calls (T k) _ h2 hs).mono ?_
    rintro e w' ⟨rfl, rfl⟩
    refine hK.out _ _ ?_ ?_ ?_
    · exact ⟨by go_simp, by go_simp, by go_simp, by go_simp⟩
    · exact fun _ => ⟨by go_simp, by go_simp⟩
    clear hK K
    try simp only [Act.put, List.setIfInBounds_toArray, List.set_cons_zero, List.set_cons_succ]
    refine wpAnyX_ready (rs := [4, 10]) (by kernel_rfl) (by simp) ?_
    refine AllReadyX.cons rfl (fun K hK => ?_) ?_
    · go_simp
      refine hK.out _ _ ?_ ?_ ?_
      · exact ⟨by go_simp, by go_simp, by go_simp, by go_simp⟩
      · exact fun _ => ⟨by go_simp, by go_simp⟩
      clear hK K
      try simp only [Act.put, List.setIfInBounds_toArray, List.set_cons_zero, List.set_cons_succ]
      refine wpAnyX_ready (rs := [5, 10]) (by kernel_rfl) (by simp) ?_
      refine AllReadyX.cons rfl (fun K hK => ?_) ?_
      · refine step_append_lies _ (by rfl) (.tmp 12) (.tmp 15) 23 (by rfl) base 9 i9 _ 1 16 Tryf.underlying23 hi9 hz90 hz91 hz92 rfl (by omega) rv R.length (R.map Value.string) (by rfl) (by exact ((hownR.alloc _).alloc _).drew) _ 1 1 [.string (unq (T k))] (by rfl) (by rfl) (by exact news_one (by first | (simp; done) | go_simp)) (by simp [Value.oneCell']) (by omega) (by unfold maxLen; omega) (by omega) (by first | omega | (simp; omega)) _ (by rfl) ?_
        intro g1 cap1 w1 hown1 hgrow1 hat1 hlt1
        have hz1s : wz.heap.size + 2 ≤ w1.heap.size := by have := hgrow1.size; simpa using this
        have lA1 : A < w1.heap.size := by omega
        have lt1 : tb < w1.heap.size := by omega
        have s0 : w1.cell? ⟨A, 1, none⟩ = some (rv) := by rw [hgrow1.cell_far _ (by first | omega | (simp; omega)) (GER.out _ hcA)]; go_simp
        have s1 : w1.cell? ⟨A, 2, none⟩ = some (av) := by rw [hgrow1.cell_far _ (by first | omega | (simp; omega)) (GER.out _ hcA)]; go_simp
        have s2 : w1.cell? ⟨tb, 0, none⟩ = some (.int .i64 (T k).kind) := by rw [hgrow1.cell_far _ (by first | omega | (simp; omega)) (LTR.out _ (Nat.le_refl _))]; go_simp
        have s3 : w1.cell? ⟨tb, 1, none⟩ = some (.string (T k).text) := by rw [hgrow1.cell_far _ (by first | omega | (simp; omega)) (LTR.out _ (Nat.le_refl _))]; go_simp
        have s4 : w1.cell? ⟨tb, 2, none⟩ = some (.int .i64 (T k).pos) := by rw [hgrow1.cell_far _ (by first | omega | (simp; omega)) (LTR.out _ (Nat.le_refl _))]; go_simp
        have s5 : w1.cell? ⟨tb, 3, none⟩ = some (.int .i64 (T k).fin) := by rw [hgrow1.cell_far _ (by first | omega | (simp; omega)) (LTR.out _ (Nat.le_refl _))]; go_simp
        have sf1 : w1.frozen? ⟨A, 1, none⟩ = false := by rw [hgrow1.frozen_far _ (by first | omega | (simp; omega)) (GER.out _ hcA)]; go_simp
        have sf2 : w1.frozen? ⟨A, 2, none⟩ = false := by rw [hgrow1.frozen_far _ (by first | omega | (simp; omega)) (GER.out _ hcA)]; go_simp
        have hownQ1 : w1.ownsRow base 3 1 av Q.length (Q.map (Value.int .i64)) := World.ownsRow.kept ((hownQ.alloc _).alloc _).drew hgrow1 HAP.out
        refine hK.out _ _ ?_ ?_ ?_
        · exact ⟨by go_simp, by go_simp, by go_simp, by go_simp⟩
        · exact fun _ => ⟨by go_simp, by go_simp⟩
        clear hK K
        try simp only [Act.put, List.setIfInBounds_toArray, List.set_cons_zero, List.set_cons_succ]
        refine wpAnyX_take0 (i := 12) (v := .pointer (some ⟨A, 1, none⟩)) rfl (by kernel_rfl) (by kernel_rfl) (by kernel_rfl) rfl (fun _ _ _ h => h) (Or.inl ⟨by rfl, fun w hSw => by obtain ⟨e0, e1, e2, e3⟩ := hSw; go_simp⟩) ⟨s2, s3, s4, s5⟩ ?_
        simp only [Act.put, List.setIfInBounds_toArray, List.set_cons_zero, List.set_cons_succ]
        refine wpAnyX_ready (rs := [10]) (by kernel_rfl) (by simp) ?_
        refine AllReadyX.cons rfl (fun K hK => ?_) ?_
        rotate_left
        exact AllReadyX.nil
        go_simp
        refine hK.out _ _ ?_ ?_ ?_
        · exact ⟨by go_simp, by go_simp, by go_simp, by go_simp⟩
        · exact fun _ => ⟨by go_simp, by go_simp⟩
        clear hK K
        try simp only [Act.put, List.setIfInBounds_toArray, List.set_cons_zero, List.set_cons_succ]
        refine wpAnyX_ready (rs := [11]) (by kernel_rfl) (by simp) ?_
        refine AllReadyX.cons rfl (fun K hK => ?_) ?_
        rotate_left
        exact AllReadyX.nil
        refine step_append_lies _ (by rfl) (.tmp 18) (.tmp 21) 22 (by rfl) base 3 i3 _ 1 8 Tryf.underlying22 hi3 hz30 hz31 hz32 rfl (by omega) av Q.length (Q.map (Value.int .i64)) (by rfl) (by exact (hownQ1.alloc _)) _ 1 1 [.int .i64 (T k).pos] (by rfl) (by rfl) (by exact news_one (by first | (simp; done) | go_simp)) (by simp [Value.oneCell']) (by omega) (by unfold maxLen; omega) (by omega) (by first | omega | (simp; omega)) _ (by rfl) ?_
        intro g2 cap2 w2 hown2 hgrow2 hat2 hlt2
        have r0 : w2.cell? ⟨A, 1, none⟩ = some (rv) := by rw [hgrow2.cell_far _ (by first | omega | (simp; omega)) (GEQ.out _ hcA)]; go_simp
        have r1 : w2.cell? ⟨A, 2, none⟩ = some (av) := by rw [hgrow2.cell_far _ (by first | omega | (simp; omega)) (GEQ.out _ hcA)]; go_simp
        have r2 : w2.cell? ⟨tb, 0, none⟩ = some (.int .i64 (T k).kind) := by rw [hgrow2.cell_far _ (by first | omega | (simp; omega)) (LTQ.out _ (Nat.le_refl _))]; go_simp
        have r3 : w2.cell? ⟨tb, 1, none⟩ = some (.string (T k).text) := by rw [hgrow2.cell_far _ (by first | omega | (simp; omega)) (LTQ.out _ (Nat.le_refl _))]; go_simp
        have r4 : w2.cell? ⟨tb, 2, none⟩ = some (.int .i64 (T k).pos) := by rw [hgrow2.cell_far _ (by first | omega | (simp; omega)) (LTQ.out _ (Nat.le_refl _))]; go_simp
        have r5 : w2.cell? ⟨tb, 3, none⟩ = some (.int .i64 (T k).fin) := by rw [hgrow2.cell_far _ (by first | omega | (simp; omega)) (LTQ.out _ (Nat.le_refl _))]; go_simp
        have rf1 : w2.frozen? ⟨A, 1, none⟩ = false := by rw [hgrow2.frozen_far _ (by first | omega | (simp; omega)) (GEQ.out _ hcA)]; go_simp
        have rf2 : w2.frozen? ⟨A, 2, none⟩ = false := by rw [hgrow2.frozen_far _ (by first | omega | (simp; omega)) (GEQ.out _ hcA)]; go_simp
        refine hK.out _ _ ?_ ?_ ?_
        · exact ⟨by go_simp, by go_simp, by go_simp, by go_simp⟩
        · exact fun _ => ⟨by go_simp, by go_simp⟩
        clear hK K
        try simp only [Act.put, List.setIfInBounds_toArray, List.set_cons_zero, List.set_cons_succ]
        refine wpAnyX_ready (rs := [13]) (by kernel_rfl) (by simp) ?_
        refine AllReadyX.cons rfl (fun K hK => ?_) ?_
        rotate_left
        exact AllReadyX.nil
        go_simp
        refine hK.out _ _ ?_ ?_ ?_
        · exact ⟨((World.cell?_setCell_far _ _ _ _ hAt).trans r2), ((World.cell?_setCell_far _ _ _ _ hAt).trans r3), ((World.cell?_setCell_far _ _ _ _ hAt).trans r4), ((World.cell?_setCell_far _ _ _ _ hAt).trans r5)⟩
        · intro h; cases h
        clear hK K
        try simp only [Act.put, List.setIfInBounds_toArray, List.set_cons_zero, List.set_cons_succ]
        refine wpAnyX_ready (rs := [14]) (by kernel_rfl) (by simp) ?_
        refine AllReadyX.cons rfl (fun K hK => ?_) ?_
        rotate_left
        exact AllReadyX.nil
        go_simp
        refine hK.out _ _ ?_ ?_ ?_
        · exact ⟨((World.cell?_setCell_far _ _ _ _ hAt).trans r2), ((World.cell?_setCell_far _ _ _ _ hAt).trans r3), ((World.cell?_setCell_far _ _ _ _ hAt).trans r4), ((World.cell?_setCell_far _ _ _ _ hAt).trans r5)⟩
        · intro h; cases h
        clear hK K
        try simp only [Act.put, List.setIfInBounds_toArray, List.set_cons_zero, List.set_cons_succ]
        refine wpAnyX_ready (rs := [15]) (by kernel_rfl) (by simp) ?_
        refine AllReadyX.cons rfl (fun K hK => ?_) ?_
        rotate_left
        exact AllReadyX.nil
        go_simp
        refine hK.out _ _ ?_ ?_ ?_
        · exact ⟨((World.cell?_setCell_far _ _ _ _ hAt).trans ((World.cell?_setCell_far _ _ _ _ hAt).trans r2)), ((World.cell?_setCell_far _ _ _ _ hAt).trans ((World.cell?_setCell_far _ _ _ _ hAt).trans r3)), ((World.cell?_setCell_far _ _ _ _ hAt).trans ((World.cell?_setCell_far _ _ _ _ hAt).trans r4)), ((World.cell?_setCell_far _ _ _ _ hAt).trans ((World.cell?_setCell_far _ _ _ _ hAt).trans r5))⟩
        · intro h; cases h
        clear hK K
        try simp only [Act.put, List.setIfInBounds_toArray, List.set_cons_zero, List.set_cons_succ]
        refine wpAnyX_done (by kernel_rfl) ?_ _
        have hw2 : ∀ b, b < base → w2.heap[b]? = wa.heap[b]? := fun b hb => ((hgrow2.block b (by first | omega | (simp; omega)) (GEQ.out b hb)).trans (Below.heap_alloc _ _ _ (by omega))).trans (((hgrow1.block b (by first | omega | (simp; omega)) (GER.out b hb)).trans ((((Below.refl wz.heap.size wz).alloc (Nat.le_refl _) _).alloc (by simp; try omega) _).drew.block b (by omega))).trans (by rw [← HWZ.out]; exact Below.heap_alloc _ _ _ (by have := HSA.out; omega)))
        have hsz2 : base ≤ w2.heap.size := by have := hgrow2.size; first | omega | (simp at this; omega)
        have hown1' := World.ownsRow.kept (hown1.alloc _) hgrow2 (owns_apart hown1 hownQ1 (by decide))
        go_wp2
        go_ret
        have hfin := build_done _ _ HH.out HBA.out HCA.out hw2 hsz2 (hgrow2.os.trans (hgrow1.os.trans hzo.out)) (hgrow2.tape.trans (hgrow1.tape.trans hzt.out)) (hgrow2.output.trans (hgrow1.output.trans hzu.out)) (by have h1 := hgrow2.size; have h2 := HWS.out; first | omega | (simp at h1; omega)) hown1' hown2
        exact ⟨rfl, ⟨_, _, hfin.1⟩, hfin.2⟩
      refine AllReadyX.cons rfl (fun K hK => ?_) ?_
      · go_simp
        refine hK.out _ _ ?_ ?_ ?_
        · exact ⟨by go_simp, by go_simp, by go_simp, by go_simp⟩
        · exact fun _ => ⟨by go_simp, by go_simp⟩
        clear hK K
        try simp only [Act.put, List.setIfInBounds_toArray, List.set_cons_zero, List.set_cons_succ]
        refine wpAnyX_ready (rs := [5]) (by kernel_rfl) (by simp) ?_
        refine AllReadyX.cons rfl (fun K hK => ?_) ?_
        rotate_left
        exact AllReadyX.nil
        refine step_append_lies _ (by rfl) (.tmp 12) (.tmp 15) 23 (by rfl) base 9 i9 _ 1 16 Tryf.underlying23 hi9 hz90 hz91 hz92 rfl (by omega) rv R.length (R.map Value.string) (by rfl) (by exact (((hownR.alloc _).alloc _).alloc _).drew) _ 1 1 [.string (unq (T k))] (by rfl) (by rfl) (by exact news_one (by first | (simp; done) | go_simp)) (by simp [Value.oneCell']) (by omega) (by unfold maxLen; omega) (by omega) (by first | omega | (simp; omega)) _ (by rfl) ?_
        intro g1 cap1 w1 hown1 hgrow1 hat1 hlt1
        have hz1s : wz.heap.size + 3 ≤ w1.heap.size := by have := hgrow1.size; simpa using this
        have lA1 : A < w1.heap.size := by omega
        have lt1 : tb < w1.heap.size := by omega
        have s0 : w1.cell? ⟨A, 1, none⟩ = some (rv) := by rw [hgrow1.cell_far _ (by first | omega | (simp; omega)) (GER.out _ hcA)]; go_simp
        have s1 : w1.cell? ⟨A, 2, none⟩ = some (av) := by rw [hgrow1.cell_far _ (by first | omega | (simp; omega)) (GER.out _ hcA)]; go_simp
        have s2 : w1.cell? ⟨tb, 0, none⟩ = some (.int .i64 (T k).kind) := by rw [hgrow1.cell_far _ (by first | omega | (simp; omega)) (LTR.out _ (Nat.le_refl _))]; go_simp
        have s3 : w1.cell? ⟨tb, 1, none⟩ = some (.string (T k).text) := by rw [hgrow1.cell_far _ (by first | omega | (simp; omega)) (LTR.out _ (Nat.le_refl _))]; go_simp
        have s4 : w1.cell? ⟨tb, 2, none⟩ = some (.int .i64 (T k).pos) := by rw [hgrow1.cell_far _ (by first | omega | (simp; omega)) (LTR.out _ (Nat.le_refl _))]; go_simp
        have s5 : w1.cell? ⟨tb, 3, none⟩ = some (.int .i64 (T k).fin) := by rw [hgrow1.cell_far _ (by first | omega | (simp; omega)) (LTR.out _ (Nat.le_refl _))]; go_simp
        have sf1 : w1.frozen? ⟨A, 1, none⟩ = false := by rw [hgrow1.frozen_far _ (by first | omega | (simp; omega)) (GER.out _ hcA)]; go_simp
        have sf2 : w1.frozen? ⟨A, 2, none⟩ = false := by rw [hgrow1.frozen_far _ (by first | omega | (simp; omega)) (GER.out _ hcA)]; go_simp
        have hownQ1 : w1.ownsRow base 3 1 av Q.length (Q.map (Value.int .i64)) := World.ownsRow.kept (((hownQ.alloc _).alloc _).alloc _).drew hgrow1 HAP.out
        refine hK.out _ _ ?_ ?_ ?_
        · exact ⟨by go_simp, by go_simp, by go_simp, by go_simp⟩
        · exact fun _ => ⟨by go_simp, by go_simp⟩
        clear hK K
        try simp only [Act.put, List.setIfInBounds_toArray, List.set_cons_zero, List.set_cons_succ]
        refine wpAnyX_take0 (i := 12) (v := .pointer (some ⟨A, 1, none⟩)) rfl (by kernel_rfl) (by kernel_rfl) (by kernel_rfl) rfl (fun _ _ _ h => h) (Or.inl ⟨by rfl, fun w hSw => by obtain ⟨e0, e1, e2, e3⟩ := hSw; go_simp⟩) ⟨s2, s3, s4, s5⟩ ?_
        simp only [Act.put, List.setIfInBounds_toArray, List.set_cons_zero, List.set_cons_succ]
        refine wpAnyX_ready (rs := [11]) (by kernel_rfl) (by simp) ?_
        refine AllReadyX.cons rfl (fun K hK => ?_) ?_
        rotate_left
        exact AllReadyX.nil
        refine step_append_lies _ (by rfl) (.tmp 18) (.tmp 21) 22 (by rfl) base 3 i3 _ 1 8 Tryf.underlying22 hi3 hz30 hz31 hz32 rfl (by omega) av Q.length (Q.map (Value.int .i64)) (by rfl) (by exact hownQ1) _ 1 1 [.int .i64 (T k).pos] (by rfl) (by rfl) (by exact news_one (by rw [hgrow1.cell_far _ (by first | omega | (simp; done) | (simp; omega)) (LTR.out _ (by first | omega | (simp; omega)))]; go_simp)) (by simp [Value.oneCell']) (by omega) (by unfold maxLen; omega) (by omega) (by first | omega | (simp; omega)) _ (by rfl) ?_
        intro g2 cap2 w2 hown2 hgrow2 hat2 hlt2
        have r0 : w2.cell? ⟨A, 1, none⟩ = some (rv) := by rw [hgrow2.cell_far _ (by first | omega | (simp; omega)) (GEQ.out _ hcA)]; go_simp
        have r1 : w2.cell? ⟨A, 2, none⟩ = some (av) := by rw [hgrow2.cell_far _ (by first | omega | (simp; omega)) (GEQ.out _ hcA)]; go_simp
        have r2 : w2.cell? ⟨tb, 0, none⟩ = some (.int .i64 (T k).kind) := by rw [hgrow2.cell_far _ (by first | omega | (simp; omega)) (LTQ.out _ (Nat.le_refl _))]; go_simp
        have r3 : w2.cell? ⟨tb, 1, none⟩ = some (.string (T k).text) := by rw [hgrow2.cell_far _ (by first | omega | (simp; omega)) (LTQ.out _ (Nat.le_refl _))]; go_simp
        have r4 : w2.cell? ⟨tb, 2, none⟩ = some (.int .i64 (T k).pos) := by rw [hgrow2.cell_far _ (by first | omega | (simp; omega)) (LTQ.out _ (Nat.le_refl _))]; go_simp
        have r5 : w2.cell? ⟨tb, 3, none⟩ = some (.int .i64 (T k).fin) := by rw [hgrow2.cell_far _ (by first | omega | (simp; omega)) (LTQ.out _ (Nat.le_refl _))]; go_simp
        have rf1 : w2.frozen? ⟨A, 1, none⟩ = false := by rw [hgrow2.frozen_far _ (by first | omega | (simp; omega)) (GEQ.out _ hcA)]; go_simp
        have rf2 : w2.frozen? ⟨A, 2, none⟩ = false := by rw [hgrow2.frozen_far _ (by first | omega | (simp; omega)) (GEQ.out _ hcA)]; go_simp
        refine hK.out _ _ ?_ ?_ ?_
        · exact ⟨by go_simp, by go_simp, by go_simp, by go_simp⟩
        · exact fun _ => ⟨by go_simp, by go_simp⟩
        clear hK K
        try simp only [Act.put, List.setIfInBounds_toArray, List.set_cons_zero, List.set_cons_succ]
        refine wpAnyX_ready (rs := [13]) (by kernel_rfl) (by simp) ?_
        refine AllReadyX.cons rfl (fun K hK => ?_) ?_
        rotate_left
        exact AllReadyX.nil
        go_simp
        refine hK.out _ _ ?_ ?_ ?_
        · exact ⟨((World.cell?_setCell_far _ _ _ _ hAt).trans r2), ((World.cell?_setCell_far _ _ _ _ hAt).trans r3), ((World.cell?_setCell_far _ _ _ _ hAt).trans r4), ((World.cell?_setCell_far _ _ _ _ hAt).trans r5)⟩
        · intro h; cases h
        clear hK K
        try simp only [Act.put, List.setIfInBounds_toArray, List.set_cons_zero, List.set_cons_succ]
        refine wpAnyX_ready (rs := [14]) (by kernel_rfl) (by simp) ?_
        refine AllReadyX.cons rfl (fun K hK => ?_) ?_
        rotate_left
        exact AllReadyX.nil
        go_simp
        refine hK.out _ _ ?_ ?_ ?_
        · exact ⟨((World.cell?_setCell_far _ _ _ _ hAt).trans r2), ((World.cell?_setCell_far _ _ _ _ hAt).trans r3), ((World.cell?_setCell_far _ _ _ _ hAt).trans r4), ((World.cell?_setCell_far _ _ _ _ hAt).trans r5)⟩
        · intro h; cases h
        clear hK K
        try simp only [Act.put, List.setIfInBounds_toArray, List.set_cons_zero, List.set_cons_succ]
        refine wpAnyX_ready (rs := [15]) (by kernel_rfl) (by simp) ?_
        refine AllReadyX.cons rfl (fun K hK => ?_) ?_
        rotate_left
        exact AllReadyX.nil
        go_simp
        refine hK.out _ _ ?_ ?_ ?_
        · exact ⟨((World.cell?_setCell_far _ _ _ _ hAt).trans ((World.cell?_setCell_far _ _ _ _ hAt).trans r2)), ((World.cell?_setCell_far _ _ _ _ hAt).trans ((World.cell?_setCell_far _ _ _ _ hAt).trans r3)), ((World.cell?_setCell_far _ _ _ _ hAt).trans ((World.cell?_setCell_far _ _ _ _ hAt).trans r4)), ((World.cell?_setCell_far _ _ _ _ hAt).trans ((World.cell?_setCell_far _ _ _ _ hAt).trans r5))⟩
        · intro h; cases h
        clear hK K
        try simp only [Act.put, List.setIfInBounds_toArray, List.set_cons_zero, List.set_cons_succ]
        refine wpAnyX_done (by kernel_rfl) ?_ _
        have hw2 : ∀ b, b < base → w2.heap[b]? = wa.heap[b]? := fun b hb => ((hgrow2.block b (by first | omega | (simp; omega)) (GEQ.out b hb)).trans rfl).trans (((hgrow1.block b (by first | omega | (simp; omega)) (GER.out b hb)).trans (((((Below.refl wz.heap.size wz).alloc (Nat.le_refl _) _).alloc (by simp; try omega) _).alloc (by simp; try omega) _).drew.block b (by omega))).trans (by rw [← HWZ.out]; exact Below.heap_alloc _ _ _ (by have := HSA.out; omega)))
        have hsz2 : base ≤ w2.heap.size := by have := hgrow2.size; first | omega | (simp at this; omega)
        have hown1' := World.ownsRow.kept hown1 hgrow2 (owns_apart hown1 hownQ1 (by decide))
        go_wp2
        go_ret
        have hfin := build_done _ _ HH.out HBA.out HCA.out hw2 hsz2 (hgrow2.os.trans (hgrow1.os.trans hzo.out)) (hgrow2.tape.trans (hgrow1.tape.trans hzt.out)) (hgrow2.output.trans (hgrow1.output.trans hzu.out)) (by have h1 := hgrow2.size; have h2 := HWS.out; first | omega | (simp at h1; omega)) hown1' hown2
        exact ⟨rfl, ⟨_, _, hfin.1⟩, hfin.2⟩
      exact AllReadyX.nil
    refine AllReadyX.cons rfl (fun K hK => ?_) ?_
    · go_simp
      refine hK.out _ _ ?_ ?_ ?_
      · exact ⟨by go_simp, by go_simp, by go_simp, by go_simp⟩
      · exact fun _ => ⟨by go_simp, by go_simp⟩
      clear hK K
      try simp only [Act.put, List.setIfInBounds_toArray, List.set_cons_zero, List.set_cons_succ]
      refine wpAnyX_ready (rs := [4]) (by kernel_rfl) (by simp) ?_
      refine AllReadyX.cons rfl (fun K hK => ?_) ?_
      rotate_left
      exact AllReadyX.nil
      go_simp
      refine hK.out _ _ ?_ ?_ ?_
      · exact ⟨by go_simp, by go_simp, by go_simp, by go_simp⟩
      · exact fun _ => ⟨by go_simp, by go_simp⟩
      clear hK K
      try simp only [Act.put, List.setIfInBounds_toArray, List.set_cons_zero, List.set_cons_succ]
      refine wpAnyX_ready (rs := [5]) (by kernel_rfl) (by simp) ?_
      refine AllReadyX.cons rfl (fun K hK => ?_) ?_
      rotate_left
      exact AllReadyX.nil
      refine step_append_lies _ (by rfl) (.tmp 12) (.tmp 15) 23 (by rfl) base 9 i9 _ 1 16 Tryf.underlying23 hi9 hz90 hz91 hz92 rfl (by omega) rv R.length (R.map Value.string) (by rfl) (by exact (((hownR.alloc _).alloc _).alloc _).drew) _ 1 1 [.string (unq (T k))] (by rfl) (by rfl) (by exact news_one (by first | (simp; done) | go_simp)) (by simp [Value.oneCell']) (by omega) (by unfold maxLen; omega) (by omega) (by first | omega | (simp; omega)) _ (by rfl) ?_
      intro g1 cap1 w1 hown1 hgrow1 hat1 hlt1
      have hz1s : wz.heap.size + 3 ≤ w1.heap.size := by have := hgrow1.size; simpa using this
      have lA1 : A < w1.heap.size := by omega
      have lt1 : tb < w1.heap.size := by omega
      have s0 : w1.cell? ⟨A, 1, none⟩ = some (rv) := by rw [hgrow1.cell_far _ (by first | omega | (simp; omega)) (GER.out _ hcA)]; go_simp
      have s1 : w1.cell? ⟨A, 2, none⟩ = some (av) := by rw [hgrow1.cell_far _ (by first | omega | (simp; omega)) (GER.out _ hcA)]; go_simp
      have s2 : w1.cell? ⟨tb, 0, none⟩ = some (.int .i64 (T k).kind) := by rw [hgrow1.cell_far _ (by first | omega | (simp; omega)) (LTR.out _ (Nat.le_refl _))]; go_simp
      have s3 : w1.cell? ⟨tb, 1, none⟩ = some (.string (T k).text) := by rw [hgrow1.cell_far _ (by first | omega | (simp; omega)) (LTR.out _ (Nat.le_refl _))]; go_simp
      have s4 : w1.cell? ⟨tb, 2, none⟩ = some (.int .i64 (T k).pos) := by rw [hgrow1.cell_far _ (by first | omega | (simp; omega)) (LTR.out _ (Nat.le_refl _))]; go_simp
      have s5 : w1.cell? ⟨tb, 3, none⟩ = some (.int .i64 (T k).fin) := by rw [hgrow1.cell_far _ (by first | omega | (simp; omega)) (LTR.out _ (Nat.le_refl _))]; go_simp
      have sf1 : w1.frozen? ⟨A, 1, none⟩ = false := by rw [hgrow1.frozen_far _ (by first | omega | (simp; omega)) (GER.out _ hcA)]; go_simp
      have sf2 : w1.frozen? ⟨A, 2, none⟩ = false := by rw [hgrow1.frozen_far _ (by first | omega | (simp; omega)) (GER.out _ hcA)]; go_simp
      have hownQ1 : w1.ownsRow base 3 1 av Q.length (Q.map (Value.int .i64)) := World.ownsRow.kept (((hownQ.alloc _).alloc _).alloc _).drew hgrow1 HAP.out
      refine hK.out _ _ ?_ ?_ ?_
      · exact ⟨by go_simp, by go_simp, by go_simp, by go_simp⟩
      · exact fun _ => ⟨by go_simp, by go_simp⟩
      clear hK K
      try simp only [Act.put, List.setIfInBounds_toArray, List.set_cons_zero, List.set_cons_succ]
      refine wpAnyX_take0 (i := 12) (v := .pointer (some ⟨A, 1, none⟩)) rfl (by kernel_rfl) (by kernel_rfl) (by kernel_rfl) rfl (fun _ _ _ h => h) (Or.inl ⟨by rfl, fun w hSw => by obtain ⟨e0, e1, e2, e3⟩ := hSw; go_simp⟩) ⟨s2, s3, s4, s5⟩ ?_
      simp only [Act.put, List.setIfInBounds_toArray, List.set_cons_zero, List.set_cons_succ]
      refine wpAnyX_ready (rs := [11]) (by kernel_rfl) (by simp) ?_
      refine AllReadyX.cons rfl (fun K hK => ?_) ?_
      rotate_left
      exact AllReadyX.nil
      refine step_append_lies _ (by rfl) (.tmp 18) (.tmp 21) 22 (by rfl) base 3 i3 _ 1 8 Tryf.underlying22 hi3 hz30 hz31 hz32 rfl (by omega) av Q.length (Q.map (Value.int .i64)) (by rfl) (by exact hownQ1) _ 1 1 [.int .i64 (T k).pos] (by rfl) (by rfl) (by exact news_one (by rw [hgrow1.cell_far _ (by first | omega | (simp; done) | (simp; omega)) (LTR.out _ (by first | omega | (simp; omega)))]; go_simp)) (by simp [Value.oneCell']) (by omega) (by unfold maxLen; omega) (by omega) (by first | omega | (simp; omega)) _ (by rfl) ?_
      intro g2 cap2 w2 hown2 hgrow2 hat2 hlt2
      have r0 : w2.cell? ⟨A, 1, none⟩ = some (rv) := by rw [hgrow2.cell_far _ (by first | omega | (simp; omega)) (GEQ.out _ hcA)]; go_simp
      have r1 : w2.cell? ⟨A, 2, none⟩ = some (av) := by rw [hgrow2.cell_far _ (by first | omega | (simp; omega)) (GEQ.out _ hcA)]; go_simp
      have r2 : w2.cell? ⟨tb, 0, none⟩ = some (.int .i64 (T k).kind) := by rw [hgrow2.cell_far _ (by first | omega | (simp; omega)) (LTQ.out _ (Nat.le_refl _))]; go_simp
      have r3 : w2.cell? ⟨tb, 1, none⟩ = some (.string (T k).text) := by rw [hgrow2.cell_far _ (by first | omega | (simp; omega)) (LTQ.out _ (Nat.le_refl _))]; go_simp
      have r4 : w2.cell? ⟨tb, 2, none⟩ = some (.int .i64 (T k).pos) := by rw [hgrow2.cell_far _ (by first | omega | (simp; omega)) (LTQ.out _ (Nat.le_refl _))]; go_simp
      have r5 : w2.cell? ⟨tb, 3, none⟩ = some (.int .i64 (T k).fin) := by rw [hgrow2.cell_far _ (by first | omega | (simp; omega)) (LTQ.out _ (Nat.le_refl _))]; go_simp
      have rf1 : w2.frozen? ⟨A, 1, none⟩ = false := by rw [hgrow2.frozen_far _ (by first | omega | (simp; omega)) (GEQ.out _ hcA)]; go_simp
      have rf2 : w2.frozen? ⟨A, 2, none⟩ = false := by rw [hgrow2.frozen_far _ (by first | omega | (simp; omega)) (GEQ.out _ hcA)]; go_simp
      refine hK.out _ _ ?_ ?_ ?_
      · exact ⟨by go_simp, by go_simp, by go_simp, by go_simp⟩
      · exact fun _ => ⟨by go_simp, by go_simp⟩
      clear hK K
      try simp only [Act.put, List.setIfInBounds_toArray, List.set_cons_zero, List.set_cons_succ]
      refine wpAnyX_ready (rs := [13]) (by kernel_rfl) (by simp) ?_
      refine AllReadyX.cons rfl (fun K hK => ?_) ?_
      rotate_left
      exact AllReadyX.nil
      go_simp
      refine hK.out _ _ ?_ ?_ ?_
      · exact ⟨((World.cell?_setCell_far _ _ _ _ hAt).trans r2), ((World.cell?_setCell_far _ _ _ _ hAt).trans r3), ((World.cell?_setCell_far _ _ _ _ hAt).trans r4), ((World.cell?_setCell_far _ _ _ _ hAt).trans r5)⟩
      · intro h; cases h
      clear hK K
      try simp only [Act.put, List.setIfInBounds_toArray, List.set_cons_zero, List.set_cons_succ]
      refine wpAnyX_ready (rs := [14]) (by kernel_rfl) (by simp) ?_
      refine AllReadyX.cons rfl (fun K hK => ?_) ?_
      rotate_left
      exact AllReadyX.nil
      go_simp
      refine hK.out _ _ ?_ ?_ ?_
      · exact ⟨((World.cell?_setCell_far _ _ _ _ hAt).trans r2), ((World.cell?_setCell_far _ _ _ _ hAt).trans r3), ((World.cell?_setCell_far _ _ _ _ hAt).trans r4), ((World.cell?_setCell_far _ _ _ _ hAt).trans r5)⟩
      · intro h; cases h
      clear hK K
      try simp only [Act.put, List.setIfInBounds_toArray, List.set_cons_zero, List.set_cons_succ]
      refine wpAnyX_ready (rs := [15]) (by kernel_rfl) (by simp) ?_
      refine AllReadyX.cons rfl (fun K hK => ?_) ?_
      rotate_left
      exact AllReadyX.nil
      go_simp
      refine hK.out _ _ ?_ ?_ ?_
      · exact ⟨((World.cell?_setCell_far _ _ _ _ hAt).trans ((World.cell?_setCell_far _ _ _ _ hAt).trans r2)), ((World.cell?_setCell_far _ _ _ _ hAt).trans ((World.cell?_setCell_far _ _ _ _ hAt).trans r3)), ((World.cell?_setCell_far _ _ _ _ hAt).trans ((World.cell?_setCell_far _ _ _ _ hAt).trans r4)), ((World.cell?_setCell_far _ _ _ _ hAt).trans ((World.cell?_setCell_far _ _ _ _ hAt).trans r5))⟩
      · intro h; cases h
      clear hK K
      try simp only [Act.put, List.setIfInBounds_toArray, List.set_cons_zero, List.set_cons_succ]
      refine wpAnyX_done (by kernel_rfl) ?_ _
      have hw2 : ∀ b, b < base → w2.heap[b]? = wa.heap[b]? := fun b hb => ((hgrow2.block b (by first | omega | (simp; omega)) (GEQ.out b hb)).trans rfl).trans (((hgrow1.block b (by first | omega | (simp; omega)) (GER.out b hb)).trans (((((Below.refl wz.heap.size wz).alloc (Nat.le_refl _) _).alloc (by simp; try omega) _).alloc (by simp; try omega) _).drew.block b (by omega))).trans (by rw [← HWZ.out]; exact Below.heap_alloc _ _ _ (by have := HSA.out; omega)))
      have hsz2 : base ≤ w2.heap.size := by have := hgrow2.size; first | omega | (simp at this; omega)
      have hown1' := World.ownsRow.kept hown1 hgrow2 (owns_apart hown1 hownQ1 (by decide))
      go_wp2
      go_ret
      have hfin := build_done _ _ HH.out HBA.out HCA.out hw2 hsz2 (hgrow2.os.trans (hgrow1.os.trans hzo.out)) (hgrow2.tape.trans (hgrow1.tape.trans hzt.out)) (hgrow2.output.trans (hgrow1.output.trans hzu.out)) (by have h1 := hgrow2.size; have h2 := HWS.out; first | omega | (simp at h1; omega)) hown1' hown2
      exact ⟨rfl, ⟨_, _, hfin.1⟩, hfin.2⟩
    exact AllReadyX.nil
  refine AllReadyX.cons rfl (fun K hK => ?_) ?_
  · go_simp
    refine hK.out _ _ ?_ ?_ ?_
    · exact ⟨by go_simp, by go_simp, by go_simp, by go_simp⟩
    · exact fun _ => ⟨by go_simp, by go_simp⟩
    clear hK K
    try simp only [Act.put, List.setIfInBounds_toArray, List.set_cons_zero, List.set_cons_succ]
    refine wpAnyX_ready (rs := [3]) (by kernel_rfl) (by simp) ?_
    refine AllReadyX.cons rfl (fun K hK => ?_) ?_
    rotate_left
    exact AllReadyX.nil
    go_simp
    refine (unquoted_calls (T k) _ h2 hs).mono ?_
    rintro e w' ⟨rfl, rfl⟩
    refine hK.out _ _ ?_ ?_ ?_
    · exact ⟨by go_simp, by go_simp, by go_simp, by go_simp⟩
    · exact fun _ => ⟨by go_simp, by go_simp⟩
    clear hK K
    try simp only [Act.put, List.setIfInBounds_toArray, List.set_cons_zero, List.set_cons_succ]
    refine wpAnyX_ready (rs := [4]) (by kernel_rfl) (by simp) ?_
    refine AllReadyX.cons rfl (fun K hK => ?_) ?_
    rotate_left
    exact AllReadyX.nil
    go_simp
    refine hK.out _ _ ?_ ?_ ?_
    · exact ⟨by go_simp, by go_simp, by go_simp, by go_simp⟩
    · exact fun _ => ⟨by go_simp, by go_simp⟩
    clear hK K
    try simp only [Act.put, List.setIfInBounds_toArray, List.set_cons_zero, List.set_cons_succ]
    refine wpAnyX_ready (rs := [5]) (by kernel_rfl) (by simp) ?_
    refine AllReadyX.cons rfl (fun K hK => ?_) ?_
    rotate_left
    exact AllReadyX.nil
    refine step_append_lies _ (by rfl) (.tmp 12) (.tmp 15) 23 (by rfl) base 9 i9 _ 1 16 Tryf.underlying23 hi9 hz90 hz91 hz92 rfl (by omega) rv R.length (R.map Value.string) (by rfl) (by exact (((hownR.alloc _).alloc _).alloc _).drew) _ 1 1 [.string (unq (T k))] (by rfl) (by rfl) (by exact news_one (by first | (simp; done) | go_simp)) (by simp [Value.oneCell']) (by omega) (by unfold maxLen; omega) (by omega) (by first | omega | (simp; omega)) _ (by rfl) ?_
    intro g1 cap1 w1 hown1 hgrow1 hat1 hlt1
    have hz1s : wz.heap.size + 3 ≤ w1.heap.size := by have := hgrow1.size; simpa using this
    have lA1 : A < w1.heap.size := by omega
    have lt1 : tb < w1.heap.size := by omega
    have s0 : w1.cell? ⟨A, 1, none⟩ = some (rv) := by rw [hgrow1.cell_far _ (by first | omega | (simp; omega)) (GER.out _ hcA)]; go_simp
    have s1 : w1.cell? ⟨A, 2, none⟩ = some (av) := by rw [hgrow1.cell_far _ (by first | omega | (simp; omega)) (GER.out _ hcA)]; go_simp
    have s2 : w1.cell? ⟨tb, 0, none⟩ = some (.int .i64 (T k).kind) := by rw [hgrow1.cell_far _ (by first | omega | (simp; omega)) (LTR.out _ (Nat.le_refl _))]; go_simp
    have s3 : w1.cell? ⟨tb, 1, none⟩ = some (.string (T k).text) := by rw [hgrow1.cell_far _ (by first | omega | (simp; omega)) (LTR.out _ (Nat.le_refl _))]; go_simp
    have s4 : w1.cell? ⟨tb, 2, none⟩ = some (.int .i64 (T k).pos) := by rw [hgrow1.cell_far _ (by first | omega | (simp; omega)) (LTR.out _ (Nat.le_refl _))]; go_simp
    have s5 : w1.cell? ⟨tb, 3, none⟩ = some (.int .i64 (T k).fin) := by rw [hgrow1.cell_far _ (by first | omega | (simp; omega)) (LTR.out _ (Nat.le_refl _))]; go_simp
    have sf1 : w1.frozen? ⟨A, 1, none⟩ = false := by rw [hgrow1.frozen_far _ (by first | omega | (simp; omega)) (GER.out _ hcA)]; go_simp
    have sf2 : w1.frozen? ⟨A, 2, none⟩ = false := by rw [hgrow1.frozen_far _ (by first | omega | (simp; omega)) (GER.out _ hcA)]; go_simp
    have hownQ1 : w1.ownsRow base 3 1 av Q.length (Q.map (Value.int .i64)) := World.ownsRow.kept (((hownQ.alloc _).alloc _).alloc _).drew hgrow1 HAP.out
    refine hK.out _ _ ?_ ?_ ?_
    · exact ⟨by go_simp, by go_simp, by go_simp, by go_simp⟩
    · exact fun _ => ⟨by go_simp, by go_simp⟩
    clear hK K
    try simp only [Act.put, List.setIfInBounds_toArray, List.set_cons_zero, List.set_cons_succ]
    refine wpAnyX_take0 (i := 12) (v := .pointer (some ⟨A, 1, none⟩)) rfl (by kernel_rfl) (by kernel_rfl) (by kernel_rfl) rfl (fun _ _ _ h => h) (Or.inl ⟨by rfl, fun w hSw => by obtain ⟨e0, e1, e2, e3⟩ := hSw; go_simp⟩) ⟨s2, s3, s4, s5⟩ ?_
    simp only [Act.put, List.setIfInBounds_toArray, List.set_cons_zero, List.set_cons_succ]
    refine wpAnyX_ready (rs := [11]) (by kernel_rfl) (by simp) ?_
    refine AllReadyX.cons rfl (fun K hK => ?_) ?_
    rotate_left
    exact AllReadyX.nil
    refine step_append_lies _ (by rfl) (.tmp 18) (.tmp 21) 22 (by rfl) base 3 i3 _ 1 8 Tryf.underlying22 hi3 hz30 hz31 hz32 rfl (by omega) av Q.length (Q.map (Value.int .i64)) (by rfl) (by exact hownQ1) _ 1 1 [.int .i64 (T k).pos] (by rfl) (by rfl) (by exact news_one (by rw [hgrow1.cell_far _ (by first | omega | (simp; done) | (simp; omega)) (LTR.out _ (by first | omega | (simp; omega)))]; go_simp)) (by simp [Value.oneCell']) (by omega) (by unfold maxLen; omega) (by omega) (by first | omega | (simp; omega)) _ (by rfl) ?_
    intro g2 cap2 w2 hown2 hgrow2 hat2 hlt2
    have r0 : w2.cell? ⟨A, 1, none⟩ = some (rv) := by rw [hgrow2.cell_far _ (by first | omega | (simp; omega)) (GEQ.out _ hcA)]; go_simp
    have r1 : w2.cell? ⟨A, 2, none⟩ = some (av) := by rw [hgrow2.cell_far _ (by first | omega | (simp; omega)) (GEQ.out _ hcA)]; go_simp
    have r2 : w2.cell? ⟨tb, 0, none⟩ = some (.int .i64 (T k).kind) := by rw [hgrow2.cell_far _ (by first | omega | (simp; omega)) (LTQ.out _ (Nat.le_refl _))]; go_simp
    have r3 : w2.cell? ⟨tb, 1, none⟩ = some (.string (T k).text) := by rw [hgrow2.cell_far _ (by first | omega | (simp; omega)) (LTQ.out _ (Nat.le_refl _))]; go_simp
    have r4 : w2.cell? ⟨tb, 2, none⟩ = some (.int .i64 (T k).pos) := by rw [hgrow2.cell_far _ (by first | omega | (simp; omega)) (LTQ.out _ (Nat.le_refl _))]; go_simp
    have r5 : w2.cell? ⟨tb, 3, none⟩ = some (.int .i64 (T k).fin) := by rw [hgrow2.cell_far _ (by first | omega | (simp; omega)) (LTQ.out _ (Nat.le_refl _))]; go_simp
    have rf1 : w2.frozen? ⟨A, 1, none⟩ = false := by rw [hgrow2.frozen_far _ (by first | omega | (simp; omega)) (GEQ.out _ hcA)]; go_simp
    have rf2 : w2.frozen? ⟨A, 2, none⟩ = false := by rw [hgrow2.frozen_far _ (by first | omega | (simp; omega)) (GEQ.out _ hcA)]; go_simp
    refine hK.out _ _ ?_ ?_ ?_
    · exact ⟨by go_simp, by go_simp, by go_simp, by go_simp⟩
    · exact fun _ => ⟨by go_simp, by go_simp⟩
    clear hK K
    try simp only [Act.put, List.setIfInBounds_toArray, List.set_cons_zero, List.set_cons_succ]
    refine wpAnyX_ready (rs := [13]) (by kernel_rfl) (by simp) ?_
    refine AllReadyX.cons rfl (fun K hK => ?_) ?_
    rotate_left
    exact AllReadyX.nil
    go_simp
    refine hK.out _ _ ?_ ?_ ?_
    · exact ⟨((World.cell?_setCell_far _ _ _ _ hAt).trans r2), ((World.cell?_setCell_far _ _ _ _ hAt).trans r3), ((World.cell?_setCell_far _ _ _ _ hAt).trans r4), ((World.cell?_setCell_far _ _ _ _ hAt).trans r5)⟩
    · intro h; cases h
    clear hK K
    try simp only [Act.put, List.setIfInBounds_toArray, List.set_cons_zero, List.set_cons_succ]
    refine wpAnyX_ready (rs := [14]) (by kernel_rfl) (by simp) ?_
    refine AllReadyX.cons rfl (fun K hK => ?_) ?_
    rotate_left
    exact AllReadyX.nil
    go_simp
    refine hK.out _ _ ?_ ?_ ?_
    · exact ⟨((World.cell?_setCell_far _ _ _ _ hAt).trans r2), ((World.cell?_setCell_far _ _ _ _ hAt).trans r3), ((World.cell?_setCell_far _ _ _ _ hAt).trans r4), ((World.cell?_setCell_far _ _ _ _ hAt).trans r5)⟩
    · intro h; cases h
    clear hK K
    try simp only [Act.put, List.setIfInBounds_toArray, List.set_cons_zero, List.set_cons_succ]
    refine wpAnyX_ready (rs := [15]) (by kernel_rfl) (by simp) ?_
    refine AllReadyX.cons rfl (fun K hK => ?_) ?_
    rotate_left
    exact AllReadyX.nil
    go_simp
    refine hK.out _ _ ?_ ?_ ?_
    · exact ⟨((World.cell?_setCell_far _ _ _ _ hAt).trans ((World.cell?_setCell_far _ _ _ _ hAt).trans r2)), ((World.cell?_setCell_far _ _ _ _ hAt).trans ((World.cell?_setCell_far _ _ _ _ hAt).trans r3)), ((World.cell?_setCell_far _ _ _ _ hAt).trans ((World.cell?_setCell_far _ _ _ _ hAt).trans r4)), ((World.cell?_setCell_far _ _ _ _ hAt).trans ((World.cell?_setCell_far _ _ _ _ hAt).trans r5))⟩
    · intro h; cases h
    clear hK K
    try simp only [Act.put, List.setIfInBounds_toArray, List.set_cons_zero, List.set_cons_succ]
    refine wpAnyX_done (by kernel_rfl) ?_ _
    have hw2 : ∀ b, b < base → w2.heap[b]? = wa.heap[b]? := fun b hb => ((hgrow2.block b (by first | omega | (simp; omega)) (GEQ.out b hb)).trans rfl).trans (((hgrow1.block b (by first | omega | (simp; omega)) (GER.out b hb)).trans (((((Below.refl wz.heap.size wz).alloc (Nat.le_refl _) _).alloc (by simp; try omega) _).alloc (by simp; try omega) _).drew.block b (by omega))).trans (by rw [← HWZ.out]; exact Below.heap_alloc _ _ _ (by have := HSA.out; omega)))
    have hsz2 : base ≤ w2.heap.size := by have := hgrow2.size; first | omega | (simp at this; omega)
    have hown1' := World.ownsRow.kept hown1 hgrow2 (owns_apart hown1 hownQ1 (by decide))
    go_wp2
    go_ret
    have hfin := build_done _ _ HH.out HBA.out HCA.out hw2 hsz2 (hgrow2.os.trans (hgrow1.os.trans hzo.out)) (hgrow2.tape.trans (hgrow1.tape.trans hzt.out)) (hgrow2.output.trans (hgrow1.output.trans hzu.out)) (by have h1 := hgrow2.size; have h2 := HWS.out; first | omega | (simp at h1; omega)) hown1' hown2
    exact ⟨rfl, ⟨_, _, hfin.1⟩, hfin.2⟩
  exact AllReadyX.nil
end Go.Proofs.Qxb6605748aFmt
