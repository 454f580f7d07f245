/-
  The law.
-/
import Derived.Test.Qxb6605873aZZ
import Derived.Test.Qxb6605873aRanks
import Derived.Test.Qxb6605873aRight
import Derived.Test.Qxb6605873aClone
set_option linter.unusedVariables false
namespace Go.Proofs.Qxb6605873a
open Go.RowKit Go.Sort

theorem good_iff {n k : Nat} {A B C P X O : Nat → Int} {σ ρ ρ' : Nat → Nat} (h : Rank P n σ ρ) (he : ∀ i, i < n → ρ i = ρ' i) (hk : k < n) :
    RowEq A B C P X O σ ρ k ↔ Good n P X O ρ' k (A k) (B k) (C k) := by
  constructor
  · rintro ⟨e1, e2, e3⟩
    have hs := h.sb k hk
    refine ⟨σ k, hs, e2.symm, ?_, e1.symm, ?_⟩
    · rw [← he _ hs]; exact h.rs k hk
    · rw [e3]
      unfold wantC
      by_cases hx : X (σ k) = 0
      · simp [hx]
      · rw [if_neg hx, if_neg hx, he _ (by omega)]
  · rintro ⟨i, hi, e1, e2, e3, e4⟩
    have hs : σ k = i := by rw [← e2, ← he i hi]; exact h.sr i hi
    refine ⟨by rw [hs]; exact e3.symm, by rw [hs]; exact e1.symm, ?_⟩
    unfold wantC
    rw [hs]
    by_cases hx : X i = 0
    · rw [if_pos hx] at e4 ⊢; exact e4
    · rw [if_neg hx] at e4 ⊢; rw [he _ (by omega)]; exact e4

theorem asc_of {n l4 l5 : Nat} {X O : Nat → Int} (h : EntOK n l4 l5 X O) : ∀ i j, i < j → j < n → O i < O j := by
  intro i j hij
  induction j with
  | zero => intro _; omega
  | succ j ih =>
    intro hj
    have := h.asc j hj
    rcases Nat.lt_or_ge i j with c | c
    · have := ih c (by omega); omega
    · obtain rfl : i = j := by omega
      exact this

def LawPost (w : World) (e : Ending) (w' : World) : Prop := e = .returned (.bool true) ∧ Go.RowKit.Below w.heap.size w w'

set_option maxRecDepth 100000 in
set_option maxHeartbeats 8000000 in
theorem law_calls (a0 a1 a2 a3 a4 a5 : Option Addr) (n0 n1 n2 n3 n4 n5 c0 c1 c2 c3 c4 c5 : Nat) (A B C P X O : Nat → Int) (w : World)
    (b0 : n0 ≤ 9223372036854775807) (b1 : n1 ≤ 9223372036854775807) (b2 : n2 ≤ 9223372036854775807) (b3 : n3 ≤ 9223372036854775807) (b4 : n4 ≤ 9223372036854775807) (b5 : n5 ≤ 9223372036854775807)
    (h0 : In .u32 w a0 n0 c0 A) (h1 : In .u64 w a1 n1 c1 B) (h2 : In .u32 w a2 n2 c2 C) (h3 : In .u32 w a3 n3 c3 P) (h4 : In .u8 w a4 n4 c4 X) (h5 : In .i64 w a5 n5 c5 O)
    (hC : ∀ i, i < n2 → 0 ≤ C i ∧ C i ≤ 4294967295) (hP : ∀ i, i < n3 → 0 ≤ P i ∧ P i < 4294967296) (hX : ∀ i, i < n4 → 0 ≤ X i ∧ X i < 256) (hO : ∀ i, i < n5 → O i ≤ 9223372036854775807) :
    Calls Try.prog 5 #[.slice a0 n0 c0, .slice a1 n1 c1, .slice a2 n2 c2, .slice a3 n3 c3, .slice a4 n4 c4, .slice a5 n5 c5] w (LawPost w) := by
  have H0 : Hid (In .u32 w a0 n0 c0 A) := h0
  have H1 : Hid (In .u64 w a1 n1 c1 B) := h1
  have H2 : Hid (In .u32 w a2 n2 c2 C) := h2
  have H3 : Hid (In .u32 w a3 n3 c3 P) := h3
  have H4 : Hid (In .u8 w a4 n4 c4 X) := h4
  have H5 : Hid (In .i64 w a5 n5 c5 O) := h5
  have HCb : Hid (∀ i, i < n2 → 0 ≤ C i ∧ C i ≤ 4294967295) := hC
  have HPb : Hid (∀ i, i < n3 → 0 ≤ P i ∧ P i < 4294967296) := hP
  have HXb : Hid (∀ i, i < n4 → 0 ≤ X i ∧ X i < 256) := hX
  have HOb : Hid (∀ i, i < n5 → O i ≤ 9223372036854775807) := hO
  clear h0 h1 h2 h3 h4 h5 hC hP hX hO
  go_enter Try.func5, Try.ntmps5
  go_wp2_with fail
  refine (bytes_calls a0 a1 a2 a3 a4 a5 n0 n1 n2 n3 n4 n5 c0 c1 c2 c3 c4 c5 _ b0 b1 b2 b3 b4 b5).mono ?_
  rintro e w' ⟨t, rfl, rfl⟩
  cases t with
  | false =>
    go_wp2
    go_ret
    exact ⟨rfl, Go.RowKit.Below.refl _ _⟩
  | true =>
    by_cases g0 : 1048576 < n0
    · go_wp2
      go_ret
      exact ⟨rfl, Go.RowKit.Below.refl _ _⟩
    · by_cases g1 : 1048576 < n1
      · go_wp2
        go_ret
        exact ⟨rfl, Go.RowKit.Below.refl _ _⟩
      · by_cases g2 : 1048576 < n2
        · go_wp2
          go_ret
          exact ⟨rfl, Go.RowKit.Below.refl _ _⟩
        · by_cases g3 : 1048576 < n3
          · go_wp2
            go_ret
            exact ⟨rfl, Go.RowKit.Below.refl _ _⟩
          · by_cases g4 : 1048576 < n4
            · go_wp2
              go_ret
              exact ⟨rfl, Go.RowKit.Below.refl _ _⟩
            · by_cases g5 : 1048576 < n5
              · go_wp2
                go_ret
                exact ⟨rfl, Go.RowKit.Below.refl _ _⟩
              · by_cases gs : 1048576 < 8 * (n0 + n1 + n2 + n3 + n5) + n4
                · have ks : (1048576 : Int) < 8 * ((n0 : Int) + n1 + n2 + n3 + n5) + n4 := by omega
                  go_wp2
                  go_ret
                  exact ⟨rfl, Go.RowKit.Below.refl _ _⟩
                · have ks : ¬ (1048576 : Int) < 8 * ((n0 : Int) + n1 + n2 + n3 + n5) + n4 := by omega
                  go_wp2_with fail
                  refine (premise_calls a0 a1 a2 a3 a4 a5 c0 c1 c2 c3 c4 c5 n0 n1 n2 n3 n4 n5 X O _ (by omega) (by omega) (by omega) (by omega) (by omega) (by omega) H4.out.rx H5.out.rx HXb.out).mono ?_
                  rintro e w1 ⟨t, md, rfl, rfl, hE⟩
                  have T0 : Hid (Go.RowKit.Below w'.heap.size w' (w'.drewN md)) := below_drewN (Go.RowKit.Below.refl _ _) md
                  cases t with
                  | false =>
                    clear hE
                    go_wp2
                    go_ret
                    exact ⟨rfl, T0.out⟩
                  | true =>
                    obtain ⟨hEnt, e1, e2, em⟩ := hE rfl
                    clear hE
                    obtain rfl := hEnt.e4
                    obtain rfl := hEnt.e5
                    obtain rfl := e1
                    obtain rfl := e2
                    obtain ⟨n, hnn⟩ : ∃ n, n = n5 := ⟨_, rfl⟩
                    obtain ⟨m, hmm⟩ : ∃ m, m = n2 := ⟨_, rfl⟩
                    rw [← hnn] at hEnt em HPb HXb HOb H3 H4 H5 g3 gs
                    rw [← hmm] at em HCb H0 H1 H2 g0 gs
                    simp only [← hnn, ← hmm]
                    have hn : n ≤ 65536 := by omega
                    have hmn : m ≤ n := by omega
                    have HM : Hid (m = 0 ∨ m = n) := em
                    have HE : Hid (EntOK n n n X O) := hEnt
                    have HX2 : Hid (∀ i, i < n → 0 ≤ X i ∧ X i ≤ i ∧ X i < 256) := fun i hi => ⟨(HXb.out i hi).1, HE.out.x i hi, (HXb.out i hi).2⟩
                    have HO2 : Hid (∀ i, i < n → 0 ≤ O i ∧ O i ≤ 9223372036854775807) := fun i hi => ⟨HE.out.o i hi, HOb.out i hi⟩
                    have HAs : Hid (∀ i j, i < j → j < n → O i < O j) := asc_of HE.out
                    obtain ⟨u0, hu0⟩ : ∃ x, x = w'.drewN md := ⟨_, rfl⟩
                    have H0n : Hid (In .u32 u0 a0 m c0 A) := by rw [hu0]; exact H0
                    have H1n : Hid (In .u64 u0 a1 m c1 B) := by rw [hu0]; exact H1
                    have H2n : Hid (In .u32 u0 a2 m c2 C) := by rw [hu0]; exact H2
                    have H3n : Hid (In .u32 u0 a3 n c3 P) := by rw [hu0]; exact H3
                    have H4n : Hid (In .u8 u0 a4 n c4 X) := by rw [hu0]; exact H4
                    have H5n : Hid (In .i64 u0 a5 n c5 O) := by rw [hu0]; exact H5
                    clear H0 H1 H2 H3 H4 H5
                    have H0 : Hid (In .u32 u0 a0 m c0 A) := H0n
                    have H1 : Hid (In .u64 u0 a1 m c1 B) := H1n
                    have H2 : Hid (In .u32 u0 a2 m c2 C) := H2n
                    have H3 : Hid (In .u32 u0 a3 n c3 P) := H3n
                    have H4 : Hid (In .u8 u0 a4 n c4 X) := H4n
                    have H5 : Hid (In .i64 u0 a5 n c5 O) := H5n
                    rw [← hu0] at T0
                    rw [← hu0]
                    clear H0n H1n H2n H3n H4n H5n hu0 hEnt em hnn hmm HXb HOb HE ks gs g0 g1 g2 g3 g4 g5 b0 b1 b2 b3 b4 b5
                    go_wp2_with fail
                    refine (cloneU32 a0 m c0 A u0 (by omega) H0.out).mono ?_
                    rintro e u1 ⟨a0', c0', rfl, hd, hb⟩
                    have D0 : Hid (Rd .u32 u1 a0' m A) := hd
                    have H1n : Hid (In .u64 u1 a1 m c1 B) := H1.out.below hb
                    clear H1
                    have H1 : Hid (In .u64 u1 a1 m c1 B) := H1n
                    clear H1n
                    have H2n : Hid (In .u32 u1 a2 m c2 C) := H2.out.below hb
                    clear H2
                    have H2 : Hid (In .u32 u1 a2 m c2 C) := H2n
                    clear H2n
                    have H3n : Hid (In .u32 u1 a3 n c3 P) := H3.out.below hb
                    clear H3
                    have H3 : Hid (In .u32 u1 a3 n c3 P) := H3n
                    clear H3n
                    have H4n : Hid (In .u8 u1 a4 n c4 X) := H4.out.below hb
                    clear H4
                    have H4 : Hid (In .u8 u1 a4 n c4 X) := H4n
                    clear H4n
                    have H5n : Hid (In .i64 u1 a5 n c5 O) := H5.out.below hb
                    clear H5
                    have H5 : Hid (In .i64 u1 a5 n c5 O) := H5n
                    clear H5n
                    have T1 : Hid (Go.RowKit.Below w'.heap.size w' u1) := T0.out.trans (hb.mono T0.out.size)
                    clear hd hb H0 T0
                    go_wp2_with fail
                    refine (cloneU64 a1 m c1 B u1 (by omega) H1.out).mono ?_
                    rintro e u2 ⟨a1', c1', rfl, hd, hb⟩
                    have D1 : Hid (Rd .u64 u2 a1' m B) := hd
                    have D0n : Hid (Rd .u32 u2 a0' m A) := D0.out.below hb
                    clear D0
                    have D0 : Hid (Rd .u32 u2 a0' m A) := D0n
                    clear D0n
                    have H2n : Hid (In .u32 u2 a2 m c2 C) := H2.out.below hb
                    clear H2
                    have H2 : Hid (In .u32 u2 a2 m c2 C) := H2n
                    clear H2n
                    have H3n : Hid (In .u32 u2 a3 n c3 P) := H3.out.below hb
                    clear H3
                    have H3 : Hid (In .u32 u2 a3 n c3 P) := H3n
                    clear H3n
                    have H4n : Hid (In .u8 u2 a4 n c4 X) := H4.out.below hb
                    clear H4
                    have H4 : Hid (In .u8 u2 a4 n c4 X) := H4n
                    clear H4n
                    have H5n : Hid (In .i64 u2 a5 n c5 O) := H5.out.below hb
                    clear H5
                    have H5 : Hid (In .i64 u2 a5 n c5 O) := H5n
                    clear H5n
                    have T2 : Hid (Go.RowKit.Below w'.heap.size w' u2) := T1.out.trans (hb.mono T1.out.size)
                    clear hd hb H1 T1
                    go_wp2_with fail
                    refine (cloneU32 a2 m c2 C u2 (by omega) H2.out).mono ?_
                    rintro e u3 ⟨a2', c2', rfl, hd, hb⟩
                    have D2 : Hid (Rd .u32 u3 a2' m C) := hd
                    have D0n : Hid (Rd .u32 u3 a0' m A) := D0.out.below hb
                    clear D0
                    have D0 : Hid (Rd .u32 u3 a0' m A) := D0n
                    clear D0n
                    have D1n : Hid (Rd .u64 u3 a1' m B) := D1.out.below hb
                    clear D1
                    have D1 : Hid (Rd .u64 u3 a1' m B) := D1n
                    clear D1n
                    have H3n : Hid (In .u32 u3 a3 n c3 P) := H3.out.below hb
                    clear H3
                    have H3 : Hid (In .u32 u3 a3 n c3 P) := H3n
                    clear H3n
                    have H4n : Hid (In .u8 u3 a4 n c4 X) := H4.out.below hb
                    clear H4
                    have H4 : Hid (In .u8 u3 a4 n c4 X) := H4n
                    clear H4n
                    have H5n : Hid (In .i64 u3 a5 n c5 O) := H5.out.below hb
                    clear H5
                    have H5 : Hid (In .i64 u3 a5 n c5 O) := H5n
                    clear H5n
                    have T3 : Hid (Go.RowKit.Below w'.heap.size w' u3) := T2.out.trans (hb.mono T2.out.size)
                    clear hd hb H2 T2
                    go_wp2_with fail
                    refine (cloneU32 a3 n c3 P u3 (by omega) H3.out).mono ?_
                    rintro e u4 ⟨a3', c3', rfl, hd, hb⟩
                    have D3 : Hid (Rd .u32 u4 a3' n P) := hd
                    have D0n : Hid (Rd .u32 u4 a0' m A) := D0.out.below hb
                    clear D0
                    have D0 : Hid (Rd .u32 u4 a0' m A) := D0n
                    clear D0n
                    have D1n : Hid (Rd .u64 u4 a1' m B) := D1.out.below hb
                    clear D1
                    have D1 : Hid (Rd .u64 u4 a1' m B) := D1n
                    clear D1n
                    have D2n : Hid (Rd .u32 u4 a2' m C) := D2.out.below hb
                    clear D2
                    have D2 : Hid (Rd .u32 u4 a2' m C) := D2n
                    clear D2n
                    have H4n : Hid (In .u8 u4 a4 n c4 X) := H4.out.below hb
                    clear H4
                    have H4 : Hid (In .u8 u4 a4 n c4 X) := H4n
                    clear H4n
                    have H5n : Hid (In .i64 u4 a5 n c5 O) := H5.out.below hb
                    clear H5
                    have H5 : Hid (In .i64 u4 a5 n c5 O) := H5n
                    clear H5n
                    have T4 : Hid (Go.RowKit.Below w'.heap.size w' u4) := T3.out.trans (hb.mono T3.out.size)
                    clear hd hb H3 T3
                    go_wp2_with fail
                    refine (cloneBytes a4 n c4 X u4 (by omega) H4.out).mono ?_
                    rintro e u5 ⟨a4', c4', rfl, hd, hb⟩
                    have D4 : Hid (Rd .u8 u5 a4' n X) := hd
                    have D0n : Hid (Rd .u32 u5 a0' m A) := D0.out.below hb
                    clear D0
                    have D0 : Hid (Rd .u32 u5 a0' m A) := D0n
                    clear D0n
                    have D1n : Hid (Rd .u64 u5 a1' m B) := D1.out.below hb
                    clear D1
                    have D1 : Hid (Rd .u64 u5 a1' m B) := D1n
                    clear D1n
                    have D2n : Hid (Rd .u32 u5 a2' m C) := D2.out.below hb
                    clear D2
                    have D2 : Hid (Rd .u32 u5 a2' m C) := D2n
                    clear D2n
                    have D3n : Hid (Rd .u32 u5 a3' n P) := D3.out.below hb
                    clear D3
                    have D3 : Hid (Rd .u32 u5 a3' n P) := D3n
                    clear D3n
                    have H5n : Hid (In .i64 u5 a5 n c5 O) := H5.out.below hb
                    clear H5
                    have H5 : Hid (In .i64 u5 a5 n c5 O) := H5n
                    clear H5n
                    have T5 : Hid (Go.RowKit.Below w'.heap.size w' u5) := T4.out.trans (hb.mono T4.out.size)
                    clear hd hb H4 T4
                    go_wp2_with fail
                    refine (cloneInts a5 n c5 O u5 (by omega) H5.out).mono ?_
                    rintro e u6 ⟨a5', c5', rfl, hd, hb⟩
                    have D5 : Hid (Rd .i64 u6 a5' n O) := hd
                    have D0n : Hid (Rd .u32 u6 a0' m A) := D0.out.below hb
                    clear D0
                    have D0 : Hid (Rd .u32 u6 a0' m A) := D0n
                    clear D0n
                    have D1n : Hid (Rd .u64 u6 a1' m B) := D1.out.below hb
                    clear D1
                    have D1 : Hid (Rd .u64 u6 a1' m B) := D1n
                    clear D1n
                    have D2n : Hid (Rd .u32 u6 a2' m C) := D2.out.below hb
                    clear D2
                    have D2 : Hid (Rd .u32 u6 a2' m C) := D2n
                    clear D2n
                    have D3n : Hid (Rd .u32 u6 a3' n P) := D3.out.below hb
                    clear D3
                    have D3 : Hid (Rd .u32 u6 a3' n P) := D3n
                    clear D3n
                    have D4n : Hid (Rd .u8 u6 a4' n X) := D4.out.below hb
                    clear D4
                    have D4 : Hid (Rd .u8 u6 a4' n X) := D4n
                    clear D4n
                    have T6 : Hid (Go.RowKit.Below w'.heap.size w' u6) := T5.out.trans (hb.mono T5.out.size)
                    clear hd hb H5 T5
                    go_wp2_with fail
                    refine (zz_calls a0' a1' a2' a3' a4' a5' c0' c1' c2' c3' c4' c5' m n A B C P X O u6 hn hmn D0.out D1.out D2.out D3.out D4.out D5.out HPb.out HX2.out HO2.out).mono ?_
                    rintro e u7 ⟨σ, ρ, gr, ok, rfl, hRk, hres, hb⟩
                    have HRk : Hid (Rank P n σ ρ) := hRk
                    have HRes : Hid ((ok = true ∧ gr = 0 ∧ ∀ q, q < m → RowEq A B C P X O σ ρ q) ∨ (ok = false ∧ gr < m ∧ ¬ RowEq A B C P X O σ ρ gr ∧ ∀ q, q < gr → RowEq A B C P X O σ ρ q)) := hres
                    have F0 : Hid (Rd .u32 u7 a0' m A) := D0.out.below hb
                    have F1 : Hid (Rd .u64 u7 a1' m B) := D1.out.below hb
                    have F2 : Hid (Rd .u32 u7 a2' m C) := D2.out.below hb
                    have F3 : Hid (Rd .u32 u7 a3' n P) := D3.out.below hb
                    have F4 : Hid (Rd .u8 u7 a4' n X) := D4.out.below hb
                    have F5 : Hid (Rd .i64 u7 a5' n O) := D5.out.below hb
                    have T7 : Hid (Go.RowKit.Below w'.heap.size w' u7) := T6.out.trans (hb.mono T6.out.size)
                    clear hRk hres hb D0 D1 D2 D3 D4 D5 T6
                    go_wp2_with fail
                    refine (ranks_calls a3' c3' n P u7 hn F3.out).mono ?_
                    rintro e u8 ⟨g, σ', ρ', rfl, hRk', hN, hb, hg1, hg2⟩
                    have HEq : Hid (∀ i, i < n → ρ i = ρ' i) := HRk.out.unique hRk'
                    have HRb : Hid (∀ i, i < n → ρ' i < n) := hRk'.rb
                    have HN : Hid (Nums .i64 u8 g n (fun i => (ρ' i : Int))) := hN
                    have D0 : Hid (Rd .u32 u8 a0' m A) := F0.out.below hb
                    have D1 : Hid (Rd .u64 u8 a1' m B) := F1.out.below hb
                    have D2 : Hid (Rd .u32 u8 a2' m C) := F2.out.below hb
                    have D3 : Hid (Rd .u32 u8 a3' n P) := F3.out.below hb
                    have D4 : Hid (Rd .u8 u8 a4' n X) := F4.out.below hb
                    have D5 : Hid (Rd .i64 u8 a5' n O) := F5.out.below hb
                    have T8 : Hid (Go.RowKit.Below w'.heap.size w' u8) := T7.out.trans (hb.mono T7.out.size)
                    clear hRk' hN hb hg1 hg2 F0 F1 F2 F3 F4 F5 T7
                    go_wp2
                    go_loopw [16] (fun v wr => ∃ (k j : Nat), k ≤ m ∧ v = .int .i64 k ∧ wr = u8.drewN j ∧ Hid (∀ q, q < k → RowEq A B C P X O σ ρ q)) (fun v _ => m - (intOf v).toNat)
                    case atStart => exact ⟨0, 0, Nat.zero_le _, rfl, rfl, fun q hq => by omega⟩
                    case round =>
                      obtain ⟨k, j, hk, rfl, hwr, HQ⟩ := hrel
                      have HWR : Hid (wr = u8.drewN j) := hwr
                      clear hwr
                      by_cases hlt : k < m
                      · have hmn2 : m = n := by have := HM.out; omega
                        have hkn : k < n := by omega
                        obtain ⟨q0, rfl, _, hc0⟩ := D0.out (by omega)
                        obtain ⟨q1, rfl, _, hc1⟩ := D1.out (by omega)
                        obtain ⟨q2, rfl, _, hc2⟩ := D2.out (by omega)
                        have d0 : wr.cell? ⟨q0, k, none⟩ = some (.int .u32 (A k)) := by rw [HWR.out]; exact hc0 k hlt
                        have d1 : wr.cell? ⟨q1, k, none⟩ = some (.int .u64 (B k)) := by rw [HWR.out]; exact hc1 k hlt
                        have d2 : wr.cell? ⟨q2, k, none⟩ = some (.int .u32 (C k)) := by rw [HWR.out]; exact hc2 k hlt
                        obtain ⟨x0, hx0⟩ := HCb.out k hlt
                        obtain ⟨tb, htb⟩ : ∃ tb : Bool, (tb = true ↔ Good n P X O ρ' k (A k) (B k) (C k)) := by
                          by_cases hG : Good n P X O ρ' k (A k) (B k) (C k)
                          · exact ⟨true, by simp [hG]⟩
                          · exact ⟨false, by simp [hG]⟩
                        have HTB : Hid (tb = true ↔ RowEq A B C P X O σ ρ k) := by rw [good_iff HRk.out HEq.out hkn]; exact htb
                        have RR : Hid (∀ i, Calls Try.prog 20 #[.int .i64 k, .int .u32 (A k), .int .u64 (B k), .int .u32 (C k), .slice a3' n c3', .slice a4' n c4', .slice a5' n c5', .slice (some ⟨g, 0, none⟩) n n] (wr.drewN i) fun e w' => e = .returned (.bool tb) ∧ w' = wr.drewN i) := fun i => by
                          rw [HWR.out]
                          exact (rowRight_calls a3' a4' a5' c3' c4' c5' n g k P X O ρ' (A k) (B k) (C k) ((u8.drewN j).drewN i) hn (by omega) D3.out D4.out D5.out HN.out HX2.out HO2.out HAs.out HRb.out x0 hx0).mono (by
                            rintro e w' ⟨t, rfl, rfl, ht⟩
                            refine ⟨?_, rfl⟩
                            have : t = tb := by
                              cases t <;> cases tb <;> simp_all
                            rw [this])
                        have i1 : (k : Int) < (m : Int) := by omega
                        have i2 : (0 : Int) ≤ (k : Int) := by omega
                        clear hc0 hc1 hc2 htb D0 D1 D2 hmn2 x0 hx0
                        cases tb with
                        | true =>
                          have HQ2 : Hid (∀ q, q < k + 1 → RowEq A B C P X O σ ρ q) := fun q hq => by
                            by_cases e : q = k
                            · subst e; exact HTB.out.1 rfl
                            · exact HQ.out q (by omega)
                          go_wp2
                          go_quiet (first | (go_at_call 20; exact Calls.quiet_of_same (RR.out _)))
                          go_wp2
                          go_roundw
                          case rel => exact ⟨k + 1, j + nq, by omega, by go_num, by rw [HWR.out, World.drewN_drewN], HQ2⟩
                          case measure => simp [intOf]; omega
                        | false =>
                          have hbad : ¬ RowEq A B C P X O σ ρ k := fun h => by have := HTB.out.2 h; cases this
                          have hgr : gr = k ∧ ok = false := by
                            rcases HRes.out with ⟨_, _, h⟩ | ⟨h1, h2, h3, h4⟩
                            · exact (hbad (h k hlt)).elim
                            · refine ⟨?_, h1⟩
                              rcases Nat.lt_trichotomy gr k with c | c | c
                              · exact (h3 (HQ.out gr c)).elim
                              · exact c
                              · exact (hbad (h4 k c)).elim
                          obtain ⟨rfl, rfl⟩ := hgr
                          clear HRes hbad
                          go_wp2
                          go_quiet (first | (go_at_call 20; exact Calls.quiet_of_same (RR.out _)))
                          go_wp2
                          go_ret
                          exact ⟨rfl, by rw [HWR.out]; exact below_drewN (below_drewN T8.out j) nq⟩
                      · have kl : ¬ (k : Int) < (m : Int) := by omega
                        have hgr : gr = 0 ∧ ok = true := by
                          rcases HRes.out with ⟨h1, h2, _⟩ | ⟨h1, h2, h3, h4⟩
                          · exact ⟨h2, h1⟩
                          · exact (h3 (HQ.out gr (by omega))).elim
                        obtain ⟨rfl, rfl⟩ := hgr
                        clear HRes
                        go_wp2
                        go_ret
                        exact ⟨rfl, by rw [HWR.out]; exact below_drewN T8.out j⟩
end Go.Proofs.Qxb6605873a
