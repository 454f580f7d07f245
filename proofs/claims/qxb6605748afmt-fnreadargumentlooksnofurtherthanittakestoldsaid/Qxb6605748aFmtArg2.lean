/-
  THE WALK of readArgument (12), its other arms; and its one contract.
-/
import Derived.Test.Qxb6605748aFmtArg
namespace Go.Proofs.Qxb6605748aFmt
open Go.RowKit Go.Extern.Stop Go.Stop Go.Extern

section
variable (C B n k : Nat) (T : Nat → Tok) (w : World)

set_option maxRecDepth 100000 in
set_option maxHeartbeats 2000000 in
theorem arg_via15a (o : Option Arg) (k' : Nat) (hT : Toks w B n T) (hC : Cur w C B n k) (hk : k < n) (hn : n ≤ 65537) (hBC : B ≠ C) (hk0 : (T k).kind ≠ 0) (h3 : ((T k).kind == 3) = false) (h4 : ((T k).kind == 4) = true)
    (hcall : Hid (∀ W : World, Toks W B n T → Cur W C B n (k + 1) → Bx w.heap.size C w W → Calls Tryf.prog 15 #[.pointer (some ⟨C, 0, none⟩), (T k).val] W (ArgBack o C B n k' W))) :
    Calls Tryf.prog 12 #[.pointer (some ⟨C, 0, none⟩)] w (ArgBack o C B n k' w) := by
  have HK0 := hide hk0
  clear hk0
  have hCw := hC.lt
  have hBw := hT.lt (by omega)
  have hb0 : Below w.heap.size w (w.alloc (.cells #[.string ⟨#[]⟩, .slice none 0 0, .slice none 0 0, .int .i64 0, .int .i64 0] 43)) := (Below.refl _ w).alloc (Nat.le_refl _) _
  have HT := hide (hT.bx (D := w.heap.size) (C := w.heap.size) (Bx.of hb0) hBw (by omega))
  have HC := hide (hC.below hb0 hCw)
  clear hT hC hb0
  go_enter Tryf.func12, Tryf.ntmps12
  go_wp2_with fail
  refine (advance_step C B n k T _ HT.out HC.out hk hn HK0.out).mono ?_
  rintro e wa ⟨rfl, hba, hca⟩
  dsimp only [Tok.val]
  have hsa : w.heap.size + 1 ≤ wa.heap.size := by have := hba.size; simpa using this
  have hne : w.heap.size ≠ C := by omega
  have hz : w.heap.size < wa.heap.size := by omega
  have HBA : Hid (Bx w.heap.size C w wa) := (Bx.of ((Below.refl _ w).alloc (Nat.le_refl _) _)).trans (hba.mono (by simp))
  have HTA := hide (HT.out.bx (D := (w.alloc (.cells #[.string ⟨#[]⟩, .slice none 0 0, .slice none 0 0, .int .i64 0, .int .i64 0] 43)).heap.size) hba (by simp; omega) hBC)
  have hbz : Below wa.heap.size wa (wa.alloc (.cells #[.int .i64 (T k).kind, .string (T k).text, .int .i64 (T k).pos, .int .i64 (T k).fin] 37)) := (Below.refl _ _).alloc (Nat.le_refl _) _
  have HTZ := hide (HTA.out.bx (D := wa.heap.size) (C := wa.heap.size) (Bx.of hbz) (by omega) (by omega))
  have HCZ := hide (hca.below hbz (by omega))
  have hc : ∀ b o, b < w.heap.size + 1 → b ≠ C → wa.cell? ⟨b, o, none⟩ = (w.alloc (.cells #[.string ⟨#[]⟩, .slice none 0 0, .slice none 0 0, .int .i64 0, .int .i64 0] 43)).cell? ⟨b, o, none⟩ := fun b o h1 h2 => hba.cell (p := ⟨b, o, none⟩) (by simpa using h1) h2
  have hf : ∀ b o, b < w.heap.size + 1 → b ≠ C → wa.frozen? ⟨b, o, none⟩ = (w.alloc (.cells #[.string ⟨#[]⟩, .slice none 0 0, .slice none 0 0, .int .i64 0, .int .i64 0] 43)).frozen? ⟨b, o, none⟩ := fun b o h1 h2 => hba.frozen (p := ⟨b, o, none⟩) (by simpa using h1) h2
  have HCA := hide hca
  clear hba hca HT HC hbz
  go_wp2_with fail
  refine (hcall.out _ HTZ.out HCZ.out (HBA.out.trans (Bx.of ((Below.refl wa.heap.size wa).alloc (Nat.le_refl _) _) |>.mono (by omega)))).mono ?_
  rintro e w1 ⟨hm, hb1, hc1⟩
  have hs1 : wa.heap.size + 1 ≤ w1.heap.size := by have := hb1.size; simpa using this
  have hcr : ∀ o, w1.cell? ⟨w.heap.size, o, none⟩ = (w.alloc (.cells #[.string ⟨#[]⟩, .slice none 0 0, .slice none 0 0, .int .i64 0, .int .i64 0] 43)).cell? ⟨w.heap.size, o, none⟩ := fun o => by
    rw [hb1.cell (p := ⟨w.heap.size, o, none⟩) (by simp; omega) hne, World.cell?_alloc_past _ _ _ hz, hc _ _ (by omega) hne]
  have hfr : ∀ o, w1.frozen? ⟨w.heap.size, o, none⟩ = false := fun o => by
    rw [hb1.frozen (p := ⟨w.heap.size, o, none⟩) (by simp; omega) hne, World.frozen?_alloc_past _ _ _ hz, hf _ _ (by omega) hne]; simp
  have c0 := (hcr 0).trans (show _ = some (.string ⟨#[]⟩) by simp)
  have c1 := (hcr 1).trans (show _ = some (.slice none 0 0) by simp)
  have c2 := (hcr 2).trans (show _ = some (.slice none 0 0) by simp)
  have c3 := (hcr 3).trans (show _ = some (.int .i64 0) by simp)
  have c4 := (hcr 4).trans (show _ = some (.int .i64 0) by simp)
  have HB1 := hide hb1
  have HC1 := hide hc1
  clear hb1 hc1 hc hf hcr
  cases o with
  | none =>
    obtain ⟨p, rfl⟩ := hm
    go_wp2
    exact bodyPost_ret (v := .tuple #[noArg, .iface 52 p]) (by simp [results, Tryf.results12, go_sem, c0, c1, c2, c3, c4]) rfl ⟨⟨p, rfl⟩, HBA.out.trans ((Bx.of ((Below.refl wa.heap.size wa).alloc (Nat.le_refl _) _) |>.mono (by omega)).trans ((HB1.out.mono (by simp; omega)).trans (Bx.of (below_five (Below.refl _ _) (Nat.le_refl _) _ _ _ _ _)))), HC1.out.below (below_five (Below.refl _ _) (Nat.le_refl _) _ _ _ _ _) hCw⟩
  | some a =>
    obtain ⟨rv, av, rfl, hS, hI⟩ := hm
    have HS := hide hS
    have HI := hide hI
    have hrv : ∃ ao n c, rv = .slice ao n c := by
      cases hr : a.roles with
      | none => rw [hr] at hS; exact ⟨_, _, _, hS⟩
      | some L => rw [hr] at hS; obtain ⟨g, c, e, _⟩ := hS; exact ⟨_, _, _, e⟩
    have hav : ∃ ao n c, av = .slice ao n c := by
      cases hr : a.ats with
      | none => rw [hr] at hI; exact ⟨_, _, _, hI⟩
      | some L => rw [hr] at hI; obtain ⟨g, c, e, _⟩ := hI; exact ⟨_, _, _, e⟩
    obtain ⟨ao1, n1, cc1, hrv⟩ := hrv
    obtain ⟨ao2, n2, cc2, hav⟩ := hav
    subst hrv
    subst hav
    clear hS hI
    go_wp2
    exact bodyPost_ret (v := .tuple #[argVal a.kind (.slice ao1 n1 cc1) (.slice ao2 n2 cc2) a.count a.pos, .nilIface]) (by simp [results, Tryf.results12, go_sem, c0, c1, c2, c3, c4]) rfl
      ⟨⟨_, _, rfl, HS.out.bx (bx_five _ _ _ _ _ _ _ _) (Nat.le_refl _) (by simp; omega) (by simp; omega), HI.out.bx (bx_five _ _ _ _ _ _ _ _) (Nat.le_refl _) (by simp; omega) (by simp; omega)⟩, HBA.out.trans ((Bx.of ((Below.refl wa.heap.size wa).alloc (Nat.le_refl _) _) |>.mono (by omega)).trans ((HB1.out.mono (by simp; omega)).trans (Bx.of (below_five (Below.refl _ _) (Nat.le_refl _) _ _ _ _ _)))), HC1.out.below (below_five (Below.refl _ _) (Nat.le_refl _) _ _ _ _ _) hCw⟩
set_option maxRecDepth 100000 in
set_option maxHeartbeats 2000000 in
theorem arg_via15b (o : Option Arg) (k' : Nat) (hT : Toks w B n T) (hC : Cur w C B n k) (hk : k < n) (hn : n ≤ 65537) (hBC : B ≠ C) (hk0 : (T k).kind ≠ 0) (h3 : ((T k).kind == 3) = false) (h4 : ((T k).kind == 4) = false) (h20 : ((T k).kind == 20) = true)
    (hcall : Hid (∀ W : World, Toks W B n T → Cur W C B n (k + 1) → Bx w.heap.size C w W → Calls Tryf.prog 15 #[.pointer (some ⟨C, 0, none⟩), (T k).val] W (ArgBack o C B n k' W))) :
    Calls Tryf.prog 12 #[.pointer (some ⟨C, 0, none⟩)] w (ArgBack o C B n k' w) := by
  have HK0 := hide hk0
  clear hk0
  have hCw := hC.lt
  have hBw := hT.lt (by omega)
  have hb0 : Below w.heap.size w (w.alloc (.cells #[.string ⟨#[]⟩, .slice none 0 0, .slice none 0 0, .int .i64 0, .int .i64 0] 43)) := (Below.refl _ w).alloc (Nat.le_refl _) _
  have HT := hide (hT.bx (D := w.heap.size) (C := w.heap.size) (Bx.of hb0) hBw (by omega))
  have HC := hide (hC.below hb0 hCw)
  clear hT hC hb0
  go_enter Tryf.func12, Tryf.ntmps12
  go_wp2_with fail
  refine (advance_step C B n k T _ HT.out HC.out hk hn HK0.out).mono ?_
  rintro e wa ⟨rfl, hba, hca⟩
  dsimp only [Tok.val]
  have hsa : w.heap.size + 1 ≤ wa.heap.size := by have := hba.size; simpa using this
  have hne : w.heap.size ≠ C := by omega
  have hz : w.heap.size < wa.heap.size := by omega
  have HBA : Hid (Bx w.heap.size C w wa) := (Bx.of ((Below.refl _ w).alloc (Nat.le_refl _) _)).trans (hba.mono (by simp))
  have HTA := hide (HT.out.bx (D := (w.alloc (.cells #[.string ⟨#[]⟩, .slice none 0 0, .slice none 0 0, .int .i64 0, .int .i64 0] 43)).heap.size) hba (by simp; omega) hBC)
  have hbz : Below wa.heap.size wa (wa.alloc (.cells #[.int .i64 (T k).kind, .string (T k).text, .int .i64 (T k).pos, .int .i64 (T k).fin] 37)) := (Below.refl _ _).alloc (Nat.le_refl _) _
  have HTZ := hide (HTA.out.bx (D := wa.heap.size) (C := wa.heap.size) (Bx.of hbz) (by omega) (by omega))
  have HCZ := hide (hca.below hbz (by omega))
  have hc : ∀ b o, b < w.heap.size + 1 → b ≠ C → wa.cell? ⟨b, o, none⟩ = (w.alloc (.cells #[.string ⟨#[]⟩, .slice none 0 0, .slice none 0 0, .int .i64 0, .int .i64 0] 43)).cell? ⟨b, o, none⟩ := fun b o h1 h2 => hba.cell (p := ⟨b, o, none⟩) (by simpa using h1) h2
  have hf : ∀ b o, b < w.heap.size + 1 → b ≠ C → wa.frozen? ⟨b, o, none⟩ = (w.alloc (.cells #[.string ⟨#[]⟩, .slice none 0 0, .slice none 0 0, .int .i64 0, .int .i64 0] 43)).frozen? ⟨b, o, none⟩ := fun b o h1 h2 => hba.frozen (p := ⟨b, o, none⟩) (by simpa using h1) h2
  have HCA := hide hca
  clear hba hca HT HC hbz
  go_wp2_with fail
  refine (hcall.out _ HTZ.out HCZ.out (HBA.out.trans (Bx.of ((Below.refl wa.heap.size wa).alloc (Nat.le_refl _) _) |>.mono (by omega)))).mono ?_
  rintro e w1 ⟨hm, hb1, hc1⟩
  have hs1 : wa.heap.size + 1 ≤ w1.heap.size := by have := hb1.size; simpa using this
  have hcr : ∀ o, w1.cell? ⟨w.heap.size, o, none⟩ = (w.alloc (.cells #[.string ⟨#[]⟩, .slice none 0 0, .slice none 0 0, .int .i64 0, .int .i64 0] 43)).cell? ⟨w.heap.size, o, none⟩ := fun o => by
    rw [hb1.cell (p := ⟨w.heap.size, o, none⟩) (by simp; omega) hne, World.cell?_alloc_past _ _ _ hz, hc _ _ (by omega) hne]
  have hfr : ∀ o, w1.frozen? ⟨w.heap.size, o, none⟩ = false := fun o => by
    rw [hb1.frozen (p := ⟨w.heap.size, o, none⟩) (by simp; omega) hne, World.frozen?_alloc_past _ _ _ hz, hf _ _ (by omega) hne]; simp
  have c0 := (hcr 0).trans (show _ = some (.string ⟨#[]⟩) by simp)
  have c1 := (hcr 1).trans (show _ = some (.slice none 0 0) by simp)
  have c2 := (hcr 2).trans (show _ = some (.slice none 0 0) by simp)
  have c3 := (hcr 3).trans (show _ = some (.int .i64 0) by simp)
  have c4 := (hcr 4).trans (show _ = some (.int .i64 0) by simp)
  have HB1 := hide hb1
  have HC1 := hide hc1
  clear hb1 hc1 hc hf hcr
  cases o with
  | none =>
    obtain ⟨p, rfl⟩ := hm
    go_wp2
    exact bodyPost_ret (v := .tuple #[noArg, .iface 52 p]) (by simp [results, Tryf.results12, go_sem, c0, c1, c2, c3, c4]) rfl ⟨⟨p, rfl⟩, HBA.out.trans ((Bx.of ((Below.refl wa.heap.size wa).alloc (Nat.le_refl _) _) |>.mono (by omega)).trans ((HB1.out.mono (by simp; omega)).trans (Bx.of (below_five (Below.refl _ _) (Nat.le_refl _) _ _ _ _ _)))), HC1.out.below (below_five (Below.refl _ _) (Nat.le_refl _) _ _ _ _ _) hCw⟩
  | some a =>
    obtain ⟨rv, av, rfl, hS, hI⟩ := hm
    have HS := hide hS
    have HI := hide hI
    have hrv : ∃ ao n c, rv = .slice ao n c := by
      cases hr : a.roles with
      | none => rw [hr] at hS; exact ⟨_, _, _, hS⟩
      | some L => rw [hr] at hS; obtain ⟨g, c, e, _⟩ := hS; exact ⟨_, _, _, e⟩
    have hav : ∃ ao n c, av = .slice ao n c := by
      cases hr : a.ats with
      | none => rw [hr] at hI; exact ⟨_, _, _, hI⟩
      | some L => rw [hr] at hI; obtain ⟨g, c, e, _⟩ := hI; exact ⟨_, _, _, e⟩
    obtain ⟨ao1, n1, cc1, hrv⟩ := hrv
    obtain ⟨ao2, n2, cc2, hav⟩ := hav
    subst hrv
    subst hav
    clear hS hI
    go_wp2
    exact bodyPost_ret (v := .tuple #[argVal a.kind (.slice ao1 n1 cc1) (.slice ao2 n2 cc2) a.count a.pos, .nilIface]) (by simp [results, Tryf.results12, go_sem, c0, c1, c2, c3, c4]) rfl
      ⟨⟨_, _, rfl, HS.out.bx (bx_five _ _ _ _ _ _ _ _) (Nat.le_refl _) (by simp; omega) (by simp; omega), HI.out.bx (bx_five _ _ _ _ _ _ _ _) (Nat.le_refl _) (by simp; omega) (by simp; omega)⟩, HBA.out.trans ((Bx.of ((Below.refl wa.heap.size wa).alloc (Nat.le_refl _) _) |>.mono (by omega)).trans ((HB1.out.mono (by simp; omega)).trans (Bx.of (below_five (Below.refl _ _) (Nat.le_refl _) _ _ _ _ _)))), HC1.out.below (below_five (Below.refl _ _) (Nat.le_refl _) _ _ _ _ _) hCw⟩
set_option maxRecDepth 100000 in
set_option maxHeartbeats 2000000 in
theorem arg_via16 (o : Option Arg) (k' : Nat) (hT : Toks w B n T) (hC : Cur w C B n k) (hk : k < n) (hn : n ≤ 65537) (hBC : B ≠ C) (hk0 : (T k).kind ≠ 0) (h3 : ((T k).kind == 3) = false) (h4 : ((T k).kind == 4) = false) (h20 : ((T k).kind == 20) = false) (h7 : ((T k).kind == 7) = true)
    (hcall : Hid (∀ W : World, Toks W B n T → Cur W C B n (k + 1) → Bx w.heap.size C w W → Calls Tryf.prog 16 #[.pointer (some ⟨C, 0, none⟩), (T k).val] W (ArgBack o C B n k' W))) :
    Calls Tryf.prog 12 #[.pointer (some ⟨C, 0, none⟩)] w (ArgBack o C B n k' w) := by
  have HK0 := hide hk0
  clear hk0
  have hCw := hC.lt
  have hBw := hT.lt (by omega)
  have hb0 : Below w.heap.size w (w.alloc (.cells #[.string ⟨#[]⟩, .slice none 0 0, .slice none 0 0, .int .i64 0, .int .i64 0] 43)) := (Below.refl _ w).alloc (Nat.le_refl _) _
  have HT := hide (hT.bx (D := w.heap.size) (C := w.heap.size) (Bx.of hb0) hBw (by omega))
  have HC := hide (hC.below hb0 hCw)
  clear hT hC hb0
  go_enter Tryf.func12, Tryf.ntmps12
  go_wp2_with fail
  refine (advance_step C B n k T _ HT.out HC.out hk hn HK0.out).mono ?_
  rintro e wa ⟨rfl, hba, hca⟩
  dsimp only [Tok.val]
  have hsa : w.heap.size + 1 ≤ wa.heap.size := by have := hba.size; simpa using this
  have hne : w.heap.size ≠ C := by omega
  have hz : w.heap.size < wa.heap.size := by omega
  have HBA : Hid (Bx w.heap.size C w wa) := (Bx.of ((Below.refl _ w).alloc (Nat.le_refl _) _)).trans (hba.mono (by simp))
  have HTA := hide (HT.out.bx (D := (w.alloc (.cells #[.string ⟨#[]⟩, .slice none 0 0, .slice none 0 0, .int .i64 0, .int .i64 0] 43)).heap.size) hba (by simp; omega) hBC)
  have hbz : Below wa.heap.size wa (wa.alloc (.cells #[.int .i64 (T k).kind, .string (T k).text, .int .i64 (T k).pos, .int .i64 (T k).fin] 37)) := (Below.refl _ _).alloc (Nat.le_refl _) _
  have HTZ := hide (HTA.out.bx (D := wa.heap.size) (C := wa.heap.size) (Bx.of hbz) (by omega) (by omega))
  have HCZ := hide (hca.below hbz (by omega))
  have hc : ∀ b o, b < w.heap.size + 1 → b ≠ C → wa.cell? ⟨b, o, none⟩ = (w.alloc (.cells #[.string ⟨#[]⟩, .slice none 0 0, .slice none 0 0, .int .i64 0, .int .i64 0] 43)).cell? ⟨b, o, none⟩ := fun b o h1 h2 => hba.cell (p := ⟨b, o, none⟩) (by simpa using h1) h2
  have hf : ∀ b o, b < w.heap.size + 1 → b ≠ C → wa.frozen? ⟨b, o, none⟩ = (w.alloc (.cells #[.string ⟨#[]⟩, .slice none 0 0, .slice none 0 0, .int .i64 0, .int .i64 0] 43)).frozen? ⟨b, o, none⟩ := fun b o h1 h2 => hba.frozen (p := ⟨b, o, none⟩) (by simpa using h1) h2
  have HCA := hide hca
  clear hba hca HT HC hbz
  go_wp2_with fail
  refine (hcall.out _ HTZ.out HCZ.out (HBA.out.trans (Bx.of ((Below.refl wa.heap.size wa).alloc (Nat.le_refl _) _) |>.mono (by omega)))).mono ?_
  rintro e w1 ⟨hm, hb1, hc1⟩
  have hs1 : wa.heap.size + 1 ≤ w1.heap.size := by have := hb1.size; simpa using this
  have hcr : ∀ o, w1.cell? ⟨w.heap.size, o, none⟩ = (w.alloc (.cells #[.string ⟨#[]⟩, .slice none 0 0, .slice none 0 0, .int .i64 0, .int .i64 0] 43)).cell? ⟨w.heap.size, o, none⟩ := fun o => by
    rw [hb1.cell (p := ⟨w.heap.size, o, none⟩) (by simp; omega) hne, World.cell?_alloc_past _ _ _ hz, hc _ _ (by omega) hne]
  have hfr : ∀ o, w1.frozen? ⟨w.heap.size, o, none⟩ = false := fun o => by
    rw [hb1.frozen (p := ⟨w.heap.size, o, none⟩) (by simp; omega) hne, World.frozen?_alloc_past _ _ _ hz, hf _ _ (by omega) hne]; simp
  have c0 := (hcr 0).trans (show _ = some (.string ⟨#[]⟩) by simp)
  have c1 := (hcr 1).trans (show _ = some (.slice none 0 0) by simp)
  have c2 := (hcr 2).trans (show _ = some (.slice none 0 0) by simp)
  have c3 := (hcr 3).trans (show _ = some (.int .i64 0) by simp)
  have c4 := (hcr 4).trans (show _ = some (.int .i64 0) by simp)
  have HB1 := hide hb1
  have HC1 := hide hc1
  clear hb1 hc1 hc hf hcr
  cases o with
  | none =>
    obtain ⟨p, rfl⟩ := hm
    go_wp2
    exact bodyPost_ret (v := .tuple #[noArg, .iface 52 p]) (by simp [results, Tryf.results12, go_sem, c0, c1, c2, c3, c4]) rfl ⟨⟨p, rfl⟩, HBA.out.trans ((Bx.of ((Below.refl wa.heap.size wa).alloc (Nat.le_refl _) _) |>.mono (by omega)).trans ((HB1.out.mono (by simp; omega)).trans (Bx.of (below_five (Below.refl _ _) (Nat.le_refl _) _ _ _ _ _)))), HC1.out.below (below_five (Below.refl _ _) (Nat.le_refl _) _ _ _ _ _) hCw⟩
  | some a =>
    obtain ⟨rv, av, rfl, hS, hI⟩ := hm
    have HS := hide hS
    have HI := hide hI
    have hrv : ∃ ao n c, rv = .slice ao n c := by
      cases hr : a.roles with
      | none => rw [hr] at hS; exact ⟨_, _, _, hS⟩
      | some L => rw [hr] at hS; obtain ⟨g, c, e, _⟩ := hS; exact ⟨_, _, _, e⟩
    have hav : ∃ ao n c, av = .slice ao n c := by
      cases hr : a.ats with
      | none => rw [hr] at hI; exact ⟨_, _, _, hI⟩
      | some L => rw [hr] at hI; obtain ⟨g, c, e, _⟩ := hI; exact ⟨_, _, _, e⟩
    obtain ⟨ao1, n1, cc1, hrv⟩ := hrv
    obtain ⟨ao2, n2, cc2, hav⟩ := hav
    subst hrv
    subst hav
    clear hS hI
    go_wp2
    exact bodyPost_ret (v := .tuple #[argVal a.kind (.slice ao1 n1 cc1) (.slice ao2 n2 cc2) a.count a.pos, .nilIface]) (by simp [results, Tryf.results12, go_sem, c0, c1, c2, c3, c4]) rfl
      ⟨⟨_, _, rfl, HS.out.bx (bx_five _ _ _ _ _ _ _ _) (Nat.le_refl _) (by simp; omega) (by simp; omega), HI.out.bx (bx_five _ _ _ _ _ _ _ _) (Nat.le_refl _) (by simp; omega) (by simp; omega)⟩, HBA.out.trans ((Bx.of ((Below.refl wa.heap.size wa).alloc (Nat.le_refl _) _) |>.mono (by omega)).trans ((HB1.out.mono (by simp; omega)).trans (Bx.of (below_five (Below.refl _ _) (Nat.le_refl _) _ _ _ _ _)))), HC1.out.below (below_five (Below.refl _ _) (Nat.le_refl _) _ _ _ _ _) hCw⟩
set_option maxRecDepth 100000 in
set_option maxHeartbeats 2000000 in
theorem arg_other (hT : Toks w B n T) (hC : Cur w C B n k) (hk : k < n) (hn : n ≤ 65537) (hBC : B ≠ C) (hsh : (T k).text.size ≤ 1048576) (h3 : ((T k).kind == 3) = false) (h4 : ((T k).kind == 4) = false) (h20 : ((T k).kind == 20) = false) (h7 : ((T k).kind == 7) = false) :
    Calls Tryf.prog 12 #[.pointer (some ⟨C, 0, none⟩)] w (ArgBack none C B n (nx T k) w) := by
  have hCw := hC.lt
  have hBw := hT.lt (by omega)
  have hb0 : Below w.heap.size w (w.alloc (.cells #[.string ⟨#[]⟩, .slice none 0 0, .slice none 0 0, .int .i64 0, .int .i64 0] 43)) := (Below.refl _ w).alloc (Nat.le_refl _) _
  have HT := hide (hT.bx (D := w.heap.size) (C := w.heap.size) (Bx.of hb0) hBw (by omega))
  have HC := hide (hC.below hb0 hCw)
  clear hT hC hb0
  go_enter Tryf.func12, Tryf.ntmps12
  go_wp2_with fail
  refine (advance_calls C B n k T _ HT.out HC.out hk hn).mono ?_
  rintro e wa ⟨rfl, hba, hca⟩
  dsimp only [Tok.val]
  have hsa : w.heap.size + 1 ≤ wa.heap.size := by have := hba.size; simpa using this
  have hne : w.heap.size ≠ C := by omega
  have hz : w.heap.size < wa.heap.size := by omega
  have HBA : Hid (Bx w.heap.size C w wa) := (Bx.of ((Below.refl _ w).alloc (Nat.le_refl _) _)).trans (hba.mono (by simp))
  have HTA := hide (HT.out.bx (D := (w.alloc (.cells #[.string ⟨#[]⟩, .slice none 0 0, .slice none 0 0, .int .i64 0, .int .i64 0] 43)).heap.size) hba (by simp; omega) hBC)
  have hbz : Below wa.heap.size wa (wa.alloc (.cells #[.int .i64 (T k).kind, .string (T k).text, .int .i64 (T k).pos, .int .i64 (T k).fin] 37)) := (Below.refl _ _).alloc (Nat.le_refl _) _
  have HTZ := hide (HTA.out.bx (D := wa.heap.size) (C := wa.heap.size) (Bx.of hbz) (by omega) (by omega))
  have HCZ := hide (hca.below hbz (by omega))
  have hc : ∀ b o, b < w.heap.size + 1 → b ≠ C → wa.cell? ⟨b, o, none⟩ = (w.alloc (.cells #[.string ⟨#[]⟩, .slice none 0 0, .slice none 0 0, .int .i64 0, .int .i64 0] 43)).cell? ⟨b, o, none⟩ := fun b o h1 h2 => hba.cell (p := ⟨b, o, none⟩) (by simpa using h1) h2
  have hf : ∀ b o, b < w.heap.size + 1 → b ≠ C → wa.frozen? ⟨b, o, none⟩ = (w.alloc (.cells #[.string ⟨#[]⟩, .slice none 0 0, .slice none 0 0, .int .i64 0, .int .i64 0] 43)).frozen? ⟨b, o, none⟩ := fun b o h1 h2 => hba.frozen (p := ⟨b, o, none⟩) (by simpa using h1) h2
  have HCA := hide hca
  clear hba hca HT HC hbz
  go_wp2_with fail
  refine (unexpected_calls (T k) _ hsh).mono ?_
  rintro e w1 ⟨⟨p, rfl⟩, hb⟩
  have HB1 := hide (((Below.refl wa.heap.size wa).alloc (Nat.le_refl _) (.cells #[.int .i64 (T k).kind, .string (T k).text, .int .i64 (T k).pos, .int .i64 (T k).fin] 37)).trans (hb.mono (by simp)))
  have hs1 : wa.heap.size + 1 ≤ w1.heap.size := by have := hb.size; simpa using this
  have hcr : ∀ o, w1.cell? ⟨w.heap.size, o, none⟩ = (w.alloc (.cells #[.string ⟨#[]⟩, .slice none 0 0, .slice none 0 0, .int .i64 0, .int .i64 0] 43)).cell? ⟨w.heap.size, o, none⟩ := fun o => by
    rw [HB1.out.cell (p := ⟨w.heap.size, o, none⟩) hz, hc _ _ (by omega) hne]
  have hfr : ∀ o, w1.frozen? ⟨w.heap.size, o, none⟩ = false := fun o => by
    rw [HB1.out.frozen (p := ⟨w.heap.size, o, none⟩) hz, hf _ _ (by omega) hne]; simp
  have c0 := (hcr 0).trans (show _ = some (.string ⟨#[]⟩) by simp)
  have c1 := (hcr 1).trans (show _ = some (.slice none 0 0) by simp)
  have c2 := (hcr 2).trans (show _ = some (.slice none 0 0) by simp)
  have c3 := (hcr 3).trans (show _ = some (.int .i64 0) by simp)
  have c4 := (hcr 4).trans (show _ = some (.int .i64 0) by simp)
  clear hb hc hf hcr
  go_wp2
  exact bodyPost_ret (v := .tuple #[noArg, .iface 52 p]) (by simp [results, Tryf.results12, go_sem, c0, c1, c2, c3, c4]) rfl ⟨⟨p, rfl⟩, HBA.out.trans ((Bx.of (HB1.out.mono (by omega))).trans (Bx.of (below_five (Below.refl _ _) (Nat.le_refl _) _ _ _ _ _))), HCA.out.below ((HB1.out.mono (by omega)).trans (below_five (Below.refl _ _) (Nat.le_refl _) _ _ _ _ _)) hCw⟩

/-- readArgument, at whatever tokens. -/
theorem arg_calls (F : Interp) (hF : F.answers w.tape) (hT : Toks w B n T) (hC : Cur w C B n k) (hk : k < n) (hn : n ≤ 65537) (hBC : B ≠ C) (FT : Fit T n) (hC1 : 1 < C)
    (u0 u1 : TypeId) (x0 x1 : Value) (h0 : w.cell? ⟨0, 0, none⟩ = some (.iface u0 x0)) (h1 : w.cell? ⟨1, 0, none⟩ = some (.iface u1 x1)) :
    Calls Tryf.prog 12 #[.pointer (some ⟨C, 0, none⟩)] w (ArgBack (readArg T n k).1 C B n (readArg T n k).2 w) := by
  have g0 : ∀ W : World, Bx w.heap.size C w W → W.cell? ⟨0, 0, none⟩ = some (.iface u0 x0) := fun W h => (h.cell (p := ⟨0, 0, none⟩) (World.block_lt_of_cell? _ _ h0) (by show 0 ≠ C; omega)).trans h0
  have g1 : ∀ W : World, Bx w.heap.size C w W → W.cell? ⟨1, 0, none⟩ = some (.iface u1 x1) := fun W h => (h.cell (p := ⟨1, 0, none⟩) (World.block_lt_of_cell? _ _ h1) (by show 1 ≠ C; omega)).trans h1
  have gF : ∀ W : World, Bx w.heap.size C w W → F.answers W.tape := fun W h => by rw [h.tape]; exact hF
  have hsh := FT.short k hk
  unfold readArg
  by_cases c3 : (T k).kind = 3
  · rw [if_pos c3]; exact arg_string C B n k T w hT hC hk hn FT c3
  rw [if_neg c3]
  by_cases c4 : (T k).kind = 4
  · rw [if_pos c4]
    exact arg_via15a C B n k T w _ _ hT hC hk hn hBC (by omega) (by simp [c3]) (by simp [c4]) (fun W hTW hCW hB => (count_plain F (T k) C B n (k + 1) (by simp [c4]) W (gF W hB) hCW hsh u0 u1 x0 x1 (g0 W hB) (g1 W hB)).mono fun _ _ h => ArgBack.of_count h)
  rw [if_neg c4]
  by_cases c20 : (T k).kind = 20
  · rw [if_pos c20]
    have hk1 := FT.last k hk (by omega)
    by_cases c44 : (T (k + 1)).kind = 4
    · rw [if_pos c44]
      exact arg_via15b C B n k T w _ _ hT hC hk hn hBC (by omega) (by simp [c3]) (by simp [c4]) (by simp [c20]) (fun W hTW hCW hB => (count_two F (T k) C B n (k + 1) T hk1 hn (by simp [c20]) (by simp [c44]) (by omega) (FT.short _ hk1) W (gF W hB) hCW hsh hTW hC1 u0 u1 x0 x1 (g0 W hB) (g1 W hB)).mono fun _ _ h => ArgBack.of_count h)
    · rw [if_neg c44]
      exact arg_via15b C B n k T w _ _ hT hC hk hn hBC (by omega) (by simp [c3]) (by simp [c4]) (by simp [c20]) (fun W hTW hCW hB => (count_minus F (T k) C B n (k + 1) T hk1 hn (by simp [c20]) (by simp [c44]) W (gF W hB) hCW hsh hTW u0 u1 x0 x1 (g0 W hB) (g1 W hB)).mono fun _ _ h => ArgBack.of_count h)
  rw [if_neg c20]
  by_cases c7 : (T k).kind = 7
  · rw [if_pos c7]
    have hk1 := FT.last k hk (by omega)
    exact arg_via16 C B n k T w _ _ hT hC hk hn hBC (by omega) (by simp [c3]) (by simp [c4]) (by simp [c20]) (by simp [c7]) (fun W hTW hCW _ => roles_calls (T k) C B n (k + 1) T W hTW hCW hk1 hn FT hBC)
  rw [if_neg c7]
  exact arg_other C B n k T w hT hC hk hn hBC hsh (by simp [c3]) (by simp [c4]) (by simp [c20]) (by simp [c7])
end
end Go.Proofs.Qxb6605748aFmt
