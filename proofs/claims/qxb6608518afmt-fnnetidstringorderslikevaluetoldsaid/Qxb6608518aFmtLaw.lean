/-
  THE WALK of FnNetIDStringOrdersLikeValue (4).
-/
import Derived.Test.Qxb6608518aFmtPlain
namespace Go.Proofs.Qxb6608518aFmt
open Go.RowKit Go.Extern.Stop Go.Stop Go.Extern

theorem hide {p : Prop} (h : p) : Hid p := h
def Byte (x : Int) : Prop := 0 ≤ x ∧ x ≤ 255
/-- What the law leaves: true; nothing that was there has turned. -/
def LawBack (w : World) (e : Ending) (w' : World) : Prop := e = .returned (.bool true) ∧ Below w.heap.size w w'

set_option maxRecDepth 100000 in
set_option maxHeartbeats 1600000 in
theorem law_calls (F : Interp) (A0 A1 A2 B0 B1 B2 : Nat) (w : World) (hF : F.answers w.tape) (ha0 : A0 < 256) (ha1 : A1 < 256) (ha2 : A2 < 256) (hb0 : B0 < 256) (hb1 : B1 < 256) (hb2 : B2 < 256)
    (ta : FmtStop.textOf (F "fmt.Sprintf" (reading [(A0 : Int), (A1 : Int), (A2 : Int)]) 0) = ⟨((nib A0 A1 A2).map D).toArray⟩) (tb : FmtStop.textOf (F "fmt.Sprintf" (reading [(B0 : Int), (B1 : Int), (B2 : Int)]) 0) = ⟨((nib B0 B1 B2).map D).toArray⟩) :
    Calls Tryf.prog 4 #[.agg #[.int .u8 A0, .int .u8 A1, .int .u8 A2], .agg #[.int .u8 B0, .int .u8 B1, .int .u8 B2]] w (LawBack w) := by
  have HF := hide hF
  clear hF
  obtain ⟨sa, hsa⟩ : ∃ s, s = FmtStop.textOf (F "fmt.Sprintf" (reading [(A0 : Int), (A1 : Int), (A2 : Int)]) 0) := ⟨_, rfl⟩
  obtain ⟨sb, hsb⟩ : ∃ s, s = FmtStop.textOf (F "fmt.Sprintf" (reading [(B0 : Int), (B1 : Int), (B2 : Int)]) 0) := ⟨_, rfl⟩
  have HSA := hide hsa
  have HSB := hide hsb
  rw [ta] at hsa
  rw [tb] at hsb
  obtain ⟨na, hna⟩ : ∃ n : Nat, n = A0 * 65536 + A1 * 256 + A2 := ⟨_, rfl⟩
  obtain ⟨nb, hnb⟩ : ∃ n : Nat, n = B0 * 65536 + B1 * 256 + B2 := ⟨_, rfl⟩
  have oa := or3' A0 A1 A2 ha0 ha1 ha2
  have ob := or3' B0 B1 B2 hb0 hb1 hb2
  rw [← hna] at oa
  rw [← hnb] at ob
  have L := less (nib A0 A1 A2) (nib B0 B1 B2) rfl (nib_lt _ _ _ ha0 ha1 ha2) (nib_lt _ _ _ hb0 hb1 hb2)
  rw [nib_V, nib_V, ← hna, ← hnb] at L
  have q1 : Op.bytesLess sa.toList sb.toList = decide (na < nb) := by
    rw [hsa, hsb, ByteArray.toList_mk, ByteArray.toList_mk, bytesLess_eq]
    exact decide_eq_decide.2 L.1
  have q2 : (sa.toList == sb.toList) = decide (na = nb) := by
    rw [hsa, hsb, ByteArray.toList_mk, ByteArray.toList_mk, Bool.beq_eq_decide_eq]
    exact decide_eq_decide.2 L.2
  have q3 : decide ((na : Int) < (nb : Int)) = decide (na < nb) := decide_eq_decide.2 (by omega)
  have q4 : ((na : Int) == (nb : Int)) = decide (na = nb) := by rw [Bool.beq_eq_decide_eq]; exact decide_eq_decide.2 (by omega)
  have z1 : sa.size = 6 := by rw [hsa]; rfl
  have z2 : sb.size = 6 := by rw [hsb]; rfl
  clear hsa hsb ta tb L hna hnb
  go_enter Tryf.func4, Tryf.ntmps4
  go_wp2_with fail
  refine (string_calls F A0 A1 A2 ((w.alloc (.cells #[.int .u8 A0, .int .u8 A1, .int .u8 A2] 22)).alloc (.cells #[.int .u8 B0, .int .u8 B1, .int .u8 B2] 22)) HF.out).mono ?_
  rintro e w1 ⟨rfl, hb1'⟩
  rw [← HSA.out]
  have HA1 : Hid (w1.cell? ⟨w.heap.size + 1, 0, none⟩ = some (.int .u8 B0) ∧ w1.cell? ⟨w.heap.size + 1, 1, none⟩ = some (.int .u8 B1) ∧ w1.cell? ⟨w.heap.size + 1, 2, none⟩ = some (.int .u8 B2)) :=
    ⟨by rw [hb1'.cell (p := ⟨w.heap.size + 1, 0, none⟩) (by simp)]; simp, by rw [hb1'.cell (p := ⟨w.heap.size + 1, 1, none⟩) (by simp)]; simp, by rw [hb1'.cell (p := ⟨w.heap.size + 1, 2, none⟩) (by simp)]; simp⟩
  have HA0 : Hid (w1.cell? ⟨w.heap.size, 0, none⟩ = some (.int .u8 A0) ∧ w1.cell? ⟨w.heap.size, 1, none⟩ = some (.int .u8 A1) ∧ w1.cell? ⟨w.heap.size, 2, none⟩ = some (.int .u8 A2)) :=
    ⟨by rw [hb1'.cell (p := ⟨w.heap.size, 0, none⟩) (by simp; omega)]; simp, by rw [hb1'.cell (p := ⟨w.heap.size, 1, none⟩) (by simp; omega)]; simp, by rw [hb1'.cell (p := ⟨w.heap.size, 2, none⟩) (by simp; omega)]; simp⟩
  have HB1 : Hid (Below w.heap.size w w1) := (((Below.refl _ w).alloc (Nat.le_refl _) _).alloc (by simp) _).trans (hb1'.mono (by simp; omega))
  have hs1 : w.heap.size + 2 ≤ w1.heap.size := by have := hb1'.size; simpa using this
  clear hb1'
  have c0 := HA1.out.1
  have c1 := HA1.out.2.1
  have c2 := HA1.out.2.2
  go_wp2_with fail
  clear c0 c1 c2
  refine (string_calls F B0 B1 B2 _ (by rw [HB1.out.tape]; exact HF.out)).mono ?_
  rintro e w2 ⟨rfl, hb2'⟩
  rw [← HSB.out]
  have d0 : w2.cell? ⟨w.heap.size + 1, 0, none⟩ = some (.int .u8 B0) := by rw [hb2'.cell (by simp; omega)]; exact HA1.out.1
  have d1 : w2.cell? ⟨w.heap.size + 1, 1, none⟩ = some (.int .u8 B1) := by rw [hb2'.cell (by simp; omega)]; exact HA1.out.2.1
  have d2 : w2.cell? ⟨w.heap.size + 1, 2, none⟩ = some (.int .u8 B2) := by rw [hb2'.cell (by simp; omega)]; exact HA1.out.2.2
  have e0 : w2.cell? ⟨w.heap.size, 0, none⟩ = some (.int .u8 A0) := by rw [hb2'.cell (by simp; omega)]; exact HA0.out.1
  have e1 : w2.cell? ⟨w.heap.size, 1, none⟩ = some (.int .u8 A1) := by rw [hb2'.cell (by simp; omega)]; exact HA0.out.2.1
  have e2 : w2.cell? ⟨w.heap.size, 2, none⟩ = some (.int .u8 A2) := by rw [hb2'.cell (by simp; omega)]; exact HA0.out.2.2
  have HB2 : Hid (Below w.heap.size w w2) := HB1.out.trans (hb2'.mono (by omega))
  clear hb2'
  go_wp2
  go_ret
  exact ⟨by simp, HB2.out⟩
end Go.Proofs.Qxb6608518aFmt
