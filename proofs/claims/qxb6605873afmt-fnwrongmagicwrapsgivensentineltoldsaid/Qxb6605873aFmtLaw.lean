/-
  THE WALK of the law (function 3) and of its bound on the length (function 4).
-/
import Derived.Test.Qxb6605873aFmtSent
namespace Go.Proofs.Qxb6605873aFmt
open Go.RowKit Go.Extern.Stop Go.Stop Go.Extern

theorem bytes_calls (x : Int) (m : ByteArray) (w : World) (hm : m.size ≤ maxLen) :
    Calls Tryf.prog 4 #[.int .u8 x, .string m] w fun e w' => e = .returned (.bool (decide (m.size ≤ 1048576))) ∧ w' = w := by
  unfold maxLen at hm
  by_cases h : m.size ≤ 1048576
  · have h' : ¬ (1048576 : Int) < (m.size : Int) := by omega
    have h'' : (m.size : Int) ≤ 1048576 := by omega
    go_enter Tryf.func4, Tryf.ntmps4
    go_wp2
    go_ret
    exact ⟨by simp, rfl⟩
  · have h' : (1048576 : Int) < (m.size : Int) := by omega
    go_enter Tryf.func4, Tryf.ntmps4
    go_wp2
    go_ret
    exact ⟨by simp [h], rfl⟩

section
variable (F : Interp) (s0 s1 s2 m : ByteArray) (w : World) (a0 a1 a2 : Addr) (c0 c1 c2 : Array Value) (t0 t1 t2 : TypeId)

set_option maxHeartbeats 1000000 in
theorem law_calls (x : Int) (hx0 : 0 ≤ x) (hx1 : x ≤ 255) (hm : m.size ≤ maxLen) (hF : F.answers w.tape) (T : Three w a0 a1 a2 c0 c1 c2 t0 t1 t2)
    (hs0 : w.cell? a0 = some (.string s0)) (hs1 : w.cell? a1 = some (.string s1)) (hs2 : w.cell? a2 = some (.string s2)) :
    Calls Tryf.prog 3 #[.int .u8 x, .string m] w fun e w' => e = .returned (.bool true) ∧ (w' = w ∨ ∃ (a : Addr) (s : ByteArray) (n : Nat), w' = (wrapWorld F a s m w).drewN n) := by
  have hm' := hm
  unfold maxLen at hm'
  by_cases h : m.size ≤ 1048576
  · have hd : decide (m.size ≤ 1048576) = true := by simp [h]
    by_cases h2 : m.size ≤ 65536
    · have h2' : ¬ (65536 : Int) < (m.size : Int) := by omega
      by_cases h3 : 2 < x
      · go_enter Tryf.func3, Tryf.ntmps3
        go_wp2_with (go_at_call 4; refine (bytes_calls _ _ _ hm).mono ?_; rintro e w' ⟨rfl, rfl⟩)
        go_ret
        exact ⟨rfl, Or.inl rfl⟩
      · have hx : x = 0 ∨ x = 1 ∨ x = 2 := by omega
        clear hx0 hx1 h3
        rcases hx with rfl | rfl | rfl
        · go_enter Tryf.func3, Tryf.ntmps3
          go_wp2_with (first
            | (go_at_call 4; refine (bytes_calls _ _ _ hm).mono ?_; rintro e w' ⟨rfl, rfl⟩)
            | (go_at_call 5; refine (sent0 F s0 m _ a0 a1 a2 c0 c1 c2 t0 t1 t2 (by exact hF) (by exact T) (by exact hs0)).mono ?_; rintro e w' ⟨rfl, n, rfl⟩))
          go_ret
          exact ⟨rfl, Or.inr ⟨a0, s0, n, rfl⟩⟩
        · go_enter Tryf.func3, Tryf.ntmps3
          go_wp2_with (first
            | (go_at_call 4; refine (bytes_calls _ _ _ hm).mono ?_; rintro e w' ⟨rfl, rfl⟩)
            | (go_at_call 5; refine (sent1 F s1 m _ a0 a1 a2 c0 c1 c2 t0 t1 t2 (by exact hF) (by exact T) (by exact hs1)).mono ?_; rintro e w' ⟨rfl, n, rfl⟩))
          go_ret
          exact ⟨rfl, Or.inr ⟨a1, s1, n, rfl⟩⟩
        · go_enter Tryf.func3, Tryf.ntmps3
          go_wp2_with (first
            | (go_at_call 4; refine (bytes_calls _ _ _ hm).mono ?_; rintro e w' ⟨rfl, rfl⟩)
            | (go_at_call 5; refine (sent2 F s2 m _ a0 a1 a2 c0 c1 c2 t0 t1 t2 (by exact hF) (by exact T) (by exact hs2)).mono ?_; rintro e w' ⟨rfl, n, rfl⟩))
          go_ret
          exact ⟨rfl, Or.inr ⟨a2, s2, n, rfl⟩⟩
    · have h2' : (65536 : Int) < (m.size : Int) := by omega
      go_enter Tryf.func3, Tryf.ntmps3
      go_wp2_with (go_at_call 4; refine (bytes_calls _ _ _ hm).mono ?_; rintro e w' ⟨rfl, rfl⟩)
      go_ret
      exact ⟨rfl, Or.inl rfl⟩
  · have hd : decide (m.size ≤ 1048576) = false := by simp [h]
    go_enter Tryf.func3, Tryf.ntmps3
    go_wp2_with (go_at_call 4; refine (bytes_calls _ _ _ hm).mono ?_; rintro e w' ⟨rfl, rfl⟩)
    go_ret
    exact ⟨rfl, Or.inl rfl⟩
end
end Go.Proofs.Qxb6605873aFmt
