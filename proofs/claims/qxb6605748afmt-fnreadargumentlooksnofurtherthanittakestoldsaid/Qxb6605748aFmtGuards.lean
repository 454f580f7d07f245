/-
  THE WALKS of the law's guards: the bound on all lengths (4), textsFit (5), cursorReachable (6).
-/
import Derived.Test.Qxb6605748aFmtRows
import Derived.WalkKit
namespace Go.Proofs.Qxb6605748aFmt
open Go.RowKit

/-- A call that answers a bool, changes nothing, and whose answer bears out p. -/
def SaysB (p : Bool → Prop) (w : World) (e : Ending) (w' : World) : Prop := ∃ r : Bool, e = .returned (.bool r) ∧ w' = w ∧ p r

set_option maxHeartbeats 400000 in
/-- textsFit: if it says yes, each text is no longer than the budget. -/
theorem fit_calls (ao : Option Addr) (b off n c : Nat) (S : Nat → ByteArray) (bud : Int) (w : World) (hao : 0 < n → ao = some ⟨b, off, none⟩) (hn : n ≤ 1048576)
    (hS : ∀ j, j < n → w.cell? ⟨b, off + j, none⟩ = some (.string (S j))) (hs : ∀ j, j < n → (S j).size ≤ maxLen) (hb : bud ≤ 1048576) (hb0 : -100000000 ≤ bud) :
    Calls Tryf.prog 5 #[.slice ao n c, .int .i64 bud] w (SaysB (fun r => r = true → ∀ j, j < n → ((S j).size : Int) ≤ bud) w) := by
  unfold maxLen at hs
  by_cases hneg : bud < 0
  · go_enter Tryf.func5, Tryf.ntmps5
    go_wp2
    go_ret
    exact ⟨false, rfl, rfl, by simp⟩
  by_cases h0 : n = 0
  · subst h0
    go_enter Tryf.func5, Tryf.ntmps5
    go_wp2
    refine wp_loop_rounds 1 ?_
    rw [rounds_succ]
    go_wp2
    go_ret
    exact ⟨true, rfl, rfl, fun _ j hj => by omega⟩
  obtain rfl := hao (by omega)
  go_enter Tryf.func5, Tryf.ntmps5
  go_wp2
  go_loop [5, 6] (fun t i => ∃ k q : Nat, k ≤ n ∧ i = .int .i64 k ∧ t = .int .i64 q ∧ (q : Int) ≤ bud ∧ ∀ j, j < k → ((S j).size : Int) ≤ bud) (fun _ i => n - (intOf i).toNat)
  case atStart => exact ⟨0, 0, Nat.zero_le _, rfl, rfl, by omega, fun j hj => by omega⟩
  case round =>
    obtain ⟨k, q, hk, rfl, rfl, hq, hj⟩ := hrel
    by_cases hlt : k < n
    · have hc := hS k hlt
      have hz := hs k hlt
      clear hS hs
      by_cases hbig : bud - q < (S k).size
      · go_wp2
        go_ret
        exact ⟨false, rfl, rfl, by simp⟩
      · go_wp2
        go_round
        case rel => exact ⟨k + 1, q + (S k).size, by omega, by go_num, by go_num, by omega, fun j hj' => by
          by_cases e : j = k
          · subst e; omega
          · exact hj j (by omega)⟩
        case measure => simp [intOf]; omega
    · clear hS hs
      go_wp2
      go_ret
      exact ⟨true, rfl, rfl, fun _ j hj' => hj j (by omega)⟩

set_option maxHeartbeats 400000 in
/-- The bound on all lengths: it returns, and changes nothing. -/
theorem bytes_calls (k p e : Option Addr) (nk ck np cp ne ce : Nat) (nx : Int) (ao : Option Addr) (b off n c : Nat) (S : Nat → ByteArray) (w : World) (hao : 0 < n → ao = some ⟨b, off, none⟩)
    (hS : ∀ j, j < n → w.cell? ⟨b, off + j, none⟩ = some (.string (S j))) (hs : ∀ j, j < n → (S j).size ≤ maxLen) (hn : n ≤ maxLen) (hnk : nk ≤ maxLen) (hnp : np ≤ maxLen) (hne : ne ≤ maxLen) :
    Calls Tryf.prog 4 #[.slice k nk ck, .slice ao n c, .slice p np cp, .slice e ne ce, .int .i64 nx] w (SaysB (fun _ => True) w) := by
  unfold maxLen at *
  by_cases h1 : 1048576 < nk
  · go_enter Tryf.func4, Tryf.ntmps4
    go_wp2
    go_ret
    exact ⟨_, rfl, rfl, trivial⟩
  by_cases h2 : 1048576 < n
  · go_enter Tryf.func4, Tryf.ntmps4
    go_wp2
    go_ret
    exact ⟨_, rfl, rfl, trivial⟩
  by_cases h3 : 1048576 < nk + n
  · go_enter Tryf.func4, Tryf.ntmps4
    go_wp2
    go_ret
    exact ⟨_, rfl, rfl, trivial⟩
  by_cases h0 : n = 0
  · subst h0
    go_enter Tryf.func4, Tryf.ntmps4
    go_wp2
    refine wp_loop_rounds 1 ?_
    rw [rounds_succ]
    go_wp2
    all_goals (go_ret; exact ⟨_, rfl, rfl, trivial⟩)
  obtain rfl := hao (by omega)
  go_enter Tryf.func4, Tryf.ntmps4
  go_wp2
  go_loop [11, 12] (fun t i => ∃ j q : Nat, j ≤ n ∧ i = .int .i64 j ∧ t = .int .i64 q ∧ q ≤ 1048576) (fun _ i => n - (intOf i).toNat)
  case atStart => exact ⟨0, nk + n, Nat.zero_le _, rfl, by go_num, by omega⟩
  case round =>
    obtain ⟨j, q, hj, rfl, rfl, hq⟩ := hrel
    by_cases hlt : j < n
    · have hc := hS j hlt
      have hz := hs j hlt
      clear hS hs
      by_cases g1 : 1048576 < (S j).size
      · go_wp2
        go_ret
        exact ⟨_, rfl, rfl, trivial⟩
      by_cases g2 : 1048576 < q + (S j).size
      · go_wp2
        go_ret
        exact ⟨_, rfl, rfl, trivial⟩
      go_wp2
      go_round
      case rel => exact ⟨j + 1, q + (S j).size, by omega, by go_num, by go_num, by omega⟩
      case measure => simp [intOf]; omega
    · clear hS hs
      go_wp2
      all_goals (go_ret; exact ⟨_, rfl, rfl, trivial⟩)

/-- What a yes of cursorReachable bears out. -/
def Reachable (nk n np ne : Nat) (nx : Int) (K : Nat → Int) (S : Nat → ByteArray) (r : Bool) : Prop :=
  r = true → 0 < nk ∧ n = nk ∧ np = nk ∧ ne = nk ∧ K (nk - 1) = 0 ∧ 0 ≤ nx ∧ nx < nk ∧ ∀ j, j < nk → K j = 3 → 2 ≤ (S j).size
theorem Reachable.no (nk n np ne : Nat) (nx : Int) (K : Nat → Int) (S : Nat → ByteArray) : Reachable nk n np ne nx K S false := fun h => by cases h

set_option maxHeartbeats 1600000 in
/-- cursorReachable: what it bears out when it says yes. -/
theorem reach_calls (ak ao p e : Option Addr) (bk ok nk ck np cp ne ce b off n c : Nat) (nx : Int) (K : Nat → Int) (S : Nat → ByteArray) (w : World)
    (hak : 0 < nk → ak = some ⟨bk, ok, none⟩) (hao : 0 < n → ao = some ⟨b, off, none⟩) (hK : ∀ j, j < nk → w.cell? ⟨bk, ok + j, none⟩ = some (.int .i64 (K j)))
    (hS : ∀ j, j < n → w.cell? ⟨b, off + j, none⟩ = some (.string (S j))) (hs : ∀ j, j < n → (S j).size ≤ maxLen) (hn : n ≤ 65536) (hnk : nk ≤ 65536) (hnp : np ≤ 65536) (hne : ne ≤ 65536) :
    Calls Tryf.prog 6 #[.slice ak nk ck, .slice ao n c, .slice p np cp, .slice e ne ce, .int .i64 nx] w
      (SaysB (Reachable nk n np ne nx K S) w) := by
  unfold maxLen at hs
  by_cases h0 : nk = 0
  · subst h0
    go_enter Tryf.func6, Tryf.ntmps6
    go_wp2
    go_ret
    exact ⟨false, rfl, rfl, Reachable.no _ _ _ _ _ _ _⟩
  by_cases h1 : n ≠ nk
  · have q1 : ((n : Int) != (nk : Int)) = true := by rw [bne_iff_ne]; omega
    go_enter Tryf.func6, Tryf.ntmps6
    go_wp2
    go_ret
    exact ⟨false, rfl, rfl, Reachable.no _ _ _ _ _ _ _⟩
  by_cases h2 : np ≠ nk
  · have q1 : ((np : Int) != (nk : Int)) = true := by rw [bne_iff_ne]; omega
    replace h1 : n = nk := by omega
    subst h1
    go_enter Tryf.func6, Tryf.ntmps6
    go_wp2
    go_ret
    exact ⟨false, rfl, rfl, Reachable.no _ _ _ _ _ _ _⟩
  by_cases h3 : ne ≠ nk
  · have q1 : ((ne : Int) != (nk : Int)) = true := by rw [bne_iff_ne]; omega
    replace h1 : n = nk := by omega
    replace h2 : np = nk := by omega
    subst h1 h2
    go_enter Tryf.func6, Tryf.ntmps6
    go_wp2
    go_ret
    exact ⟨false, rfl, rfl, Reachable.no _ _ _ _ _ _ _⟩
  replace h1 : n = nk := by omega
  replace h2 : np = n := by omega
  replace h3 : ne = n := by omega
  subst h1
  subst h2
  subst h3
  obtain rfl := hak (by omega)
  obtain rfl := hao (by omega)
  have hlast := hK (ne - 1) (by omega)
  by_cases h4 : K (ne - 1) ≠ 0
  · have q1 : (K (ne - 1) != 0) = true := by rw [bne_iff_ne]; exact h4
    go_enter Tryf.func6, Tryf.ntmps6
    go_wp2
    go_ret
    exact ⟨false, rfl, rfl, Reachable.no _ _ _ _ _ _ _⟩
  replace h4 : K (ne - 1) = 0 := by omega
  have hlast0 : w.cell? ⟨bk, ok + (ne - 1), none⟩ = some (.int .i64 0) := by rw [hlast, h4]
  have H4 : Hid (K (ne - 1) = 0) := h4
  clear hlast h4
  by_cases h5 : nx < 0
  · go_enter Tryf.func6, Tryf.ntmps6
    go_wp2
    go_ret
    exact ⟨false, rfl, rfl, Reachable.no _ _ _ _ _ _ _⟩
  by_cases h6 : (ne : Int) ≤ nx
  · go_enter Tryf.func6, Tryf.ntmps6
    go_wp2
    go_ret
    exact ⟨false, rfl, rfl, Reachable.no _ _ _ _ _ _ _⟩
  go_enter Tryf.func6, Tryf.ntmps6
  go_wp2
  go_loop [12] (fun i => ∃ k : Nat, k ≤ ne ∧ i = .int .i64 k ∧ ∀ j, j < k → K j = 3 → 2 ≤ (S j).size) (fun i => ne - (intOf i).toNat)
  case atStart => exact ⟨0, Nat.zero_le _, rfl, fun j hj => by omega⟩
  case round =>
    obtain ⟨k, hk, rfl, hj⟩ := hrel
    have HJ : Hid (∀ j, j < k → K j = 3 → 2 ≤ (S j).size) := hj
    clear hj
    by_cases hlt : k < ne
    · have hck := hK k hlt
      have hc := hS k hlt
      have hz := hs k hlt
      clear hS hs hK
      by_cases g1 : K k = 3
      · have q1 : (K k == 3) = true := by simp [g1]
        have G1 : Hid (K k = 3) := g1
        clear g1
        by_cases g2 : (S k).size < 2
        · go_wp2
          go_ret
          exact ⟨false, rfl, rfl, Reachable.no _ _ _ _ _ _ _⟩
        · go_wp2
          go_round
          case rel => exact ⟨k + 1, by omega, by go_num, fun j hj' => by
            by_cases e : j = k
            · subst e; intro _; omega
            · exact HJ.out j (by omega)⟩
          case measure => simp [intOf]; omega
      · have q1 : (K k == 3) = false := by simp [g1]
        go_wp2
        go_round
        case rel => exact ⟨k + 1, by omega, by go_num, fun j hj' => by
          by_cases e : j = k
          · subst e; intro h; exact absurd h g1
          · exact HJ.out j (by omega)⟩
        case measure => simp [intOf]; omega
    · clear hS hs hK
      go_wp2
      go_ret
      exact ⟨true, rfl, rfl, fun _ => ⟨by omega, rfl, rfl, rfl, H4.out, by omega, by omega, fun j hj' => HJ.out j (by omega)⟩⟩

end Go.Proofs.Qxb6605748aFmt
