/-
  THE WALK of ZZwrongMagicSentinel (function 5), a theorem for each of the three sentinels.
-/
import Derived.Test.Qxb6605873aFmtWrong
import Derived.Test.Qxb6605873aFmtIs
import Derived.Deep.RegionWith
import Derived.Deep.QuietTactic
import Derived.BigQuiet
namespace Go.Proofs.Qxb6605873aFmt
open Go.RowKit Go.Extern.Stop Go.Stop Go.Extern

theorem heap_alloc_old {w : World} {k : Nat} {o x : Obj} (h : w.heap[k]? = some x) : (w.alloc o).heap[k]? = some x := by
  have hlt : k < w.heap.size := by
    rcases Nat.lt_or_ge k w.heap.size with h' | h'
    · exact h'
    · simp [Array.getElem?_eq_none h'] at h
  show (w.heap.push o)[k]? = _
  simp only [Array.getElem?_push, Nat.ne_of_lt hlt, if_false]
  exact h
theorem wrap_old {F : Interp} {a : Addr} {s m : ByteArray} {w : World} {k : Nat} {x : Obj} (h : w.heap[k]? = some x) : (wrapWorld F a s m w).heap[k]? = some x :=
  heap_alloc_old (heap_alloc_old h)
theorem wrap_inner (F : Interp) (a : Addr) (s m : ByteArray) (w : World) : (wrapWorld F a s m w).cell? ⟨w.heap.size + 1, 0 + 1, none⟩ = some (.iface 51 (.pointer (some a))) := by
  unfold wrapWorld
  go_simp
theorem cell_alloc_old {w : World} {o : Obj} {p : Addr} {v : Value} (h : w.cell? p = some v) : (w.alloc o).cell? p = some v := by
  have hlt : p.block < w.heap.size := World.block_lt_of_cell? _ _ h
  have e : (w.alloc o).cell? p = w.cell? p := by simp only [World.cell?, World.alloc, Array.getElem?_push, Nat.ne_of_lt hlt, if_false]
  rw [e, h]
theorem wrap_cell {F : Interp} {a : Addr} {s m : ByteArray} {w : World} {p : Addr} {v : Value} (h : w.cell? p = some v) : (wrapWorld F a s m w).cell? p = some v := by
  unfold wrapWorld
  rw [World.cell?_drew]
  exact cell_alloc_old (cell_alloc_old h)

/-- What the three sentinels hold, in a world. -/
structure Three (w : World) (a0 a1 a2 : Addr) (c0 c1 c2 : Array Value) (t0 t1 t2 : TypeId) : Prop where
  g0 : w.cell? ⟨0, 0, none⟩ = some (.iface 51 (.pointer (some a0)))
  g1 : w.cell? ⟨1, 0, none⟩ = some (.iface 51 (.pointer (some a1)))
  g2 : w.cell? ⟨2, 0, none⟩ = some (.iface 51 (.pointer (some a2)))
  b0 : w.heap[a0.block]? = some (.cells c0 t0 (0, 0))
  b1 : w.heap[a1.block]? = some (.cells c1 t1 (0, 0))
  b2 : w.heap[a2.block]? = some (.cells c2 t2 (0, 0))
  n01 : a0 ≠ a1
  n02 : a0 ≠ a2
  n12 : a1 ≠ a2

section
variable (F : Interp) (s m : ByteArray) (w : World) (a0 a1 a2 : Addr) (c0 c1 c2 : Array Value) (t0 t1 t2 : TypeId)

set_option maxHeartbeats 1000000 in
theorem sent0 (hF : F.answers w.tape) (T : Three w a0 a1 a2 c0 c1 c2 t0 t1 t2) (hs : w.cell? a0 = some (.string s)) :
    Calls Tryf.prog 5 #[.int .u8 0, .string m] w fun e w' => e = .returned (.tuple #[.bool false, .bool true, .bool true, .bool false, .bool false]) ∧ ∃ n, w' = (wrapWorld F a0 s m w).drewN n := by
  have g := T.g0
  have k0 := wrap_cell (F := F) (a := a0) (s := s) (m := m) (p := ⟨0, 0, none⟩) T.g0
  have k1 := wrap_cell (F := F) (a := a0) (s := s) (m := m) (p := ⟨1, 0, none⟩) T.g1
  have k2 := wrap_cell (F := F) (a := a0) (s := s) (m := m) (p := ⟨2, 0, none⟩) T.g2
  have heq := eql_same a0
  have hs2 : (w.alloc (.cells #[.iface 51 (.pointer (some a0)), .iface 9 (.string m)] 20)).cell? a0 = some (.string s) := cell_alloc_old hs
  go_enter Tryf.func5, Tryf.ntmps5
  go_wp2_with (go_at_call 6; refine (wrong_calls F a0 s m _ (by exact hF) (by exact hs2)).mono ?_; rintro e w' ⟨rfl, rfl⟩)
  go_quiet (first
    | (go_at_call 7; exact Calls.quiet_of_same (unwrap_wrap _ 0 a0 _ (wrap_inner F a0 s m w)))
    | (go_at_call_of 8 (Value.pointer (some a0)); exact Calls.quiet_of_same (is_wrap_same _ 0 a0 _ (wrap_inner F a0 s m w)))
    | (go_at_call_of 8 (Value.pointer (some a1)); exact Calls.quiet_of_same (is_wrap_other _ 0 a1 a0 c0 c1 t0 t1 _ (wrap_inner F a0 s m w) T.n01 (wrap_old T.b0) (wrap_old T.b1)))
    | (go_at_call_of 8 (Value.pointer (some a2)); exact Calls.quiet_of_same (is_wrap_other _ 0 a2 a0 c0 c2 t0 t2 _ (wrap_inner F a0 s m w) T.n02 (wrap_old T.b0) (wrap_old T.b2))))
  go_wp2
  exact bodyPost_ret (v := .tuple #[.bool false, .bool true, .bool true, .bool false, .bool false]) (by simp [results, Tryf.results5, go_sem]) rfl ⟨rfl, _, rfl⟩

set_option maxHeartbeats 1000000 in
theorem sent1 (hF : F.answers w.tape) (T : Three w a0 a1 a2 c0 c1 c2 t0 t1 t2) (hs : w.cell? a1 = some (.string s)) :
    Calls Tryf.prog 5 #[.int .u8 1, .string m] w fun e w' => e = .returned (.tuple #[.bool false, .bool true, .bool false, .bool true, .bool false]) ∧ ∃ n, w' = (wrapWorld F a1 s m w).drewN n := by
  have g := T.g1
  have k0 := wrap_cell (F := F) (a := a1) (s := s) (m := m) (p := ⟨0, 0, none⟩) T.g0
  have k1 := wrap_cell (F := F) (a := a1) (s := s) (m := m) (p := ⟨1, 0, none⟩) T.g1
  have k2 := wrap_cell (F := F) (a := a1) (s := s) (m := m) (p := ⟨2, 0, none⟩) T.g2
  have heq := eql_same a1
  have hs2 : (w.alloc (.cells #[.iface 51 (.pointer (some a1)), .iface 9 (.string m)] 20)).cell? a1 = some (.string s) := cell_alloc_old hs
  go_enter Tryf.func5, Tryf.ntmps5
  go_wp2_with (go_at_call 6; refine (wrong_calls F a1 s m _ (by exact hF) (by exact hs2)).mono ?_; rintro e w' ⟨rfl, rfl⟩)
  go_quiet (first
    | (go_at_call 7; exact Calls.quiet_of_same (unwrap_wrap _ 0 a1 _ (wrap_inner F a1 s m w)))
    | (go_at_call_of 8 (Value.pointer (some a1)); exact Calls.quiet_of_same (is_wrap_same _ 0 a1 _ (wrap_inner F a1 s m w)))
    | (go_at_call_of 8 (Value.pointer (some a0)); exact Calls.quiet_of_same (is_wrap_other _ 0 a0 a1 c1 c0 t1 t0 _ (wrap_inner F a1 s m w) T.n01.symm (wrap_old T.b1) (wrap_old T.b0)))
    | (go_at_call_of 8 (Value.pointer (some a2)); exact Calls.quiet_of_same (is_wrap_other _ 0 a2 a1 c1 c2 t1 t2 _ (wrap_inner F a1 s m w) T.n12 (wrap_old T.b1) (wrap_old T.b2))))
  go_wp2
  exact bodyPost_ret (v := .tuple #[.bool false, .bool true, .bool false, .bool true, .bool false]) (by simp [results, Tryf.results5, go_sem]) rfl ⟨rfl, _, rfl⟩

set_option maxHeartbeats 1000000 in
theorem sent2 (hF : F.answers w.tape) (T : Three w a0 a1 a2 c0 c1 c2 t0 t1 t2) (hs : w.cell? a2 = some (.string s)) :
    Calls Tryf.prog 5 #[.int .u8 2, .string m] w fun e w' => e = .returned (.tuple #[.bool false, .bool true, .bool false, .bool false, .bool true]) ∧ ∃ n, w' = (wrapWorld F a2 s m w).drewN n := by
  have g := T.g2
  have k0 := wrap_cell (F := F) (a := a2) (s := s) (m := m) (p := ⟨0, 0, none⟩) T.g0
  have k1 := wrap_cell (F := F) (a := a2) (s := s) (m := m) (p := ⟨1, 0, none⟩) T.g1
  have k2 := wrap_cell (F := F) (a := a2) (s := s) (m := m) (p := ⟨2, 0, none⟩) T.g2
  have heq := eql_same a2
  have hs2 : (w.alloc (.cells #[.iface 51 (.pointer (some a2)), .iface 9 (.string m)] 20)).cell? a2 = some (.string s) := cell_alloc_old hs
  go_enter Tryf.func5, Tryf.ntmps5
  go_wp2_with (go_at_call 6; refine (wrong_calls F a2 s m _ (by exact hF) (by exact hs2)).mono ?_; rintro e w' ⟨rfl, rfl⟩)
  go_quiet (first
    | (go_at_call 7; exact Calls.quiet_of_same (unwrap_wrap _ 0 a2 _ (wrap_inner F a2 s m w)))
    | (go_at_call_of 8 (Value.pointer (some a2)); exact Calls.quiet_of_same (is_wrap_same _ 0 a2 _ (wrap_inner F a2 s m w)))
    | (go_at_call_of 8 (Value.pointer (some a0)); exact Calls.quiet_of_same (is_wrap_other _ 0 a0 a2 c2 c0 t2 t0 _ (wrap_inner F a2 s m w) T.n02.symm (wrap_old T.b2) (wrap_old T.b0)))
    | (go_at_call_of 8 (Value.pointer (some a1)); exact Calls.quiet_of_same (is_wrap_other _ 0 a1 a2 c2 c1 t2 t1 _ (wrap_inner F a2 s m w) T.n12.symm (wrap_old T.b2) (wrap_old T.b1))))
  go_wp2
  exact bodyPost_ret (v := .tuple #[.bool false, .bool true, .bool false, .bool false, .bool true]) (by simp [results, Tryf.results5, go_sem]) rfl ⟨rfl, _, rfl⟩

end
end Go.Proofs.Qxb6605873aFmt
