/-
  THE WALK of NetID.String (5): fmt.Sprintf("%X", id[:]), for every F that fmt may be; and its text, told.
-/
import Derived.Test.Qxb6608518aFmtRows
import Derived.WalkKit
import Derived.WalkSpells
import Derived.Laws.Cells
import Derived.Stop.CallBack
import Derived.Stop.IfaceNil
import Derived.Stop.FmtTextSlices
import Derived.Stop.Told
import Derived.Stop.Texts
namespace Go.Proofs.Qxb6608518aFmt
open Go.RowKit Go.Extern.Stop Go.Stop Go.Extern

@[go_sem] theorem call8 (args : Array Value) (w : World) : (callFunc 8 args).run Tryf.prog w = ((FmtStop.sprintf #[9, 49] #[9] args).run Tryf.prog w).andThen fun v w' => .ok (.value v) w' :=
  run_callFunc_extern Tryf.func8 (by kernel_rfl) (by kernel_rfl) (by kernel_rfl) (by kernel_rfl) args w
@[go_sem] theorem guardAll (name : String) (w : World) : (FmtStop.guard name).run Tryf.prog w = .ok () w := by kernel_rfl
@[go_sem] theorem fmtX : FmtStop.printed? ⟨#[37, 88]⟩ 1 = some [(0, 88, false)] := by kernel_rfl
@[go_sem] theorem fmtXr (w : World) : (FmtDoors.printed ⟨#[37, 88]⟩ 1).run Tryf.prog w = .ok [(0, 88, false)] w := by kernel_rfl

/-- The shape of []uint8. -/
def shape32 : List UInt8 := 13 :: (FmtStop.pack "[]uint8".toUTF8.data.toList ++ 6 :: FmtStop.pack "uint8".toUTF8.data.toList)
theorem value5 (name : String) (x : Int) (w : World) : (FmtStop.value name FmtStop.depth 5 [.int .u8 x]).run Tryf.prog w = .ok (digits 8 (x % 2 ^ 64).toNat) w := by kernel_rfl
theorem values5 (name : String) (w : World) : ∀ xs : List Int, (List.mapM ((fun c => FmtStop.value name FmtStop.depth 5 [c]) ∘ Value.int IntKind.u8) xs).run Tryf.prog w = .ok (xs.map fun x => digits 8 (x % 18446744073709551616).toNat) w
  | [] => by simp [List.mapM_nil]
  | x :: xs => by
    have ih := values5 name w xs
    have h := value5 name x w
    simp [List.mapM_cons, h, ih, Result.andThen]
theorem opBytes (name : String) (a : Addr) (cap : Nat) (xs : List Int) (w : World) (hc : ∀ j v, (xs.map (Value.int .u8))[j]? = some v → w.cell? (a.add j) = some v) :
    (FmtStop.operand name false 88 false (.iface 32 (.slice (some a) xs.length cap))).run Tryf.prog w = .ok (shape32, 1 :: (digits 8 xs.length ++ FmtText.intValues xs)) w := by
  have h1 : (typeStr 32).run Tryf.prog w = .ok "[]uint8" w := by kernel_rfl
  have hb : (FmtStop.bare (FmtStop.asked false 88 false) 32).run Tryf.prog w = .ok true w := by kernel_rfl
  have hs : (FmtStop.scalar 5).run Tryf.prog w = .ok true w := by kernel_rfl
  have hy : (Extern.Stop.isByte 5).run Tryf.prog w = .ok true w := by kernel_rfl
  have hw : Tryf.prog.funcs.any (·.name == FmtStop.writeWord) = true := by kernel_rfl
  have hsh : (FmtStop.shape name (FmtStop.asked false 88 false) FmtStop.depth 5).run Tryf.prog w = .ok (6 :: FmtStop.pack "uint8".toUTF8.data.toList) w := by kernel_rfl
  have hl := run_loadCells_list (P := Tryf.prog) w a (xs.map (Value.int .u8)) hc
  rw [List.length_map] at hl
  simp [FmtStop.operand, h1, hb, hs, hy, hsh, hl, values5, shape32, FmtText.intValues]
  intro hno
  obtain ⟨i, hi, _, _, he⟩ := Array.any_iff_exists.1 hw
  exact absurd (by simpa using he) (hno i hi)

/-- What fmt is asked. -/
def reading (xs : List Int) : List (List UInt8) := [[37, 88], shape32, 1 :: (digits 8 xs.length ++ FmtText.intValues xs)]

set_option maxRecDepth 100000 in
set_option maxHeartbeats 400000 in
theorem string_calls (F : Interp) (x0 x1 x2 : Int) (w : World) (hF : F.answers w.tape) :
    Calls Tryf.prog 5 #[.agg #[.int .u8 x0, .int .u8 x1, .int .u8 x2]] w fun e w' => e = .returned (.string (FmtStop.textOf (F "fmt.Sprintf" (reading [x0, x1, x2]) 0))) ∧ Below w.heap.size w w' := by
  have hF' := answers_open hF
  obtain ⟨r, hr⟩ : ∃ r, r = 1 :: (digits 8 [x0, x1, x2].length ++ FmtText.intValues [x0, x1, x2]) := ⟨_, rfl⟩
  have hop : ∀ o : Obj, (FmtStop.operand "fmt.Sprintf" false 88 false (.iface 32 (.slice (some ⟨w.heap.size, 0, none⟩) 3 3))).run Tryf.prog ((w.alloc (.cells #[.int .u8 x0, .int .u8 x1, .int .u8 x2] 23)).alloc o) = .ok (shape32, r) ((w.alloc (.cells #[.int .u8 x0, .int .u8 x1, .int .u8 x2] 23)).alloc o) := fun o => by
    rw [hr]
    exact opBytes "fmt.Sprintf" ⟨w.heap.size, 0, none⟩ 3 [x0, x1, x2] _ (fun j v hj => by
      match j, hj with
      | 0, hj => simp at hj; subst hj; simp [Addr.add]
      | 1, hj => simp at hj; subst hj; simp [Addr.add]
      | 2, hj => simp at hj; subst hj; simp [Addr.add])
  have hrd : reading [x0, x1, x2] = [[37, 88], shape32, r] := by rw [hr]; rfl
  rw [hrd]
  clear hr hrd
  go_enter Tryf.func5, Tryf.ntmps5
  go_wp2
  go_ret
  exact ⟨rfl, (((Below.refl _ w).alloc (Nat.le_refl _) _).alloc (by simp) _).drew⟩

theorem t_parse : (FmtText.parse [37, 88]).map FmtText.glue = some [.verb {} 88] := by rfl
theorem x_text (xs : List Int) (hx : ∀ x ∈ xs, (Lit.int .u8 x).wf = true) (hl : xs.length < 2 ^ 64) : FmtText.text "fmt.Sprintf" (reading xs) = some (FmtText.hexOf true (FmtText.bytesOf xs)) := by
  have ho : FmtText.operand shape32 (1 :: (digits 8 xs.length ++ FmtText.intValues xs)) = some (.slice "[]uint8".toUTF8.data.toList "uint8".toUTF8.data.toList true false (FmtText.intScalars .u8 xs)) :=
    FmtText.operand_ints (name := "[]uint8".toUTF8.data.toList) (by decide) (FmtText.unpack_pack "uint8".toUTF8.data.toList (by decide)) .u8 xs hx hl
  rw [reading, FmtText.text_sprintf_glued t_parse (FmtText.operands_cons ho FmtText.operands_nil)]
  simp [FmtText.render, FmtText.printArg_X_bytes, FmtText.fmtSx_plain]
end Go.Proofs.Qxb6608518aFmt
