/-
  THE CLOSED FACTS FOR THE WALK OVER fmt's STOPPED FRONT (after the worked SentryFmt), for this dump; and the walk of wrongMagic.
-/
import Derived.Test.Qxb6605873aFmtRows
import Derived.Stop.CallBack
import Derived.Stop.IfaceNil
import Derived.WalkKit
import Derived.RowKitTokens
import GoSem.ClaimData
namespace Go.Proofs.Qxb6605873aFmt
open Go.RowKit Go.Extern.Stop Go.Stop Go.Extern

-- fmt.errorf: function 12: a plain stop
theorem call12 (args : Array Value) (w : World) : (callFunc 12 args).run Tryf.prog w = ((FmtStop.errorf #[9, 39] #[26] args).run Tryf.prog w).andThen fun v w' => .ok (.value v) w' :=
  run_callFunc_extern Tryf.func12 (by kernel_rfl) (by kernel_rfl) (by kernel_rfl) (by kernel_rfl) args w
theorem guardF (name : String) (w : World) : (FmtStop.guard name).run Tryf.prog w = .ok () w := by kernel_rfl
theorem fmt0 : FmtStop.printed? ⟨#[37, 119, 58, 32, 105, 116, 32, 100, 111, 101, 115, 32, 110, 111, 116, 32, 115, 116, 97, 114, 116, 32, 119, 105, 116, 104, 32, 37, 113]⟩ 2 = some [(0, 119, false), (1, 113, false)] := by kernel_rfl
theorem fmt0r (w : World) : (FmtDoors.printed ⟨#[37, 119, 58, 32, 105, 116, 32, 100, 111, 101, 115, 32, 110, 111, 116, 32, 115, 116, 97, 114, 116, 32, 119, 105, 116, 104, 32, 37, 113]⟩ 2).run Tryf.prog w = .ok [(0, 119, false), (1, 113, false)] w := by kernel_rfl
def shape9 : List UInt8 := [12, 6, 0, 0, 0, 0, 0, 0, 0, 115, 116, 114, 105, 110, 103]
theorem op9_113w (name : String) (x : ByteArray) (w : World) : (FmtStop.operand name true 113 false (.iface 9 (.string x))).run Tryf.prog w = .ok (shape9, FmtStop.pack x.data.toList) w := by kernel_rfl
theorem ptr51 (w : World) : (FmtStop.ptrTo "errors.errorString").run Tryf.prog w = .ok 51 w := by kernel_rfl
theorem elem51 (w : World) : (elemOf 51).run Tryf.prog w = .ok 53 w := by kernel_rfl
theorem isError51 (w : World) : (FmtDoors.textMethod 51 "Error").run Tryf.prog w = .ok true w := by kernel_rfl
def plain51 : List UInt8 := 14 :: FmtStop.pack "*errors.errorString".toUTF8.data.toList
theorem opPlain51_119w (name : String) (a : Addr) (s : ByteArray) (w : World) (hc : w.cell? a = some (.string s)) :
    (FmtStop.operand name true 119 false (.iface 51 (.pointer (some a)))).run Tryf.prog w = .ok (plain51, s.data.toList) w := by
  have h1 : (typeStr 51).run Tryf.prog w = .ok "*errors.errorString" w := by kernel_rfl
  have d2 : Tryf.t51.desc = .pointer 53 := rfl
  have d3 : Tryf.t53.desc = .named "errors.errorString" 52 := rfl
  simp [FmtStop.operand, h1, d2, d3, run_load, hc, plain51]
theorem ptr41 (w : World) : (FmtStop.ptrTo "fmt.wrapError").run Tryf.prog w = .ok 41 w := by kernel_rfl
theorem elem41 (w : World) : (elemOf 41).run Tryf.prog w = .ok 78 w := by kernel_rfl
theorem isError41 (w : World) : (FmtDoors.textMethod 41 "Error").run Tryf.prog w = .ok true w := by kernel_rfl
attribute [local go_sem] call12 guardF fmt0 fmt0r op9_113w ptr51 elem51 isError51 ptr41 elem41 isError41

/-- What fmt is asked. -/
def reading (s m : List UInt8) : List (List UInt8) := [[37, 119, 58, 32, 105, 116, 32, 100, 111, 101, 115, 32, 110, 111, 116, 32, 115, 116, 97, 114, 116, 32, 119, 105, 116, 104, 32, 37, 113], plain51, s, shape9, FmtStop.pack m]

/-- The world behind wrongMagic: the variadic slice's block; the new *fmt.wrapError's; one draw. -/
def wrapWorld (F : Interp) (a : Addr) (s m : ByteArray) (w : World) : World :=
  ((w.alloc (.cells #[.iface 51 (.pointer (some a)), .iface 9 (.string m)] 20)).alloc (.cells #[.string (FmtStop.textOf (F "fmt.errorf" (reading s.data.toList m.data.toList) 0)), .iface 51 (.pointer (some a))] 78)).drew

set_option maxHeartbeats 400000 in
theorem wrong_calls (F : Interp) (a : Addr) (s m : ByteArray) (w : World) (hF : F.answers w.tape)
    (hs : (w.alloc (.cells #[.iface 51 (.pointer (some a)), .iface 9 (.string m)] 20)).cell? a = some (.string s)) :
    Calls Tryf.prog 6 #[.iface 51 (.pointer (some a)), .string m] w fun e w' => e = .returned (.iface 41 (.pointer (some ⟨w.heap.size + 1, 0, none⟩))) ∧ w' = wrapWorld F a s m w := by
  have hF' := hF
  unfold Interp.answers at hF'
  have hop := opPlain51_119w "fmt.errorf" a s _ hs
  go_enter Tryf.func6, Tryf.ntmps6
  go_wp2
  go_ret
  exact ⟨rfl, rfl⟩

end Go.Proofs.Qxb6605873aFmt
