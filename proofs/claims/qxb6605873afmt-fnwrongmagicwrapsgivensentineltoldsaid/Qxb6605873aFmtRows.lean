/-
  NARROWER THAN 'FOR EVERY INPUT', by the rows' own cells (each row's printed sentence says how): FnWrongMagicWrapsGivenSentinel: ifaces, laid.
  DERIVED. THE GIVEN ROWS OF THIS SEAT. 1 by the template 'for every input the law returns true; each argument reads behind the call as it read before'; 0 by the template 'total and deterministic' (their statements: Qxb6605873aFmtTotals.lean).
  GIVEN WITH THE SEED: the statements are not yours to turn. If you find one false, say at which input.
  Laid BY PROGRAM, IN A SANDBOX (cutbox-rows.mjs): the forced cells as the released guide's own fill.sh prints them over the translation c35879d2b6d1c8a9… (all of the seat's roots in one cut). By AI agents, Wed Nov 11 2026. No macro, syntax, notation, axiom, sorry.
-/
import Derived.Test.Qxb6605873aFmtChecked
import GoSem.Claim
import GoSem.ClaimJoined
import GoSem.ClaimMapViews
import Derived.JoinedTies
import Derived.KernelRfl
namespace Go.Proofs.Qxb6605873aFmt
/- THE CELL 'sum', in the pinned program and in every row, IS THE sha256 OF THE DUMP (.gsa) THAT Qxb6605873aFmtProg.lean LOADS. Nothing in Lean hashes anything: it is a label: what it is worth is what the hold of that sum in a sandbox is worth. -/
noncomputable def Tryf.pinned : Pinned := { name := "qxb6605873afmt", sum := "c35879d2b6d1c8a9d26edbee46ce69b5b63079b970077998d893d3da53ad192e", checked := Tryf.checked }
namespace Rows
def none {H : Type} : Left H := { results := [], args := [] }

/- WHAT THE LISTED PACKAGE-LEVEL VARIABLES READ AS WHEN THE CALL BEGINS. Each datum BY PROGRAM (the guide's laid-datum.mjs) off the statement by which the dump's own 'gosem.cut.vars' lays the variable. In a bare row this is a premise. The card (Qxb6605873aFmtCards.lean) ties it to the program's text. -/
def laid_example_com_reachmap_reachmap_ErrNotPack {H : Type} : DataW H := .iface "*errors.errorString" (.ptr (.agg [.lit (.string [110, 111, 116, 32, 97, 32, 112, 97, 99, 107, 102, 105, 108, 101])]))
def laid_example_com_reachmap_reachmap_ErrDamaged {H : Type} : DataW H := .iface "*errors.errorString" (.ptr (.agg [.lit (.string [100, 97, 109, 97, 103, 101, 100])]))
def laid_example_com_reachmap_reachmap_ErrUnsupported {H : Type} : DataW H := .iface "*errors.errorString" (.ptr (.agg [.lit (.string [117, 110, 115, 117, 112, 112, 111, 114, 116, 101, 100])]))

/-- 'zzlaws_root_b1.FnWrongMagicWrapsGivenSentinel': WHATEVER THE INPUT: true; the input reads as it did. -/
def fnWrongMagicWrapsGivenSentinelSpec : ChangeSpec := { name := "fnWrongMagicWrapsGivenSentinel", vars := ["example.com/reachmap/reachmap.ErrNotPack", "example.com/reachmap/reachmap.ErrDamaged", "example.com/reachmap/reachmap.ErrUnsupported"], fn := fun _ => fun
  | [d1, d2, g1, g2, g3] => { results := [.lit (.bool true)], args := [d1, d2], vars := [g1, g2, g3] }
  | _ => none }
def fnWrongMagicWrapsGivenSentinelRow : OpenClaim := { program := "qxb6605873afmt", sum := "c35879d2b6d1c8a9d26edbee46ce69b5b63079b970077998d893d3da53ad192e", func := "example.com/reachmap/reachmap/zzlaws_root_b1.FnWrongMagicWrapsGivenSentinel", spec := "fnWrongMagicWrapsGivenSentinel", stops := ["fmt.errorf"], inPlace := ["fmt.errorf", "internal/reflectlite.TypeOf"], unfollowed := true, recurses := true, named := ["example.com/reachmap/reachmap.ErrNotPack", "example.com/reachmap/reachmap.ErrDamaged", "example.com/reachmap/reachmap.ErrUnsupported"], ifaces := true, apart := false, laid := [("example.com/reachmap/reachmap.ErrNotPack", laid_example_com_reachmap_reachmap_ErrNotPack), ("example.com/reachmap/reachmap.ErrDamaged", laid_example_com_reachmap_reachmap_ErrDamaged), ("example.com/reachmap/reachmap.ErrUnsupported", laid_example_com_reachmap_reachmap_ErrUnsupported)] }
/-- NO THEOREM (fmt's text is open here; it may be false): for the released tool's asking of the row's closed facts alone. THE STATEMENT IS 'FnWrongMagicWrapsGivenSentinelToldSaid' (Qxb6605873aFmtCards.lean). -/
def FnWrongMagicWrapsGivenSentinelFormAsk : Prop := fnWrongMagicWrapsGivenSentinelRow.holds Tryf.pinned (OpenSpec.ofChange fnWrongMagicWrapsGivenSentinelSpec)

/-- ITS FALSE NEIGHBOUR: 'it returns false'. Refute it at one input. -/
def fnWrongMagicWrapsGivenSentinelWrong : ChangeSpec := { name := "fnWrongMagicWrapsGivenSentinel", vars := ["example.com/reachmap/reachmap.ErrNotPack", "example.com/reachmap/reachmap.ErrDamaged", "example.com/reachmap/reachmap.ErrUnsupported"], fn := fun _ => fun
  | [d1, d2, g1, g2, g3] => { results := [.lit (.bool false)], args := [d1, d2], vars := [g1, g2, g3] }
  | _ => none }
def FnWrongMagicWrapsGivenSentinelWrongFormAsk : Prop := fnWrongMagicWrapsGivenSentinelRow.holds Tryf.pinned (OpenSpec.ofChange fnWrongMagicWrapsGivenSentinelWrong)

end Rows
end Go.Proofs.Qxb6605873aFmt
