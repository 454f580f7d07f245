/-
  DERIVED. GIVEN WITH THE SEED: THE CARDS: each row of Qxb6605873aFmtRows.lean that lists a variable, with what it lists TIED to the program's text (the seventh form; the later family's looks); each row that meets fmt, with fmt's text TOLD by the authors' own Lean function (tested against real Go, not proved from fmt's source: count such statements apart). THE CARD IS WHAT COUNTS. Prove the row's statement (the work); the ties are given (Qxb6605873aFmtTie.lean); close each card by the builder's one call (the guide's Derived/Test/ToyasCard.lean, 'card_holds'). Laid BY PROGRAM, IN A SANDBOX (cutbox-door.mjs). By AI agents, Wed Nov 11 2026. No macro, syntax, notation, axiom, sorry.
-/
import Derived.Test.Qxb6605873aFmtRows
import GoSem.ClaimSeven
namespace Go.Proofs.Qxb6605873aFmt
namespace Rows

/-- THE TOLD AND TIED CARD OF 'zzlaws_root_b1.FnWrongMagicWrapsGivenSentinel'. -/
def fnWrongMagicWrapsGivenSentinelCard : Claim7 := { stood := { row := fnWrongMagicWrapsGivenSentinelRow, standIns := [], harness := (true, "ac6aaafd9e2bc92d1f411c1b570ad8997d59bebc38175443006092599255e4f2"), looks := true }, told := true, laidByText := true, laidKinds := [.sentinel, .sentinel, .sentinel], laidTests := true, laidLooks := .later, goes := false }
def FnWrongMagicWrapsGivenSentinelToldSaid : Prop := Claim7.holds Tryf.pinned (.plain (OpenSpec.ofChange fnWrongMagicWrapsGivenSentinelSpec)) fnWrongMagicWrapsGivenSentinelCard
/-- ITS FALSE NEIGHBOUR. Refute it at one input. -/
def FnWrongMagicWrapsGivenSentinelToldWrongFalsely : Prop := Claim7.holds Tryf.pinned (.plain (OpenSpec.ofChange fnWrongMagicWrapsGivenSentinelWrong)) fnWrongMagicWrapsGivenSentinelCard
end Rows
end Go.Proofs.Qxb6605873aFmt
