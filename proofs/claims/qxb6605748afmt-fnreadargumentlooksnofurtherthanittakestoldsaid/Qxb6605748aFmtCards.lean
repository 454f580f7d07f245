/-
  DERIVED. GIVEN WITH THE SEED: THE CARDS: each row of Qxb6605748aFmtRows.lean that lists a variable, with what it lists TIED to the program's text (the seventh form; the later family's looks); each row that meets fmt, with fmt's text TOLD by the authors' own Lean function (tested against real Go, not proved from fmt's source: count such statements apart). THE CARD IS WHAT COUNTS. Prove the row's statement (the work); the ties are given (Qxb6605748aFmtTie.lean); close each card by the builder's one call (the guide's Derived/Test/ToyasCard.lean, 'card_holds'). Laid BY PROGRAM, IN A SANDBOX (cutbox-door.mjs). By AI agents, Wed Nov 11 2026. No macro, syntax, notation, axiom, sorry.
-/
import Derived.Test.Qxb6605748aFmtRows
import GoSem.ClaimSeven
namespace Go.Proofs.Qxb6605748aFmt
namespace Rows

/-- THE TOLD AND TIED CARD OF 'zzlaws_root_b1.FnReadArgumentLooksNoFurtherThanItTakes'. -/
def fnReadArgumentLooksNoFurtherThanItTakesCard : Claim7 := { stood := { row := fnReadArgumentLooksNoFurtherThanItTakesRow, standIns := [], harness := (true, "4312571beb98f75cff501d14fa9fad7c82c6786999f2e33bba2fcef0edd632e0"), looks := true }, told := true, laidByText := true, laidKinds := [.data, .data, .data, .called, .called], laidTests := true, laidLooks := .later, goes := false }
def FnReadArgumentLooksNoFurtherThanItTakesToldSaid : Prop := Claim7.holds Tryf.pinned (.plain (OpenSpec.ofChange fnReadArgumentLooksNoFurtherThanItTakesSpec)) fnReadArgumentLooksNoFurtherThanItTakesCard
/-- ITS FALSE NEIGHBOUR. Refute it at one input. -/
def FnReadArgumentLooksNoFurtherThanItTakesToldWrongFalsely : Prop := Claim7.holds Tryf.pinned (.plain (OpenSpec.ofChange fnReadArgumentLooksNoFurtherThanItTakesWrong)) fnReadArgumentLooksNoFurtherThanItTakesCard
end Rows
end Go.Proofs.Qxb6605748aFmt
