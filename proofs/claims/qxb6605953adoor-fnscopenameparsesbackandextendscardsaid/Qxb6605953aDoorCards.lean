/-
  DERIVED. GIVEN WITH THE SEED: THE CARDS: each row of Qxb6605953aDoorRows.lean that lists a variable, with what it lists TIED to the program's text (the seventh form; the later family's looks); each row that meets fmt, with fmt's text TOLD by the authors' own Lean function (tested against real Go, not proved from fmt's source: count such statements apart). THE CARD IS WHAT COUNTS. Prove the row's statement (the work); the ties are given (Qxb6605953aDoorTie.lean); close each card by the builder's one call (the guide's Derived/Test/ToyasCard.lean, 'card_holds'). Laid BY PROGRAM, IN A SANDBOX (cutbox-door.mjs). By AI agents, Wed Nov 11 2026. No macro, syntax, notation, axiom, sorry.
-/
import Derived.Test.Qxb6605953aDoorRows
import GoSem.ClaimSeven
namespace Go.Proofs.Qxb6605953aDoor
namespace Rows

/-- THE TIED CARD OF 'zzlaws_root_b1.FnScopeNameExact'. -/
def fnScopeNameExactCard : Claim7 := { stood := { row := fnScopeNameExactRow, standIns := [], harness := (true, "18d92d7799ab07cbafd54093fff6a9c22ab80deb70beca1ca1902ff9e33b2773"), looks := false }, kinds := [], alts := [], laidByText := true, laidKinds := [.data, .data, .data], laidTests := true, laidLooks := .later }
def FnScopeNameExactCardSaid : Prop := Claim7.holds Tryd.pinned (.plain (OpenSpec.ofChange fnScopeNameExactSpec)) fnScopeNameExactCard

/-- THE TIED CARD OF 'zzlaws_root_b1.FnScopeNameParsesBackAndExtends'. -/
def fnScopeNameParsesBackAndExtendsCard : Claim7 := { stood := { row := fnScopeNameParsesBackAndExtendsRow, standIns := [], harness := (true, "18d92d7799ab07cbafd54093fff6a9c22ab80deb70beca1ca1902ff9e33b2773"), looks := false }, kinds := [], alts := [], laidByText := true, laidKinds := [.data, .data, .data], laidTests := true, laidLooks := .later }
def FnScopeNameParsesBackAndExtendsCardSaid : Prop := Claim7.holds Tryd.pinned (.plain (OpenSpec.ofChange fnScopeNameParsesBackAndExtendsSpec)) fnScopeNameParsesBackAndExtendsCard
end Rows
end Go.Proofs.Qxb6605953aDoor
