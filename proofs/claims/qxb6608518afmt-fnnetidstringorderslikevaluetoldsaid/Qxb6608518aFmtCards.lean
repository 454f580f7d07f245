/-
  DERIVED. GIVEN WITH THE SEED: THE CARDS: each row of Qxb6608518aFmtRows.lean that lists a variable, with what it lists TIED to the program's text (the seventh form; the later family's looks); each row that meets fmt, with fmt's text TOLD by the authors' own Lean function (tested against real Go, not proved from fmt's source: count such statements apart). THE CARD IS WHAT COUNTS. Prove the row's statement (the work); the ties are given (Qxb6608518aFmtTie.lean); close each card by the builder's one call (the guide's Derived/Test/ToyasCard.lean, 'card_holds'). Laid BY PROGRAM, IN A SANDBOX (cutbox-door.mjs). By AI agents, Wed Nov 11 2026. No macro, syntax, notation, axiom, sorry.
-/
import Derived.Test.Qxb6608518aFmtRows
import GoSem.ClaimSeven
namespace Go.Proofs.Qxb6608518aFmt
namespace Rows

/-- THE TOLD CARD OF 'zzlaws_pkg_lorawan_b1.FnNetIDStringIsSixUpperHexDigits'. -/
def fnNetIDStringIsSixUpperHexDigitsCard : Claim7 := { stood := { row := fnNetIDStringIsSixUpperHexDigitsRow, standIns := [], harness := (true, "d8d7712309f792883de9e5d91581747dacfe89df3bd73b5543d6efbd42fd8f16"), looks := false }, told := true, goes := false }
def FnNetIDStringIsSixUpperHexDigitsToldSaid : Prop := Claim7.holds Tryf.pinned (.plain (OpenSpec.ofChange fnNetIDStringIsSixUpperHexDigitsSpec)) fnNetIDStringIsSixUpperHexDigitsCard
/-- ITS FALSE NEIGHBOUR. Refute it at one input. -/
def FnNetIDStringIsSixUpperHexDigitsToldWrongFalsely : Prop := Claim7.holds Tryf.pinned (.plain (OpenSpec.ofChange fnNetIDStringIsSixUpperHexDigitsWrong)) fnNetIDStringIsSixUpperHexDigitsCard

/-- THE TOLD CARD OF 'zzlaws_pkg_lorawan_b1.FnNetIDStringOrdersLikeValue'. -/
def fnNetIDStringOrdersLikeValueCard : Claim7 := { stood := { row := fnNetIDStringOrdersLikeValueRow, standIns := [], harness := (true, "d8d7712309f792883de9e5d91581747dacfe89df3bd73b5543d6efbd42fd8f16"), looks := false }, told := true, goes := false }
def FnNetIDStringOrdersLikeValueToldSaid : Prop := Claim7.holds Tryf.pinned (.plain (OpenSpec.ofChange fnNetIDStringOrdersLikeValueSpec)) fnNetIDStringOrdersLikeValueCard
/-- ITS FALSE NEIGHBOUR. Refute it at one input. -/
def FnNetIDStringOrdersLikeValueToldWrongFalsely : Prop := Claim7.holds Tryf.pinned (.plain (OpenSpec.ofChange fnNetIDStringOrdersLikeValueWrong)) fnNetIDStringOrdersLikeValueCard
end Rows
end Go.Proofs.Qxb6608518aFmt
