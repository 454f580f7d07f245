/-
  No cell of these rows narrows 'for every input' (looked for: loops, veiled, ifaces, maps, wideKeys, modest, calm, conditions, laid).
  DERIVED. THE GIVEN ROWS OF THIS SEAT. 2 by the template 'for every input the law returns true; each argument reads behind the call as it read before'; 0 by the template 'total and deterministic' (their statements: Qxb6608518aFmtTotals.lean).
  GIVEN WITH THE SEED: the statements are not yours to turn. If you find one false, say at which input.
  Laid BY PROGRAM, IN A SANDBOX (cutbox-rows.mjs): the forced cells as the released guide's own fill.sh prints them over the translation ee1752ca1aa65715… (all of the seat's roots in one cut). By AI agents, Wed Nov 11 2026. No macro, syntax, notation, axiom, sorry.
-/
import Derived.Test.Qxb6608518aFmtChecked
import GoSem.Claim
import GoSem.ClaimJoined
import GoSem.ClaimMapViews
import Derived.JoinedTies
import Derived.KernelRfl
namespace Go.Proofs.Qxb6608518aFmt
/- THE CELL 'sum', in the pinned program and in every row, IS THE sha256 OF THE DUMP (.gsa) THAT Qxb6608518aFmtProg.lean LOADS. Nothing in Lean hashes anything: it is a label: what it is worth is what the hold of that sum in a sandbox is worth. -/
noncomputable def Tryf.pinned : Pinned := { name := "qxb6608518afmt", sum := "ee1752ca1aa65715bb9f956a4f612c94423c1b98ad6cc0d88ed7f0fe5668f4ee", checked := Tryf.checked }
namespace Rows
def none {H : Type} : Left H := { results := [], args := [] }

/-- 'zzlaws_pkg_lorawan_b1.FnNetIDStringIsSixUpperHexDigits': WHATEVER THE INPUT: true; the input reads as it did. -/
def fnNetIDStringIsSixUpperHexDigitsSpec : ChangeSpec := { name := "fnNetIDStringIsSixUpperHexDigits", fn := fun _ => fun
  | [d] => { results := [.lit (.bool true)], args := [d] }
  | _ => none }
def fnNetIDStringIsSixUpperHexDigitsRow : OpenClaim := { program := "qxb6608518afmt", sum := "ee1752ca1aa65715bb9f956a4f612c94423c1b98ad6cc0d88ed7f0fe5668f4ee", func := "example.com/roaming-backend/roaming-backend/zzlaws_pkg_lorawan_b1.FnNetIDStringIsSixUpperHexDigits", spec := "fnNetIDStringIsSixUpperHexDigits", stops := ["fmt.Sprintf"], inPlace := ["fmt.Sprintf"], apart := false }
/-- NO THEOREM (fmt's text is open here; it may be false): for the released tool's asking of the row's closed facts alone. THE STATEMENT IS 'FnNetIDStringIsSixUpperHexDigitsToldSaid' (Qxb6608518aFmtCards.lean). -/
def FnNetIDStringIsSixUpperHexDigitsFormAsk : Prop := fnNetIDStringIsSixUpperHexDigitsRow.holds Tryf.pinned (OpenSpec.ofChange fnNetIDStringIsSixUpperHexDigitsSpec)

/-- ITS FALSE NEIGHBOUR: 'it returns false'. Refute it at one input. -/
def fnNetIDStringIsSixUpperHexDigitsWrong : ChangeSpec := { name := "fnNetIDStringIsSixUpperHexDigits", fn := fun _ => fun
  | [d] => { results := [.lit (.bool false)], args := [d] }
  | _ => none }
def FnNetIDStringIsSixUpperHexDigitsWrongFormAsk : Prop := fnNetIDStringIsSixUpperHexDigitsRow.holds Tryf.pinned (OpenSpec.ofChange fnNetIDStringIsSixUpperHexDigitsWrong)

/-- 'zzlaws_pkg_lorawan_b1.FnNetIDStringOrdersLikeValue': WHATEVER THE INPUT: true; the input reads as it did. -/
def fnNetIDStringOrdersLikeValueSpec : ChangeSpec := { name := "fnNetIDStringOrdersLikeValue", fn := fun _ => fun
  | [d1, d2] => { results := [.lit (.bool true)], args := [d1, d2] }
  | _ => none }
def fnNetIDStringOrdersLikeValueRow : OpenClaim := { program := "qxb6608518afmt", sum := "ee1752ca1aa65715bb9f956a4f612c94423c1b98ad6cc0d88ed7f0fe5668f4ee", func := "example.com/roaming-backend/roaming-backend/zzlaws_pkg_lorawan_b1.FnNetIDStringOrdersLikeValue", spec := "fnNetIDStringOrdersLikeValue", stops := ["fmt.Sprintf"], inPlace := ["fmt.Sprintf"], apart := false }
/-- NO THEOREM (fmt's text is open here; it may be false): for the released tool's asking of the row's closed facts alone. THE STATEMENT IS 'FnNetIDStringOrdersLikeValueToldSaid' (Qxb6608518aFmtCards.lean). -/
def FnNetIDStringOrdersLikeValueFormAsk : Prop := fnNetIDStringOrdersLikeValueRow.holds Tryf.pinned (OpenSpec.ofChange fnNetIDStringOrdersLikeValueSpec)

/-- ITS FALSE NEIGHBOUR: 'it returns false'. Refute it at one input. -/
def fnNetIDStringOrdersLikeValueWrong : ChangeSpec := { name := "fnNetIDStringOrdersLikeValue", fn := fun _ => fun
  | [d1, d2] => { results := [.lit (.bool false)], args := [d1, d2] }
  | _ => none }
def FnNetIDStringOrdersLikeValueWrongFormAsk : Prop := fnNetIDStringOrdersLikeValueRow.holds Tryf.pinned (OpenSpec.ofChange fnNetIDStringOrdersLikeValueWrong)

end Rows
end Go.Proofs.Qxb6608518aFmt
