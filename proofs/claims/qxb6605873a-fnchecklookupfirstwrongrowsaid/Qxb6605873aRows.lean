/-
  No cell of these rows narrows 'for every input' (looked for: loops, veiled, ifaces, maps, wideKeys, modest, calm, conditions, laid).
  DERIVED. THE GIVEN ROWS OF THIS SEAT. 4 by the template 'for every input the law returns true; each argument reads behind the call as it read before'; 0 by the template 'total and deterministic' (their statements: Qxb6605873aTotals.lean).
  GIVEN WITH THE SEED: the statements are not yours to turn. If you find one false, say at which input.
  Laid BY PROGRAM, IN A SANDBOX (cutbox-rows.mjs): the forced cells as the released guide's own fill.sh prints them over the translation c56e2d4c44940341… (all of the seat's roots in one cut). By AI agents, Wed Nov 11 2026. No macro, syntax, notation, axiom, sorry.
-/
import Derived.Test.Qxb6605873aChecked
import GoSem.Claim
import GoSem.ClaimJoined
import GoSem.ClaimMapViews
import Derived.JoinedTies
import Derived.KernelRfl
namespace Go.Proofs.Qxb6605873a
/- THE CELL 'sum', in the pinned program and in every row, IS THE sha256 OF THE DUMP (.gsa) THAT Qxb6605873aProg.lean LOADS. Nothing in Lean hashes anything: it is a label: what it is worth is what the hold of that sum in a sandbox is worth. -/
noncomputable def Try.pinned : Pinned := { name := "qxb6605873a", sum := "c56e2d4c449403417010147cef7c3d8fc36405c8c6db3543e11c92a76185d81d", checked := Try.checked }
namespace Rows
def none {H : Type} : Left H := { results := [], args := [] }

/-- 'zzlaws_root_b1.FnDeltaFieldsMaskedBytes': WHATEVER THE INPUT: true; the input reads as it did. -/
def fnDeltaFieldsMaskedBytesSpec : ChangeSpec := { name := "fnDeltaFieldsMaskedBytes", fn := fun _ => fun
  | [d1, d2, d3, d4, d5, d6, d7] => { results := [.lit (.bool true)], args := [d1, d2, d3, d4, d5, d6, d7] }
  | _ => none }
def fnDeltaFieldsMaskedBytesRow : OpenClaim := { program := "qxb6605873a", sum := "c56e2d4c449403417010147cef7c3d8fc36405c8c6db3543e11c92a76185d81d", func := "example.com/reachmap/reachmap/zzlaws_root_b1.FnDeltaFieldsMaskedBytes", spec := "fnDeltaFieldsMaskedBytes", apart := false }
def FnDeltaFieldsMaskedBytesSaid : Prop := fnDeltaFieldsMaskedBytesRow.holds Try.pinned (OpenSpec.ofChange fnDeltaFieldsMaskedBytesSpec)

/-- ITS FALSE NEIGHBOUR: 'it returns false'. Refute it at one input. -/
def fnDeltaFieldsMaskedBytesWrong : ChangeSpec := { name := "fnDeltaFieldsMaskedBytes", fn := fun _ => fun
  | [d1, d2, d3, d4, d5, d6, d7] => { results := [.lit (.bool false)], args := [d1, d2, d3, d4, d5, d6, d7] }
  | _ => none }
def FnDeltaFieldsMaskedBytesWrongFalsely : Prop := fnDeltaFieldsMaskedBytesRow.holds Try.pinned (OpenSpec.ofChange fnDeltaFieldsMaskedBytesWrong)

/-- 'zzlaws_root_b1.FnDeltaFieldsRoundTrip': WHATEVER THE INPUT: true; the input reads as it did. -/
def fnDeltaFieldsRoundTripSpec : ChangeSpec := { name := "fnDeltaFieldsRoundTrip", fn := fun _ => fun
  | [d1, d2, d3, d4] => { results := [.lit (.bool true)], args := [d1, d2, d3, d4] }
  | _ => none }
def fnDeltaFieldsRoundTripRow : OpenClaim := { program := "qxb6605873a", sum := "c56e2d4c449403417010147cef7c3d8fc36405c8c6db3543e11c92a76185d81d", func := "example.com/reachmap/reachmap/zzlaws_root_b1.FnDeltaFieldsRoundTrip", spec := "fnDeltaFieldsRoundTrip", apart := false }
def FnDeltaFieldsRoundTripSaid : Prop := fnDeltaFieldsRoundTripRow.holds Try.pinned (OpenSpec.ofChange fnDeltaFieldsRoundTripSpec)

/-- ITS FALSE NEIGHBOUR: 'it returns false'. Refute it at one input. -/
def fnDeltaFieldsRoundTripWrong : ChangeSpec := { name := "fnDeltaFieldsRoundTrip", fn := fun _ => fun
  | [d1, d2, d3, d4] => { results := [.lit (.bool false)], args := [d1, d2, d3, d4] }
  | _ => none }
def FnDeltaFieldsRoundTripWrongFalsely : Prop := fnDeltaFieldsRoundTripRow.holds Try.pinned (OpenSpec.ofChange fnDeltaFieldsRoundTripWrong)

/-- 'zzlaws_root_b1.FnCheckLookupFirstWrongRow': WHATEVER THE INPUT: true; the input reads as it did. -/
def fnCheckLookupFirstWrongRowSpec : ChangeSpec := { name := "fnCheckLookupFirstWrongRow", fn := fun _ => fun
  | [d1, d2, d3, d4, d5, d6] => { results := [.lit (.bool true)], args := [d1, d2, d3, d4, d5, d6] }
  | _ => none }
def fnCheckLookupFirstWrongRowRow : OpenClaim := { program := "qxb6605873a", sum := "c56e2d4c449403417010147cef7c3d8fc36405c8c6db3543e11c92a76185d81d", func := "example.com/reachmap/reachmap/zzlaws_root_b1.FnCheckLookupFirstWrongRow", spec := "fnCheckLookupFirstWrongRow", recurses := true, apart := false }
def FnCheckLookupFirstWrongRowSaid : Prop := fnCheckLookupFirstWrongRowRow.holds Try.pinned (OpenSpec.ofChange fnCheckLookupFirstWrongRowSpec)

/-- ITS FALSE NEIGHBOUR: 'it returns false'. Refute it at one input. -/
def fnCheckLookupFirstWrongRowWrong : ChangeSpec := { name := "fnCheckLookupFirstWrongRow", fn := fun _ => fun
  | [d1, d2, d3, d4, d5, d6] => { results := [.lit (.bool false)], args := [d1, d2, d3, d4, d5, d6] }
  | _ => none }
def FnCheckLookupFirstWrongRowWrongFalsely : Prop := fnCheckLookupFirstWrongRowRow.holds Try.pinned (OpenSpec.ofChange fnCheckLookupFirstWrongRowWrong)

/-- 'zzlaws_root_b1.FnCheckLookupAcceptsWrittenTable': WHATEVER THE INPUT: true; the input reads as it did. -/
def fnCheckLookupAcceptsWrittenTableSpec : ChangeSpec := { name := "fnCheckLookupAcceptsWrittenTable", fn := fun _ => fun
  | [d1, d2, d3, d4, d5, d6] => { results := [.lit (.bool true)], args := [d1, d2, d3, d4, d5, d6] }
  | _ => none }
def fnCheckLookupAcceptsWrittenTableRow : OpenClaim := { program := "qxb6605873a", sum := "c56e2d4c449403417010147cef7c3d8fc36405c8c6db3543e11c92a76185d81d", func := "example.com/reachmap/reachmap/zzlaws_root_b1.FnCheckLookupAcceptsWrittenTable", spec := "fnCheckLookupAcceptsWrittenTable", recurses := true, apart := false }
def FnCheckLookupAcceptsWrittenTableSaid : Prop := fnCheckLookupAcceptsWrittenTableRow.holds Try.pinned (OpenSpec.ofChange fnCheckLookupAcceptsWrittenTableSpec)

/-- ITS FALSE NEIGHBOUR: 'it returns false'. Refute it at one input. -/
def fnCheckLookupAcceptsWrittenTableWrong : ChangeSpec := { name := "fnCheckLookupAcceptsWrittenTable", fn := fun _ => fun
  | [d1, d2, d3, d4, d5, d6] => { results := [.lit (.bool false)], args := [d1, d2, d3, d4, d5, d6] }
  | _ => none }
def FnCheckLookupAcceptsWrittenTableWrongFalsely : Prop := fnCheckLookupAcceptsWrittenTableRow.holds Try.pinned (OpenSpec.ofChange fnCheckLookupAcceptsWrittenTableWrong)

end Rows
end Go.Proofs.Qxb6605873a
