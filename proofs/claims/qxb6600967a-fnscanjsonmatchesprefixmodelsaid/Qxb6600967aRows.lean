/-
  No cell of these rows narrows 'for every input' (looked for: loops, veiled, ifaces, maps, wideKeys, modest, calm, conditions, laid).
  DERIVED. THE GIVEN ROWS OF THIS SEAT. 5 by the template 'for every input the law returns true; each argument reads behind the call as it read before'; 0 by the template 'total and deterministic' (their statements: Qxb6600967aTotals.lean).
  GIVEN WITH THE SEED: the statements are not yours to turn. If you find one false, say at which input.
  Laid BY PROGRAM, IN A SANDBOX (cutbox-rows.mjs): the forced cells as the released guide's own fill.sh prints them over the translation 420d5e1c1eaee358… (all of the seat's roots in one cut). By AI agents, Wed Nov 11 2026. No macro, syntax, notation, axiom, sorry.
-/
import Derived.Test.Qxb6600967aChecked
import GoSem.Claim
import GoSem.ClaimJoined
import GoSem.ClaimMapViews
import Derived.JoinedTies
import Derived.KernelRfl
namespace Go.Proofs.Qxb6600967a
/- THE CELL 'sum', in the pinned program and in every row, IS THE sha256 OF THE DUMP (.gsa) THAT Qxb6600967aProg.lean LOADS. Nothing in Lean hashes anything: it is a label: what it is worth is what the hold of that sum in a sandbox is worth. -/
noncomputable def Try.pinned : Pinned := { name := "qxb6600967a", sum := "420d5e1c1eaee358adcca1cbd646f69ceff9e3fd576f9eb750e05b762e9099e5", checked := Try.checked }
namespace Rows
def none {H : Type} : Left H := { results := [], args := [] }

/-- 'zzlaws_internal_number_b1.FnScanJSONMatchesPrefixModel': WHATEVER THE INPUT: true; the input reads as it did. -/
def fnScanJSONMatchesPrefixModelSpec : ChangeSpec := { name := "fnScanJSONMatchesPrefixModel", fn := fun _ => fun
  | [d] => { results := [.lit (.bool true)], args := [d] }
  | _ => none }
def fnScanJSONMatchesPrefixModelRow : OpenClaim := { program := "qxb6600967a", sum := "420d5e1c1eaee358adcca1cbd646f69ceff9e3fd576f9eb750e05b762e9099e5", func := "example.com/treeconv/treeconv/zzlaws_internal_number_b1.FnScanJSONMatchesPrefixModel", spec := "fnScanJSONMatchesPrefixModel", apart := false }
def FnScanJSONMatchesPrefixModelSaid : Prop := fnScanJSONMatchesPrefixModelRow.holds Try.pinned (OpenSpec.ofChange fnScanJSONMatchesPrefixModelSpec)

/-- ITS FALSE NEIGHBOUR: 'it returns false'. Refute it at one input. -/
def fnScanJSONMatchesPrefixModelWrong : ChangeSpec := { name := "fnScanJSONMatchesPrefixModel", fn := fun _ => fun
  | [d] => { results := [.lit (.bool false)], args := [d] }
  | _ => none }
def FnScanJSONMatchesPrefixModelWrongFalsely : Prop := fnScanJSONMatchesPrefixModelRow.holds Try.pinned (OpenSpec.ofChange fnScanJSONMatchesPrefixModelWrong)

/-- 'zzlaws_internal_number_b1.FnScanJSONAcceptsExactlyWholeNumbers': WHATEVER THE INPUT: true; the input reads as it did. -/
def fnScanJSONAcceptsExactlyWholeNumbersSpec : ChangeSpec := { name := "fnScanJSONAcceptsExactlyWholeNumbers", fn := fun _ => fun
  | [d] => { results := [.lit (.bool true)], args := [d] }
  | _ => none }
def fnScanJSONAcceptsExactlyWholeNumbersRow : OpenClaim := { program := "qxb6600967a", sum := "420d5e1c1eaee358adcca1cbd646f69ceff9e3fd576f9eb750e05b762e9099e5", func := "example.com/treeconv/treeconv/zzlaws_internal_number_b1.FnScanJSONAcceptsExactlyWholeNumbers", spec := "fnScanJSONAcceptsExactlyWholeNumbers", apart := false }
def FnScanJSONAcceptsExactlyWholeNumbersSaid : Prop := fnScanJSONAcceptsExactlyWholeNumbersRow.holds Try.pinned (OpenSpec.ofChange fnScanJSONAcceptsExactlyWholeNumbersSpec)

/-- ITS FALSE NEIGHBOUR: 'it returns false'. Refute it at one input. -/
def fnScanJSONAcceptsExactlyWholeNumbersWrong : ChangeSpec := { name := "fnScanJSONAcceptsExactlyWholeNumbers", fn := fun _ => fun
  | [d] => { results := [.lit (.bool false)], args := [d] }
  | _ => none }
def FnScanJSONAcceptsExactlyWholeNumbersWrongFalsely : Prop := fnScanJSONAcceptsExactlyWholeNumbersRow.holds Try.pinned (OpenSpec.ofChange fnScanJSONAcceptsExactlyWholeNumbersWrong)

/-- 'zzlaws_internal_number_b1.FnScanJSONRereadsItsOwnNumber': WHATEVER THE INPUT: true; the input reads as it did. -/
def fnScanJSONRereadsItsOwnNumberSpec : ChangeSpec := { name := "fnScanJSONRereadsItsOwnNumber", fn := fun _ => fun
  | [d] => { results := [.lit (.bool true)], args := [d] }
  | _ => none }
def fnScanJSONRereadsItsOwnNumberRow : OpenClaim := { program := "qxb6600967a", sum := "420d5e1c1eaee358adcca1cbd646f69ceff9e3fd576f9eb750e05b762e9099e5", func := "example.com/treeconv/treeconv/zzlaws_internal_number_b1.FnScanJSONRereadsItsOwnNumber", spec := "fnScanJSONRereadsItsOwnNumber", apart := false }
def FnScanJSONRereadsItsOwnNumberSaid : Prop := fnScanJSONRereadsItsOwnNumberRow.holds Try.pinned (OpenSpec.ofChange fnScanJSONRereadsItsOwnNumberSpec)

/-- ITS FALSE NEIGHBOUR: 'it returns false'. Refute it at one input. -/
def fnScanJSONRereadsItsOwnNumberWrong : ChangeSpec := { name := "fnScanJSONRereadsItsOwnNumber", fn := fun _ => fun
  | [d] => { results := [.lit (.bool false)], args := [d] }
  | _ => none }
def FnScanJSONRereadsItsOwnNumberWrongFalsely : Prop := fnScanJSONRereadsItsOwnNumberRow.holds Try.pinned (OpenSpec.ofChange fnScanJSONRereadsItsOwnNumberWrong)

/-- 'zzlaws_internal_number_b1.FnScanInPartsAgreesWithScanJSON': WHATEVER THE INPUT: true; the input reads as it did. -/
def fnScanInPartsAgreesWithScanJSONSpec : ChangeSpec := { name := "fnScanInPartsAgreesWithScanJSON", fn := fun _ => fun
  | [d1, d2] => { results := [.lit (.bool true)], args := [d1, d2] }
  | _ => none }
def fnScanInPartsAgreesWithScanJSONRow : OpenClaim := { program := "qxb6600967a", sum := "420d5e1c1eaee358adcca1cbd646f69ceff9e3fd576f9eb750e05b762e9099e5", func := "example.com/treeconv/treeconv/zzlaws_internal_number_b1.FnScanInPartsAgreesWithScanJSON", spec := "fnScanInPartsAgreesWithScanJSON", apart := false }
def FnScanInPartsAgreesWithScanJSONSaid : Prop := fnScanInPartsAgreesWithScanJSONRow.holds Try.pinned (OpenSpec.ofChange fnScanInPartsAgreesWithScanJSONSpec)

/-- ITS FALSE NEIGHBOUR: 'it returns false'. Refute it at one input. -/
def fnScanInPartsAgreesWithScanJSONWrong : ChangeSpec := { name := "fnScanInPartsAgreesWithScanJSON", fn := fun _ => fun
  | [d1, d2] => { results := [.lit (.bool false)], args := [d1, d2] }
  | _ => none }
def FnScanInPartsAgreesWithScanJSONWrongFalsely : Prop := fnScanInPartsAgreesWithScanJSONRow.holds Try.pinned (OpenSpec.ofChange fnScanInPartsAgreesWithScanJSONWrong)

/-- 'zzlaws_internal_number_b1.FnScanThenEndMatchesPrefixModel': WHATEVER THE INPUT: true; the input reads as it did. -/
def fnScanThenEndMatchesPrefixModelSpec : ChangeSpec := { name := "fnScanThenEndMatchesPrefixModel", fn := fun _ => fun
  | [d] => { results := [.lit (.bool true)], args := [d] }
  | _ => none }
def fnScanThenEndMatchesPrefixModelRow : OpenClaim := { program := "qxb6600967a", sum := "420d5e1c1eaee358adcca1cbd646f69ceff9e3fd576f9eb750e05b762e9099e5", func := "example.com/treeconv/treeconv/zzlaws_internal_number_b1.FnScanThenEndMatchesPrefixModel", spec := "fnScanThenEndMatchesPrefixModel", apart := false }
def FnScanThenEndMatchesPrefixModelSaid : Prop := fnScanThenEndMatchesPrefixModelRow.holds Try.pinned (OpenSpec.ofChange fnScanThenEndMatchesPrefixModelSpec)

/-- ITS FALSE NEIGHBOUR: 'it returns false'. Refute it at one input. -/
def fnScanThenEndMatchesPrefixModelWrong : ChangeSpec := { name := "fnScanThenEndMatchesPrefixModel", fn := fun _ => fun
  | [d] => { results := [.lit (.bool false)], args := [d] }
  | _ => none }
def FnScanThenEndMatchesPrefixModelWrongFalsely : Prop := fnScanThenEndMatchesPrefixModelRow.holds Try.pinned (OpenSpec.ofChange fnScanThenEndMatchesPrefixModelWrong)

end Rows
end Go.Proofs.Qxb6600967a
