/-
  No cell of these rows narrows 'for every input' (looked for: loops, veiled, ifaces, maps, wideKeys, modest, calm, conditions, laid).
  DERIVED. THE GIVEN ROWS OF THIS SEAT. 4 by the template 'for every input the law returns true; each argument reads behind the call as it read before'; 0 by the template 'total and deterministic' (their statements: Qxb6600882aTotals.lean).
  GIVEN WITH THE SEED: the statements are not yours to turn. If you find one false, say at which input.
  Laid BY PROGRAM, IN A SANDBOX (cutbox-rows.mjs): the forced cells as the released guide's own fill.sh prints them over the translation eba7852acb44ab9c… (all of the seat's roots in one cut). By AI agents, Wed Nov 11 2026. No macro, syntax, notation, axiom, sorry.
-/
import Derived.Test.Qxb6600882aChecked
import GoSem.Claim
import GoSem.ClaimJoined
import GoSem.ClaimMapViews
import Derived.JoinedTies
import Derived.KernelRfl
namespace Go.Proofs.Qxb6600882a
/- THE CELL 'sum', in the pinned program and in every row, IS THE sha256 OF THE DUMP (.gsa) THAT Qxb6600882aProg.lean LOADS. Nothing in Lean hashes anything: it is a label: what it is worth is what the hold of that sum in a sandbox is worth. -/
noncomputable def Try.pinned : Pinned := { name := "qxb6600882a", sum := "eba7852acb44ab9c6fead7e87c0abdc6d56e744f78ef2a6436a44704843deb5e", checked := Try.checked }
namespace Rows
def none {H : Type} : Left H := { results := [], args := [] }

/-- 'zzlaws_internal_kv_b1.FnStoreAgreesWithLastWriteModel': WHATEVER THE INPUT: true; the input reads as it did. -/
def fnStoreAgreesWithLastWriteModelSpec : ChangeSpec := { name := "fnStoreAgreesWithLastWriteModel", fn := fun _ => fun
  | [d1, d2, d3] => { results := [.lit (.bool true)], args := [d1, d2, d3] }
  | _ => none }
def fnStoreAgreesWithLastWriteModelRow : OpenClaim := { program := "qxb6600882a", sum := "eba7852acb44ab9c6fead7e87c0abdc6d56e744f78ef2a6436a44704843deb5e", func := "example.com/bailiwick/bailiwick/zzlaws_internal_kv_b1.FnStoreAgreesWithLastWriteModel", spec := "fnStoreAgreesWithLastWriteModel", inPlace := ["slices.overlaps[string]", "slices.overlaps[*example.com/bailiwick/bailiwick/internal/kv.node]"], apart := false }
def FnStoreAgreesWithLastWriteModelSaid : Prop := fnStoreAgreesWithLastWriteModelRow.holds Try.pinned (OpenSpec.ofChange fnStoreAgreesWithLastWriteModelSpec)

/-- ITS FALSE NEIGHBOUR: 'it returns false'. Refute it at one input. -/
def fnStoreAgreesWithLastWriteModelWrong : ChangeSpec := { name := "fnStoreAgreesWithLastWriteModel", fn := fun _ => fun
  | [d1, d2, d3] => { results := [.lit (.bool false)], args := [d1, d2, d3] }
  | _ => none }
def FnStoreAgreesWithLastWriteModelWrongFalsely : Prop := fnStoreAgreesWithLastWriteModelRow.holds Try.pinned (OpenSpec.ofChange fnStoreAgreesWithLastWriteModelWrong)

/-- 'zzlaws_internal_kv_b1.FnPutChangesOnlyItsOwnKey': WHATEVER THE INPUT: true; the input reads as it did. -/
def fnPutChangesOnlyItsOwnKeySpec : ChangeSpec := { name := "fnPutChangesOnlyItsOwnKey", fn := fun _ => fun
  | [d1, d2, d3, d4, d5] => { results := [.lit (.bool true)], args := [d1, d2, d3, d4, d5] }
  | _ => none }
def fnPutChangesOnlyItsOwnKeyRow : OpenClaim := { program := "qxb6600882a", sum := "eba7852acb44ab9c6fead7e87c0abdc6d56e744f78ef2a6436a44704843deb5e", func := "example.com/bailiwick/bailiwick/zzlaws_internal_kv_b1.FnPutChangesOnlyItsOwnKey", spec := "fnPutChangesOnlyItsOwnKey", inPlace := ["slices.overlaps[string]", "slices.overlaps[*example.com/bailiwick/bailiwick/internal/kv.node]"], apart := false }
def FnPutChangesOnlyItsOwnKeySaid : Prop := fnPutChangesOnlyItsOwnKeyRow.holds Try.pinned (OpenSpec.ofChange fnPutChangesOnlyItsOwnKeySpec)

/-- ITS FALSE NEIGHBOUR: 'it returns false'. Refute it at one input. -/
def fnPutChangesOnlyItsOwnKeyWrong : ChangeSpec := { name := "fnPutChangesOnlyItsOwnKey", fn := fun _ => fun
  | [d1, d2, d3, d4, d5] => { results := [.lit (.bool false)], args := [d1, d2, d3, d4, d5] }
  | _ => none }
def FnPutChangesOnlyItsOwnKeyWrongFalsely : Prop := fnPutChangesOnlyItsOwnKeyRow.holds Try.pinned (OpenSpec.ofChange fnPutChangesOnlyItsOwnKeyWrong)

/-- 'zzlaws_internal_kv_b1.FnPutOrderOfDistinctKeysIsUnseen': WHATEVER THE INPUT: true; the input reads as it did. -/
def fnPutOrderOfDistinctKeysIsUnseenSpec : ChangeSpec := { name := "fnPutOrderOfDistinctKeysIsUnseen", fn := fun _ => fun
  | [d1, d2] => { results := [.lit (.bool true)], args := [d1, d2] }
  | _ => none }
def fnPutOrderOfDistinctKeysIsUnseenRow : OpenClaim := { program := "qxb6600882a", sum := "eba7852acb44ab9c6fead7e87c0abdc6d56e744f78ef2a6436a44704843deb5e", func := "example.com/bailiwick/bailiwick/zzlaws_internal_kv_b1.FnPutOrderOfDistinctKeysIsUnseen", spec := "fnPutOrderOfDistinctKeysIsUnseen", inPlace := ["slices.overlaps[string]", "slices.overlaps[*example.com/bailiwick/bailiwick/internal/kv.node]"], apart := false }
def FnPutOrderOfDistinctKeysIsUnseenSaid : Prop := fnPutOrderOfDistinctKeysIsUnseenRow.holds Try.pinned (OpenSpec.ofChange fnPutOrderOfDistinctKeysIsUnseenSpec)

/-- ITS FALSE NEIGHBOUR: 'it returns false'. Refute it at one input. -/
def fnPutOrderOfDistinctKeysIsUnseenWrong : ChangeSpec := { name := "fnPutOrderOfDistinctKeysIsUnseen", fn := fun _ => fun
  | [d1, d2] => { results := [.lit (.bool false)], args := [d1, d2] }
  | _ => none }
def FnPutOrderOfDistinctKeysIsUnseenWrongFalsely : Prop := fnPutOrderOfDistinctKeysIsUnseenRow.holds Try.pinned (OpenSpec.ofChange fnPutOrderOfDistinctKeysIsUnseenWrong)

/-- 'zzlaws_internal_kv_b1.FnPutManyOrderedKeysKeepsEveryOne': WHATEVER THE INPUT: true; the input reads as it did. -/
def fnPutManyOrderedKeysKeepsEveryOneSpec : ChangeSpec := { name := "fnPutManyOrderedKeysKeepsEveryOne", fn := fun _ => fun
  | [d1, d2] => { results := [.lit (.bool true)], args := [d1, d2] }
  | _ => none }
def fnPutManyOrderedKeysKeepsEveryOneRow : OpenClaim := { program := "qxb6600882a", sum := "eba7852acb44ab9c6fead7e87c0abdc6d56e744f78ef2a6436a44704843deb5e", func := "example.com/bailiwick/bailiwick/zzlaws_internal_kv_b1.FnPutManyOrderedKeysKeepsEveryOne", spec := "fnPutManyOrderedKeysKeepsEveryOne", inPlace := ["slices.overlaps[string]", "slices.overlaps[*example.com/bailiwick/bailiwick/internal/kv.node]"], apart := false }
def FnPutManyOrderedKeysKeepsEveryOneSaid : Prop := fnPutManyOrderedKeysKeepsEveryOneRow.holds Try.pinned (OpenSpec.ofChange fnPutManyOrderedKeysKeepsEveryOneSpec)

/-- ITS FALSE NEIGHBOUR: 'it returns false'. Refute it at one input. -/
def fnPutManyOrderedKeysKeepsEveryOneWrong : ChangeSpec := { name := "fnPutManyOrderedKeysKeepsEveryOne", fn := fun _ => fun
  | [d1, d2] => { results := [.lit (.bool false)], args := [d1, d2] }
  | _ => none }
def FnPutManyOrderedKeysKeepsEveryOneWrongFalsely : Prop := fnPutManyOrderedKeysKeepsEveryOneRow.holds Try.pinned (OpenSpec.ofChange fnPutManyOrderedKeysKeepsEveryOneWrong)

end Rows
end Go.Proofs.Qxb6600882a
