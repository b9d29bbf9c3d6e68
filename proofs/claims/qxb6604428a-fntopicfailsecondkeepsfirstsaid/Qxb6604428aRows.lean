/-
  No cell of these rows narrows 'for every input' (looked for: loops, veiled, ifaces, maps, wideKeys, modest, calm, conditions, laid).
  DERIVED. THE GIVEN ROWS OF THIS SEAT. 5 by the template 'for every input the law returns true; each argument reads behind the call as it read before'; 0 by the template 'total and deterministic' (their statements: Qxb6604428aTotals.lean).
  GIVEN WITH THE SEED: the statements are not yours to turn. If you find one false, say at which input.
  Laid BY PROGRAM, IN A SANDBOX (cutbox-rows.mjs): the forced cells as the released guide's own fill.sh prints them over the translation e5e19be95daa49fc… (all of the seat's roots in one cut). By AI agents, Wed Nov 11 2026. No macro, syntax, notation, axiom, sorry.
-/
import Derived.Test.Qxb6604428aChecked
import GoSem.Claim
import GoSem.ClaimJoined
import GoSem.ClaimMapViews
import Derived.JoinedTies
import Derived.KernelRfl
namespace Go.Proofs.Qxb6604428a
/- THE CELL 'sum', in the pinned program and in every row, IS THE sha256 OF THE DUMP (.gsa) THAT Qxb6604428aProg.lean LOADS. Nothing in Lean hashes anything: it is a label: what it is worth is what the hold of that sum in a sandbox is worth. -/
noncomputable def Try.pinned : Pinned := { name := "qxb6604428a", sum := "e5e19be95daa49fc44e267e3d4c552f183771dabc46dcae6f2b80aa31042c73b", checked := Try.checked }
namespace Rows
def none {H : Type} : Left H := { results := [], args := [] }

/-- 'zzlaws_store_b1.FnStoredAtIndexLookup': WHATEVER THE INPUT: true; the input reads as it did. -/
def fnStoredAtIndexLookupSpec : ChangeSpec := { name := "fnStoredAtIndexLookup", fn := fun _ => fun
  | [d1, d2, d3] => { results := [.lit (.bool true)], args := [d1, d2, d3] }
  | _ => none }
def fnStoredAtIndexLookupRow : OpenClaim := { program := "qxb6604428a", sum := "e5e19be95daa49fc44e267e3d4c552f183771dabc46dcae6f2b80aa31042c73b", func := "example.com/oncemark/oncemark/zzlaws_store_b1.FnStoredAtIndexLookup", spec := "fnStoredAtIndexLookup", apart := false }
def FnStoredAtIndexLookupSaid : Prop := fnStoredAtIndexLookupRow.holds Try.pinned (OpenSpec.ofChange fnStoredAtIndexLookupSpec)

/-- ITS FALSE NEIGHBOUR: 'it returns false'. Refute it at one input. -/
def fnStoredAtIndexLookupWrong : ChangeSpec := { name := "fnStoredAtIndexLookup", fn := fun _ => fun
  | [d1, d2, d3] => { results := [.lit (.bool false)], args := [d1, d2, d3] }
  | _ => none }
def FnStoredAtIndexLookupWrongFalsely : Prop := fnStoredAtIndexLookupRow.holds Try.pinned (OpenSpec.ofChange fnStoredAtIndexLookupWrong)

/-- 'zzlaws_store_b1.FnRoomAfterCaseTable': WHATEVER THE INPUT: true; the input reads as it did. -/
def fnRoomAfterCaseTableSpec : ChangeSpec := { name := "fnRoomAfterCaseTable", fn := fun _ => fun
  | [d] => { results := [.lit (.bool true)], args := [d] }
  | _ => none }
def fnRoomAfterCaseTableRow : OpenClaim := { program := "qxb6604428a", sum := "e5e19be95daa49fc44e267e3d4c552f183771dabc46dcae6f2b80aa31042c73b", func := "example.com/oncemark/oncemark/zzlaws_store_b1.FnRoomAfterCaseTable", spec := "fnRoomAfterCaseTable", apart := false }
def FnRoomAfterCaseTableSaid : Prop := fnRoomAfterCaseTableRow.holds Try.pinned (OpenSpec.ofChange fnRoomAfterCaseTableSpec)

/-- ITS FALSE NEIGHBOUR: 'it returns false'. Refute it at one input. -/
def fnRoomAfterCaseTableWrong : ChangeSpec := { name := "fnRoomAfterCaseTable", fn := fun _ => fun
  | [d] => { results := [.lit (.bool false)], args := [d] }
  | _ => none }
def FnRoomAfterCaseTableWrongFalsely : Prop := fnRoomAfterCaseTableRow.holds Try.pinned (OpenSpec.ofChange fnRoomAfterCaseTableWrong)

/-- 'zzlaws_store_b1.FnRoomAfterMonotoneBounded': WHATEVER THE INPUT: true; the input reads as it did. -/
def fnRoomAfterMonotoneBoundedSpec : ChangeSpec := { name := "fnRoomAfterMonotoneBounded", fn := fun _ => fun
  | [d1, d2] => { results := [.lit (.bool true)], args := [d1, d2] }
  | _ => none }
def fnRoomAfterMonotoneBoundedRow : OpenClaim := { program := "qxb6604428a", sum := "e5e19be95daa49fc44e267e3d4c552f183771dabc46dcae6f2b80aa31042c73b", func := "example.com/oncemark/oncemark/zzlaws_store_b1.FnRoomAfterMonotoneBounded", spec := "fnRoomAfterMonotoneBounded", apart := false }
def FnRoomAfterMonotoneBoundedSaid : Prop := fnRoomAfterMonotoneBoundedRow.holds Try.pinned (OpenSpec.ofChange fnRoomAfterMonotoneBoundedSpec)

/-- ITS FALSE NEIGHBOUR: 'it returns false'. Refute it at one input. -/
def fnRoomAfterMonotoneBoundedWrong : ChangeSpec := { name := "fnRoomAfterMonotoneBounded", fn := fun _ => fun
  | [d1, d2] => { results := [.lit (.bool false)], args := [d1, d2] }
  | _ => none }
def FnRoomAfterMonotoneBoundedWrongFalsely : Prop := fnRoomAfterMonotoneBoundedRow.holds Try.pinned (OpenSpec.ofChange fnRoomAfterMonotoneBoundedWrong)

/-- 'zzlaws_store_b1.FnTopicFailEndsAll': WHATEVER THE INPUT: true; the input reads as it did. -/
def fnTopicFailEndsAllSpec : ChangeSpec := { name := "fnTopicFailEndsAll", fn := fun _ => fun
  | [d1, d2, d3] => { results := [.lit (.bool true)], args := [d1, d2, d3] }
  | _ => none }
def fnTopicFailEndsAllRow : OpenClaim := { program := "qxb6604428a", sum := "e5e19be95daa49fc44e267e3d4c552f183771dabc46dcae6f2b80aa31042c73b", func := "example.com/oncemark/oncemark/zzlaws_store_b1.FnTopicFailEndsAll", spec := "fnTopicFailEndsAll", inPlace := ["sync/atomic.StoreUint32", "sync/atomic.LoadUint32"], apart := false }
def FnTopicFailEndsAllSaid : Prop := fnTopicFailEndsAllRow.holds Try.pinned (OpenSpec.ofChange fnTopicFailEndsAllSpec)

/-- ITS FALSE NEIGHBOUR: 'it returns false'. Refute it at one input. -/
def fnTopicFailEndsAllWrong : ChangeSpec := { name := "fnTopicFailEndsAll", fn := fun _ => fun
  | [d1, d2, d3] => { results := [.lit (.bool false)], args := [d1, d2, d3] }
  | _ => none }
def FnTopicFailEndsAllWrongFalsely : Prop := fnTopicFailEndsAllRow.holds Try.pinned (OpenSpec.ofChange fnTopicFailEndsAllWrong)

/-- 'zzlaws_store_b1.FnTopicFailSecondKeepsFirst': WHATEVER THE INPUT: true; the input reads as it did. -/
def fnTopicFailSecondKeepsFirstSpec : ChangeSpec := { name := "fnTopicFailSecondKeepsFirst", fn := fun _ => fun
  | [d1, d2, d3] => { results := [.lit (.bool true)], args := [d1, d2, d3] }
  | _ => none }
def fnTopicFailSecondKeepsFirstRow : OpenClaim := { program := "qxb6604428a", sum := "e5e19be95daa49fc44e267e3d4c552f183771dabc46dcae6f2b80aa31042c73b", func := "example.com/oncemark/oncemark/zzlaws_store_b1.FnTopicFailSecondKeepsFirst", spec := "fnTopicFailSecondKeepsFirst", inPlace := ["sync/atomic.StoreUint32", "sync/atomic.LoadUint32"], apart := false }
def FnTopicFailSecondKeepsFirstSaid : Prop := fnTopicFailSecondKeepsFirstRow.holds Try.pinned (OpenSpec.ofChange fnTopicFailSecondKeepsFirstSpec)

/-- ITS FALSE NEIGHBOUR: 'it returns false'. Refute it at one input. -/
def fnTopicFailSecondKeepsFirstWrong : ChangeSpec := { name := "fnTopicFailSecondKeepsFirst", fn := fun _ => fun
  | [d1, d2, d3] => { results := [.lit (.bool false)], args := [d1, d2, d3] }
  | _ => none }
def FnTopicFailSecondKeepsFirstWrongFalsely : Prop := fnTopicFailSecondKeepsFirstRow.holds Try.pinned (OpenSpec.ofChange fnTopicFailSecondKeepsFirstWrong)

end Rows
end Go.Proofs.Qxb6604428a
