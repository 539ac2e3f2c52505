/-
  No cell of these rows narrows 'for every input' (looked for: loops, veiled, ifaces, maps, wideKeys, modest, calm, conditions, laid).
  DERIVED. THE GIVEN ROWS OF THIS SEAT. 2 by the template 'for every input the law returns true; each argument reads behind the call as it read before'; 0 by the template 'total and deterministic' (their statements: Qxb6630097aTotals.lean).
  GIVEN WITH THE SEED: the statements are not yours to turn. If you find one false, say at which input.
  Laid BY PROGRAM, IN A SANDBOX (cutbox-rows.mjs): the forced cells as the released guide's own fill.sh prints them over the translation bcafd99b22c3cdbf… (all of the seat's roots in one cut). By AI agents, Wed Nov 11 2026. No macro, syntax, notation, axiom, sorry.
-/
import Derived.Test.Qxb6630097aChecked
import GoSem.Claim
import GoSem.ClaimJoined
import GoSem.ClaimMapViews
import Derived.JoinedTies
import Derived.KernelRfl
namespace Go.Proofs.Qxb6630097a
/- THE CELL 'sum', in the pinned program and in every row, IS THE sha256 OF THE DUMP (.gsa) THAT Qxb6630097aProg.lean LOADS. Nothing in Lean hashes anything: it is a label: what it is worth is what the hold of that sum in a sandbox is worth. -/
noncomputable def Try.pinned : Pinned := { name := "qxb6630097a", sum := "bcafd99b22c3cdbf6342cbaf5324b94a8790e6b934ae0e98a72fe7b3df600638", checked := Try.checked }
namespace Rows
def none {H : Type} : Left H := { results := [], args := [] }

/-- 'zzlaws_internal_types_b1.FnColumnReaderSpansAreRunsOfNamedColumns': WHATEVER THE INPUT: true; the input reads as it did. -/
def fnColumnReaderSpansAreRunsOfNamedColumnsSpec : ChangeSpec := { name := "fnColumnReaderSpansAreRunsOfNamedColumns", fn := fun _ => fun
  | [d1, d2] => { results := [.lit (.bool true)], args := [d1, d2] }
  | _ => none }
def fnColumnReaderSpansAreRunsOfNamedColumnsRow : OpenClaim := { program := "qxb6630097a", sum := "bcafd99b22c3cdbf6342cbaf5324b94a8790e6b934ae0e98a72fe7b3df600638", func := "example.com/granule/granule/zzlaws_internal_types_b1.FnColumnReaderSpansAreRunsOfNamedColumns", spec := "fnColumnReaderSpansAreRunsOfNamedColumns", unfollowed := true, recurses := true, apart := false }
def FnColumnReaderSpansAreRunsOfNamedColumnsSaid : Prop := fnColumnReaderSpansAreRunsOfNamedColumnsRow.holds Try.pinned (OpenSpec.ofChange fnColumnReaderSpansAreRunsOfNamedColumnsSpec)

/-- ITS FALSE NEIGHBOUR: 'it returns false'. Refute it at one input. -/
def fnColumnReaderSpansAreRunsOfNamedColumnsWrong : ChangeSpec := { name := "fnColumnReaderSpansAreRunsOfNamedColumns", fn := fun _ => fun
  | [d1, d2] => { results := [.lit (.bool false)], args := [d1, d2] }
  | _ => none }
def FnColumnReaderSpansAreRunsOfNamedColumnsWrongFalsely : Prop := fnColumnReaderSpansAreRunsOfNamedColumnsRow.holds Try.pinned (OpenSpec.ofChange fnColumnReaderSpansAreRunsOfNamedColumnsWrong)

/-- 'zzlaws_internal_types_b1.FnColumnReaderOfJoinedListIsUnionOfParts': WHATEVER THE INPUT: true; the input reads as it did. -/
def fnColumnReaderOfJoinedListIsUnionOfPartsSpec : ChangeSpec := { name := "fnColumnReaderOfJoinedListIsUnionOfParts", fn := fun _ => fun
  | [d1, d2, d3] => { results := [.lit (.bool true)], args := [d1, d2, d3] }
  | _ => none }
def fnColumnReaderOfJoinedListIsUnionOfPartsRow : OpenClaim := { program := "qxb6630097a", sum := "bcafd99b22c3cdbf6342cbaf5324b94a8790e6b934ae0e98a72fe7b3df600638", func := "example.com/granule/granule/zzlaws_internal_types_b1.FnColumnReaderOfJoinedListIsUnionOfParts", spec := "fnColumnReaderOfJoinedListIsUnionOfParts", unfollowed := true, recurses := true, apart := false }
def FnColumnReaderOfJoinedListIsUnionOfPartsSaid : Prop := fnColumnReaderOfJoinedListIsUnionOfPartsRow.holds Try.pinned (OpenSpec.ofChange fnColumnReaderOfJoinedListIsUnionOfPartsSpec)

/-- ITS FALSE NEIGHBOUR: 'it returns false'. Refute it at one input. -/
def fnColumnReaderOfJoinedListIsUnionOfPartsWrong : ChangeSpec := { name := "fnColumnReaderOfJoinedListIsUnionOfParts", fn := fun _ => fun
  | [d1, d2, d3] => { results := [.lit (.bool false)], args := [d1, d2, d3] }
  | _ => none }
def FnColumnReaderOfJoinedListIsUnionOfPartsWrongFalsely : Prop := fnColumnReaderOfJoinedListIsUnionOfPartsRow.holds Try.pinned (OpenSpec.ofChange fnColumnReaderOfJoinedListIsUnionOfPartsWrong)

end Rows
end Go.Proofs.Qxb6630097a
