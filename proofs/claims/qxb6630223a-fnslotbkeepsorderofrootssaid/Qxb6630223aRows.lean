/-
  No cell of these rows narrows 'for every input' (looked for: loops, veiled, ifaces, maps, wideKeys, modest, calm, conditions, laid).
  DERIVED. THE GIVEN ROWS OF THIS SEAT. 2 by the template 'for every input the law returns true; each argument reads behind the call as it read before'; 0 by the template 'total and deterministic' (their statements: Qxb6630223aTotals.lean).
  GIVEN WITH THE SEED: the statements are not yours to turn. If you find one false, say at which input.
  Laid BY PROGRAM, IN A SANDBOX (cutbox-rows.mjs): the forced cells as the released guide's own fill.sh prints them over the translation be4f4553c122add8… (all of the seat's roots in one cut). By AI agents, Wed Nov 11 2026. No macro, syntax, notation, axiom, sorry.
-/
import Derived.Test.Qxb6630223aChecked
import GoSem.Claim
import GoSem.ClaimJoined
import GoSem.ClaimMapViews
import Derived.JoinedTies
import Derived.KernelRfl
namespace Go.Proofs.Qxb6630223a
/- THE CELL 'sum', in the pinned program and in every row, IS THE sha256 OF THE DUMP (.gsa) THAT Qxb6630223aProg.lean LOADS. Nothing in Lean hashes anything: it is a label: what it is worth is what the hold of that sum in a sandbox is worth. -/
noncomputable def Try.pinned : Pinned := { name := "qxb6630223a", sum := "be4f4553c122add8fa65935d3574ee160e01e13d918dd180d028e3c0570d8071", checked := Try.checked }
namespace Rows
def none {H : Type} : Left H := { results := [], args := [] }

/-- 'zzlaws_internal_diskimage_b1.FnSlotBIsNextAlignedSlotAndShiftsByBlocks': WHATEVER THE INPUT: true; the input reads as it did. -/
def fnSlotBIsNextAlignedSlotAndShiftsByBlocksSpec : ChangeSpec := { name := "fnSlotBIsNextAlignedSlotAndShiftsByBlocks", fn := fun _ => fun
  | [d1, d2, d3, d4, d5, d6, d7] => { results := [.lit (.bool true)], args := [d1, d2, d3, d4, d5, d6, d7] }
  | _ => none }
def fnSlotBIsNextAlignedSlotAndShiftsByBlocksRow : OpenClaim := { program := "qxb6630223a", sum := "be4f4553c122add8fa65935d3574ee160e01e13d918dd180d028e3c0570d8071", func := "example.com/flocksmith/flocksmith/zzlaws_internal_diskimage_b1.FnSlotBIsNextAlignedSlotAndShiftsByBlocks", spec := "fnSlotBIsNextAlignedSlotAndShiftsByBlocks", apart := false }
def FnSlotBIsNextAlignedSlotAndShiftsByBlocksSaid : Prop := fnSlotBIsNextAlignedSlotAndShiftsByBlocksRow.holds Try.pinned (OpenSpec.ofChange fnSlotBIsNextAlignedSlotAndShiftsByBlocksSpec)

/-- ITS FALSE NEIGHBOUR: 'it returns false'. Refute it at one input. -/
def fnSlotBIsNextAlignedSlotAndShiftsByBlocksWrong : ChangeSpec := { name := "fnSlotBIsNextAlignedSlotAndShiftsByBlocks", fn := fun _ => fun
  | [d1, d2, d3, d4, d5, d6, d7] => { results := [.lit (.bool false)], args := [d1, d2, d3, d4, d5, d6, d7] }
  | _ => none }
def FnSlotBIsNextAlignedSlotAndShiftsByBlocksWrongFalsely : Prop := fnSlotBIsNextAlignedSlotAndShiftsByBlocksRow.holds Try.pinned (OpenSpec.ofChange fnSlotBIsNextAlignedSlotAndShiftsByBlocksWrong)

/-- 'zzlaws_internal_diskimage_b1.FnSlotBKeepsOrderOfRoots': WHATEVER THE INPUT: true; the input reads as it did. -/
def fnSlotBKeepsOrderOfRootsSpec : ChangeSpec := { name := "fnSlotBKeepsOrderOfRoots", fn := fun _ => fun
  | [d1, d2, d3, d4, d5, d6, d7, d8, d9, d10, d11] => { results := [.lit (.bool true)], args := [d1, d2, d3, d4, d5, d6, d7, d8, d9, d10, d11] }
  | _ => none }
def fnSlotBKeepsOrderOfRootsRow : OpenClaim := { program := "qxb6630223a", sum := "be4f4553c122add8fa65935d3574ee160e01e13d918dd180d028e3c0570d8071", func := "example.com/flocksmith/flocksmith/zzlaws_internal_diskimage_b1.FnSlotBKeepsOrderOfRoots", spec := "fnSlotBKeepsOrderOfRoots", apart := false }
def FnSlotBKeepsOrderOfRootsSaid : Prop := fnSlotBKeepsOrderOfRootsRow.holds Try.pinned (OpenSpec.ofChange fnSlotBKeepsOrderOfRootsSpec)

/-- ITS FALSE NEIGHBOUR: 'it returns false'. Refute it at one input. -/
def fnSlotBKeepsOrderOfRootsWrong : ChangeSpec := { name := "fnSlotBKeepsOrderOfRoots", fn := fun _ => fun
  | [d1, d2, d3, d4, d5, d6, d7, d8, d9, d10, d11] => { results := [.lit (.bool false)], args := [d1, d2, d3, d4, d5, d6, d7, d8, d9, d10, d11] }
  | _ => none }
def FnSlotBKeepsOrderOfRootsWrongFalsely : Prop := fnSlotBKeepsOrderOfRootsRow.holds Try.pinned (OpenSpec.ofChange fnSlotBKeepsOrderOfRootsWrong)

end Rows
end Go.Proofs.Qxb6630223a
