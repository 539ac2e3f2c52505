/-
  No cell of these rows narrows 'for every input' (looked for: loops, veiled, ifaces, maps, wideKeys, modest, calm, conditions, laid).
  DERIVED. THE GIVEN ROWS OF THIS SEAT. 2 by the template 'for every input the law returns true; each argument reads behind the call as it read before'; 0 by the template 'total and deterministic' (their statements: Qxb6630199aTotals.lean).
  GIVEN WITH THE SEED: the statements are not yours to turn. If you find one false, say at which input.
  Laid BY PROGRAM, IN A SANDBOX (cutbox-rows.mjs): the forced cells as the released guide's own fill.sh prints them over the translation 53a1f7bc6d951d74… (all of the seat's roots in one cut). By AI agents, Wed Nov 11 2026. No macro, syntax, notation, axiom, sorry.
-/
import Derived.Test.Qxb6630199aChecked
import GoSem.Claim
import GoSem.ClaimJoined
import GoSem.ClaimMapViews
import Derived.JoinedTies
import Derived.KernelRfl
namespace Go.Proofs.Qxb6630199a
/- THE CELL 'sum', in the pinned program and in every row, IS THE sha256 OF THE DUMP (.gsa) THAT Qxb6630199aProg.lean LOADS. Nothing in Lean hashes anything: it is a label: what it is worth is what the hold of that sum in a sandbox is worth. -/
noncomputable def Try.pinned : Pinned := { name := "qxb6630199a", sum := "53a1f7bc6d951d743f40c68d60791c757f36f84d0be88167bfbe7bd3f2a4f232", checked := Try.checked }
namespace Rows
def none {H : Type} : Left H := { results := [], args := [] }

/-- 'zzlaws_root_b1.FnNumberReadsLastDigitRun': WHATEVER THE INPUT: true; the input reads as it did. -/
def fnNumberReadsLastDigitRunSpec : ChangeSpec := { name := "fnNumberReadsLastDigitRun", fn := fun _ => fun
  | [d] => { results := [.lit (.bool true)], args := [d] }
  | _ => none }
def fnNumberReadsLastDigitRunRow : OpenClaim := { program := "qxb6630199a", sum := "53a1f7bc6d951d743f40c68d60791c757f36f84d0be88167bfbe7bd3f2a4f232", func := "example.com/hasp/hasp/zzlaws_root_b1.FnNumberReadsLastDigitRun", spec := "fnNumberReadsLastDigitRun", apart := false }
def FnNumberReadsLastDigitRunSaid : Prop := fnNumberReadsLastDigitRunRow.holds Try.pinned (OpenSpec.ofChange fnNumberReadsLastDigitRunSpec)

/-- ITS FALSE NEIGHBOUR: 'it returns false'. Refute it at one input. -/
def fnNumberReadsLastDigitRunWrong : ChangeSpec := { name := "fnNumberReadsLastDigitRun", fn := fun _ => fun
  | [d] => { results := [.lit (.bool false)], args := [d] }
  | _ => none }
def FnNumberReadsLastDigitRunWrongFalsely : Prop := fnNumberReadsLastDigitRunRow.holds Try.pinned (OpenSpec.ofChange fnNumberReadsLastDigitRunWrong)

/-- 'zzlaws_root_b1.FnNumberOfJoinedText': WHATEVER THE INPUT: true; the input reads as it did. -/
def fnNumberOfJoinedTextSpec : ChangeSpec := { name := "fnNumberOfJoinedText", fn := fun _ => fun
  | [d1, d2] => { results := [.lit (.bool true)], args := [d1, d2] }
  | _ => none }
def fnNumberOfJoinedTextRow : OpenClaim := { program := "qxb6630199a", sum := "53a1f7bc6d951d743f40c68d60791c757f36f84d0be88167bfbe7bd3f2a4f232", func := "example.com/hasp/hasp/zzlaws_root_b1.FnNumberOfJoinedText", spec := "fnNumberOfJoinedText", apart := false }
def FnNumberOfJoinedTextSaid : Prop := fnNumberOfJoinedTextRow.holds Try.pinned (OpenSpec.ofChange fnNumberOfJoinedTextSpec)

/-- ITS FALSE NEIGHBOUR: 'it returns false'. Refute it at one input. -/
def fnNumberOfJoinedTextWrong : ChangeSpec := { name := "fnNumberOfJoinedText", fn := fun _ => fun
  | [d1, d2] => { results := [.lit (.bool false)], args := [d1, d2] }
  | _ => none }
def FnNumberOfJoinedTextWrongFalsely : Prop := fnNumberOfJoinedTextRow.holds Try.pinned (OpenSpec.ofChange fnNumberOfJoinedTextWrong)

end Rows
end Go.Proofs.Qxb6630199a
