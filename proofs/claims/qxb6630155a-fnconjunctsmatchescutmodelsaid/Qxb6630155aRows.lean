/-
  No cell of these rows narrows 'for every input' (looked for: loops, veiled, ifaces, maps, wideKeys, modest, calm, conditions, laid).
  DERIVED. THE GIVEN ROWS OF THIS SEAT. 2 by the template 'for every input the law returns true; each argument reads behind the call as it read before'; 0 by the template 'total and deterministic' (their statements: Qxb6630155aTotals.lean).
  GIVEN WITH THE SEED: the statements are not yours to turn. If you find one false, say at which input.
  Laid BY PROGRAM, IN A SANDBOX (cutbox-rows.mjs): the forced cells as the released guide's own fill.sh prints them over the translation e192be758a0973be… (all of the seat's roots in one cut). By AI agents, Wed Nov 11 2026. No macro, syntax, notation, axiom, sorry.
-/
import Derived.Test.Qxb6630155aChecked
import GoSem.Claim
import GoSem.ClaimJoined
import GoSem.ClaimMapViews
import Derived.JoinedTies
import Derived.KernelRfl
namespace Go.Proofs.Qxb6630155a
/- THE CELL 'sum', in the pinned program and in every row, IS THE sha256 OF THE DUMP (.gsa) THAT Qxb6630155aProg.lean LOADS. Nothing in Lean hashes anything: it is a label: what it is worth is what the hold of that sum in a sandbox is worth. -/
noncomputable def Try.pinned : Pinned := { name := "qxb6630155a", sum := "e192be758a0973befe7c2f193928171ec5b8b40571bbeeb2bc482d873d8fcdbd", checked := Try.checked }
namespace Rows
def none {H : Type} : Left H := { results := [], args := [] }

/-- 'zzlaws_internal_sqlparse_b1.FnConjunctsMatchesCutModel': WHATEVER THE INPUT: true; the input reads as it did. -/
def fnConjunctsMatchesCutModelSpec : ChangeSpec := { name := "fnConjunctsMatchesCutModel", fn := fun _ => fun
  | [d1, d2, d3] => { results := [.lit (.bool true)], args := [d1, d2, d3] }
  | _ => none }
def fnConjunctsMatchesCutModelRow : OpenClaim := { program := "qxb6630155a", sum := "e192be758a0973befe7c2f193928171ec5b8b40571bbeeb2bc482d873d8fcdbd", func := "example.com/holdfast/holdfast/zzlaws_internal_sqlparse_b1.FnConjunctsMatchesCutModel", spec := "fnConjunctsMatchesCutModel", apart := false }
def FnConjunctsMatchesCutModelSaid : Prop := fnConjunctsMatchesCutModelRow.holds Try.pinned (OpenSpec.ofChange fnConjunctsMatchesCutModelSpec)

/-- ITS FALSE NEIGHBOUR: 'it returns false'. Refute it at one input. -/
def fnConjunctsMatchesCutModelWrong : ChangeSpec := { name := "fnConjunctsMatchesCutModel", fn := fun _ => fun
  | [d1, d2, d3] => { results := [.lit (.bool false)], args := [d1, d2, d3] }
  | _ => none }
def FnConjunctsMatchesCutModelWrongFalsely : Prop := fnConjunctsMatchesCutModelRow.holds Try.pinned (OpenSpec.ofChange fnConjunctsMatchesCutModelWrong)

/-- 'zzlaws_internal_sqlparse_b1.FnConjunctsTermsTileSpanAndStayWhole': WHATEVER THE INPUT: true; the input reads as it did. -/
def fnConjunctsTermsTileSpanAndStayWholeSpec : ChangeSpec := { name := "fnConjunctsTermsTileSpanAndStayWhole", fn := fun _ => fun
  | [d1, d2, d3] => { results := [.lit (.bool true)], args := [d1, d2, d3] }
  | _ => none }
def fnConjunctsTermsTileSpanAndStayWholeRow : OpenClaim := { program := "qxb6630155a", sum := "e192be758a0973befe7c2f193928171ec5b8b40571bbeeb2bc482d873d8fcdbd", func := "example.com/holdfast/holdfast/zzlaws_internal_sqlparse_b1.FnConjunctsTermsTileSpanAndStayWhole", spec := "fnConjunctsTermsTileSpanAndStayWhole", apart := false }
def FnConjunctsTermsTileSpanAndStayWholeSaid : Prop := fnConjunctsTermsTileSpanAndStayWholeRow.holds Try.pinned (OpenSpec.ofChange fnConjunctsTermsTileSpanAndStayWholeSpec)

/-- ITS FALSE NEIGHBOUR: 'it returns false'. Refute it at one input. -/
def fnConjunctsTermsTileSpanAndStayWholeWrong : ChangeSpec := { name := "fnConjunctsTermsTileSpanAndStayWhole", fn := fun _ => fun
  | [d1, d2, d3] => { results := [.lit (.bool false)], args := [d1, d2, d3] }
  | _ => none }
def FnConjunctsTermsTileSpanAndStayWholeWrongFalsely : Prop := fnConjunctsTermsTileSpanAndStayWholeRow.holds Try.pinned (OpenSpec.ofChange fnConjunctsTermsTileSpanAndStayWholeWrong)

end Rows
end Go.Proofs.Qxb6630155a
