/-
  NARROWER THAN 'FOR EVERY INPUT', by the rows' own cells (each row's printed sentence says how): FnAnchorIsATermConstraint: maps.
  DERIVED. THE GIVEN ROWS OF THIS SEAT. 1 by the template 'for every input the law returns true; each argument reads behind the call as it read before'; 0 by the template 'total and deterministic' (their statements: Qxb6609488aTotals.lean).
  GIVEN WITH THE SEED: the statements are not yours to turn. If you find one false, say at which input.
  Laid BY PROGRAM, IN A SANDBOX (cutbox-rows.mjs): the forced cells as the released guide's own fill.sh prints them over the translation 13492639c7f31395… (all of the seat's roots in one cut). By AI agents, Wed Nov 11 2026. No macro, syntax, notation, axiom, sorry.
-/
import Derived.Test.Qxb6609488aChecked
import GoSem.Claim
import GoSem.ClaimJoined
import GoSem.ClaimMapViews
import Derived.JoinedTies
import Derived.KernelRfl
namespace Go.Proofs.Qxb6609488a
/- THE CELL 'sum', in the pinned program and in every row, IS THE sha256 OF THE DUMP (.gsa) THAT Qxb6609488aProg.lean LOADS. Nothing in Lean hashes anything: it is a label: what it is worth is what the hold of that sum in a sandbox is worth. -/
noncomputable def Try.pinned : Pinned := { name := "qxb6609488a", sum := "13492639c7f3139536a04398c534a9c23a551cd406c8d22e1a38441ac76c82fc", checked := Try.checked }
namespace Rows
def none {H : Type} : Left H := { results := [], args := [] }

/-- 'zzlaws_root_b1.FnAnchorIsATermConstraint': WHATEVER THE INPUT: true; the input reads as it did. -/
def fnAnchorIsATermConstraintSpec : ChangeSpec := { name := "fnAnchorIsATermConstraint", fn := fun _ => fun
  | [d1, d2, d3, d4, d5] => { results := [.lit (.bool true)], args := [d1, d2, d3, d4, d5] }
  | _ => none }
def fnAnchorIsATermConstraintRow : OpenClaim := { program := "qxb6609488a", sum := "13492639c7f3139536a04398c534a9c23a551cd406c8d22e1a38441ac76c82fc", func := "example.com/moorage/moorage/zzlaws_root_b1.FnAnchorIsATermConstraint", spec := "fnAnchorIsATermConstraint", maps := true, apart := false }
def FnAnchorIsATermConstraintSaid : Prop := fnAnchorIsATermConstraintRow.holds Try.pinned (OpenSpec.ofChange fnAnchorIsATermConstraintSpec)

/-- ITS FALSE NEIGHBOUR: 'it returns false'. Refute it at one input. -/
def fnAnchorIsATermConstraintWrong : ChangeSpec := { name := "fnAnchorIsATermConstraint", fn := fun _ => fun
  | [d1, d2, d3, d4, d5] => { results := [.lit (.bool false)], args := [d1, d2, d3, d4, d5] }
  | _ => none }
def FnAnchorIsATermConstraintWrongFalsely : Prop := fnAnchorIsATermConstraintRow.holds Try.pinned (OpenSpec.ofChange fnAnchorIsATermConstraintWrong)

end Rows
end Go.Proofs.Qxb6609488a
