/-
  No cell of these rows narrows 'for every input' (looked for: loops, veiled, ifaces, maps, wideKeys, modest, calm, conditions, laid).
  DERIVED. THE GIVEN ROWS OF THIS SEAT. 1 by the template 'for every input the law returns true; each argument reads behind the call as it read before'; 0 by the template 'total and deterministic' (their statements: Qxb6605686aTotals.lean).
  GIVEN WITH THE SEED: the statements are not yours to turn. If you find one false, say at which input.
  Laid BY PROGRAM, IN A SANDBOX (cutbox-rows.mjs): the forced cells as the released guide's own fill.sh prints them over the translation 297948dfb3f4668d… (all of the seat's roots in one cut). By AI agents, Wed Nov 11 2026. No macro, syntax, notation, axiom, sorry.
-/
import Derived.Test.Qxb6605686aChecked
import GoSem.Claim
import GoSem.ClaimJoined
import GoSem.ClaimMapViews
import Derived.JoinedTies
import Derived.KernelRfl
namespace Go.Proofs.Qxb6605686a
/- THE CELL 'sum', in the pinned program and in every row, IS THE sha256 OF THE DUMP (.gsa) THAT Qxb6605686aProg.lean LOADS. Nothing in Lean hashes anything: it is a label: what it is worth is what the hold of that sum in a sandbox is worth. -/
noncomputable def Try.pinned : Pinned := { name := "qxb6605686a", sum := "297948dfb3f4668d834f3799a609a2971f09c643705597048976b05e37d32add", checked := Try.checked }
namespace Rows
def none {H : Type} : Left H := { results := [], args := [] }

/-- 'zzlaws_root_b1.FnFindingFallsInExactlyOneClass': WHATEVER THE INPUT: true; the input reads as it did. -/
def fnFindingFallsInExactlyOneClassSpec : ChangeSpec := { name := "fnFindingFallsInExactlyOneClass", fn := fun _ => fun
  | [d1, d2, d3] => { results := [.lit (.bool true)], args := [d1, d2, d3] }
  | _ => none }
def fnFindingFallsInExactlyOneClassRow : OpenClaim := { program := "qxb6605686a", sum := "297948dfb3f4668d834f3799a609a2971f09c643705597048976b05e37d32add", func := "example.com/naperville/naperville/zzlaws_root_b1.FnFindingFallsInExactlyOneClass", spec := "fnFindingFallsInExactlyOneClass", apart := false }
def FnFindingFallsInExactlyOneClassSaid : Prop := fnFindingFallsInExactlyOneClassRow.holds Try.pinned (OpenSpec.ofChange fnFindingFallsInExactlyOneClassSpec)

/-- ITS FALSE NEIGHBOUR: 'it returns false'. Refute it at one input. -/
def fnFindingFallsInExactlyOneClassWrong : ChangeSpec := { name := "fnFindingFallsInExactlyOneClass", fn := fun _ => fun
  | [d1, d2, d3] => { results := [.lit (.bool false)], args := [d1, d2, d3] }
  | _ => none }
def FnFindingFallsInExactlyOneClassWrongFalsely : Prop := fnFindingFallsInExactlyOneClassRow.holds Try.pinned (OpenSpec.ofChange fnFindingFallsInExactlyOneClassWrong)

end Rows
end Go.Proofs.Qxb6605686a
