/-
  No cell of these rows narrows 'for every input' (looked for: loops, veiled, ifaces, maps, wideKeys, modest, calm, conditions, laid).
  DERIVED. THE GIVEN ROWS OF THIS SEAT. 4 by the template 'for every input the law returns true; each argument reads behind the call as it read before'; 0 by the template 'total and deterministic' (their statements: Qxb6608906aTotals.lean).
  GIVEN WITH THE SEED: the statements are not yours to turn. If you find one false, say at which input.
  Laid BY PROGRAM, IN A SANDBOX (cutbox-rows.mjs): the forced cells as the released guide's own fill.sh prints them over the translation 39ceed4e18cb8a73… (all of the seat's roots in one cut). By AI agents, Wed Nov 11 2026. No macro, syntax, notation, axiom, sorry.
-/
import Derived.Test.Qxb6608906aChecked
import GoSem.Claim
import GoSem.ClaimJoined
import GoSem.ClaimMapViews
import Derived.JoinedTies
import Derived.KernelRfl
namespace Go.Proofs.Qxb6608906a
/- THE CELL 'sum', in the pinned program and in every row, IS THE sha256 OF THE DUMP (.gsa) THAT Qxb6608906aProg.lean LOADS. Nothing in Lean hashes anything: it is a label: what it is worth is what the hold of that sum in a sandbox is worth. -/
noncomputable def Try.pinned : Pinned := { name := "qxb6608906a", sum := "39ceed4e18cb8a735b0d44022757cd3684dd2e645c1d71e7ddbcd90b75d6fc11", checked := Try.checked }
namespace Rows
def none {H : Type} : Left H := { results := [], args := [] }

/-- 'zzlaws_root_b1.FnIsFiniteAtTheMidpointOfTwo': WHATEVER THE INPUT: true; the input reads as it did. -/
def fnIsFiniteAtTheMidpointOfTwoSpec : ChangeSpec := { name := "fnIsFiniteAtTheMidpointOfTwo", fn := fun _ => fun
  | [d1, d2] => { results := [.lit (.bool true)], args := [d1, d2] }
  | _ => none }
def fnIsFiniteAtTheMidpointOfTwoRow : OpenClaim := { program := "qxb6608906a", sum := "39ceed4e18cb8a735b0d44022757cd3684dd2e645c1d71e7ddbcd90b75d6fc11", func := "example.com/gate4/gate4/zzlaws_root_b1.FnIsFiniteAtTheMidpointOfTwo", spec := "fnIsFiniteAtTheMidpointOfTwo", inPlace := ["math.Float64bits", "math.Float64frombits"], apart := false }
def FnIsFiniteAtTheMidpointOfTwoSaid : Prop := fnIsFiniteAtTheMidpointOfTwoRow.holds Try.pinned (OpenSpec.ofChange fnIsFiniteAtTheMidpointOfTwoSpec)

/-- ITS FALSE NEIGHBOUR: 'it returns false'. Refute it at one input. -/
def fnIsFiniteAtTheMidpointOfTwoWrong : ChangeSpec := { name := "fnIsFiniteAtTheMidpointOfTwo", fn := fun _ => fun
  | [d1, d2] => { results := [.lit (.bool false)], args := [d1, d2] }
  | _ => none }
def FnIsFiniteAtTheMidpointOfTwoWrongFalsely : Prop := fnIsFiniteAtTheMidpointOfTwoRow.holds Try.pinned (OpenSpec.ofChange fnIsFiniteAtTheMidpointOfTwoWrong)

/-- 'zzlaws_root_b1.FnIsFiniteWithinTheGreatestMagnitudeAndUnderNegation': WHATEVER THE INPUT: true; the input reads as it did. -/
def fnIsFiniteWithinTheGreatestMagnitudeAndUnderNegationSpec : ChangeSpec := { name := "fnIsFiniteWithinTheGreatestMagnitudeAndUnderNegation", fn := fun _ => fun
  | [d] => { results := [.lit (.bool true)], args := [d] }
  | _ => none }
def fnIsFiniteWithinTheGreatestMagnitudeAndUnderNegationRow : OpenClaim := { program := "qxb6608906a", sum := "39ceed4e18cb8a735b0d44022757cd3684dd2e645c1d71e7ddbcd90b75d6fc11", func := "example.com/gate4/gate4/zzlaws_root_b1.FnIsFiniteWithinTheGreatestMagnitudeAndUnderNegation", spec := "fnIsFiniteWithinTheGreatestMagnitudeAndUnderNegation", inPlace := ["math.Float64bits", "math.Float64frombits"], apart := false }
def FnIsFiniteWithinTheGreatestMagnitudeAndUnderNegationSaid : Prop := fnIsFiniteWithinTheGreatestMagnitudeAndUnderNegationRow.holds Try.pinned (OpenSpec.ofChange fnIsFiniteWithinTheGreatestMagnitudeAndUnderNegationSpec)

/-- ITS FALSE NEIGHBOUR: 'it returns false'. Refute it at one input. -/
def fnIsFiniteWithinTheGreatestMagnitudeAndUnderNegationWrong : ChangeSpec := { name := "fnIsFiniteWithinTheGreatestMagnitudeAndUnderNegation", fn := fun _ => fun
  | [d] => { results := [.lit (.bool false)], args := [d] }
  | _ => none }
def FnIsFiniteWithinTheGreatestMagnitudeAndUnderNegationWrongFalsely : Prop := fnIsFiniteWithinTheGreatestMagnitudeAndUnderNegationRow.holds Try.pinned (OpenSpec.ofChange fnIsFiniteWithinTheGreatestMagnitudeAndUnderNegationWrong)

/-- 'zzlaws_root_b1.FnChargeMatchesAllOrNoneWhateverTheOrder': WHATEVER THE INPUT: true; the input reads as it did. -/
def fnChargeMatchesAllOrNoneWhateverTheOrderSpec : ChangeSpec := { name := "fnChargeMatchesAllOrNoneWhateverTheOrder", fn := fun _ => fun
  | [d1, d2, d3, d4] => { results := [.lit (.bool true)], args := [d1, d2, d3, d4] }
  | _ => none }
def fnChargeMatchesAllOrNoneWhateverTheOrderRow : OpenClaim := { program := "qxb6608906a", sum := "39ceed4e18cb8a735b0d44022757cd3684dd2e645c1d71e7ddbcd90b75d6fc11", func := "example.com/gate4/gate4/zzlaws_root_b1.FnChargeMatchesAllOrNoneWhateverTheOrder", spec := "fnChargeMatchesAllOrNoneWhateverTheOrder", apart := false }
def FnChargeMatchesAllOrNoneWhateverTheOrderSaid : Prop := fnChargeMatchesAllOrNoneWhateverTheOrderRow.holds Try.pinned (OpenSpec.ofChange fnChargeMatchesAllOrNoneWhateverTheOrderSpec)

/-- ITS FALSE NEIGHBOUR: 'it returns false'. Refute it at one input. -/
def fnChargeMatchesAllOrNoneWhateverTheOrderWrong : ChangeSpec := { name := "fnChargeMatchesAllOrNoneWhateverTheOrder", fn := fun _ => fun
  | [d1, d2, d3, d4] => { results := [.lit (.bool false)], args := [d1, d2, d3, d4] }
  | _ => none }
def FnChargeMatchesAllOrNoneWhateverTheOrderWrongFalsely : Prop := fnChargeMatchesAllOrNoneWhateverTheOrderRow.holds Try.pinned (OpenSpec.ofChange fnChargeMatchesAllOrNoneWhateverTheOrderWrong)

/-- 'zzlaws_root_b1.FnChargeSplitsAtAnyCut': WHATEVER THE INPUT: true; the input reads as it did. -/
def fnChargeSplitsAtAnyCutSpec : ChangeSpec := { name := "fnChargeSplitsAtAnyCut", fn := fun _ => fun
  | [d1, d2, d3, d4] => { results := [.lit (.bool true)], args := [d1, d2, d3, d4] }
  | _ => none }
def fnChargeSplitsAtAnyCutRow : OpenClaim := { program := "qxb6608906a", sum := "39ceed4e18cb8a735b0d44022757cd3684dd2e645c1d71e7ddbcd90b75d6fc11", func := "example.com/gate4/gate4/zzlaws_root_b1.FnChargeSplitsAtAnyCut", spec := "fnChargeSplitsAtAnyCut", apart := false }
def FnChargeSplitsAtAnyCutSaid : Prop := fnChargeSplitsAtAnyCutRow.holds Try.pinned (OpenSpec.ofChange fnChargeSplitsAtAnyCutSpec)

/-- ITS FALSE NEIGHBOUR: 'it returns false'. Refute it at one input. -/
def fnChargeSplitsAtAnyCutWrong : ChangeSpec := { name := "fnChargeSplitsAtAnyCut", fn := fun _ => fun
  | [d1, d2, d3, d4] => { results := [.lit (.bool false)], args := [d1, d2, d3, d4] }
  | _ => none }
def FnChargeSplitsAtAnyCutWrongFalsely : Prop := fnChargeSplitsAtAnyCutRow.holds Try.pinned (OpenSpec.ofChange fnChargeSplitsAtAnyCutWrong)

end Rows
end Go.Proofs.Qxb6608906a
