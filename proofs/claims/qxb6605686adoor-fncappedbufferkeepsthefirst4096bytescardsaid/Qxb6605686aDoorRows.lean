/-
  NARROWER THAN 'FOR EVERY INPUT', by the rows' own cells (each row's printed sentence says how): FnCappedBufferKeepsTheFirst4096Bytes: laid · FnCappedBufferSplitDoesNotMatter: laid.
  DERIVED. THE GIVEN ROWS OF THIS SEAT. 2 by the template 'for every input the law returns true; each argument reads behind the call as it read before'; 0 by the template 'total and deterministic' (their statements: Qxb6605686aDoorTotals.lean).
  GIVEN WITH THE SEED: the statements are not yours to turn. If you find one false, say at which input.
  Laid BY PROGRAM, IN A SANDBOX (cutbox-rows.mjs): the forced cells as the released guide's own fill.sh prints them over the translation 93b13357023211d8… (all of the seat's roots in one cut). By AI agents, Wed Nov 11 2026. No macro, syntax, notation, axiom, sorry.
-/
import Derived.Test.Qxb6605686aDoorChecked
import GoSem.Claim
import GoSem.ClaimJoined
import GoSem.ClaimMapViews
import Derived.JoinedTies
import Derived.KernelRfl
namespace Go.Proofs.Qxb6605686aDoor
/- THE CELL 'sum', in the pinned program and in every row, IS THE sha256 OF THE DUMP (.gsa) THAT Qxb6605686aDoorProg.lean LOADS. Nothing in Lean hashes anything: it is a label: what it is worth is what the hold of that sum in a sandbox is worth. -/
noncomputable def Tryd.pinned : Pinned := { name := "qxb6605686adoor", sum := "93b13357023211d8880025fe0861058177d3b9fae518807f39a6ba1c309c1408", checked := Tryd.checked }
namespace Rows
def none {H : Type} : Left H := { results := [], args := [] }

/- WHAT THE LISTED PACKAGE-LEVEL VARIABLES READ AS WHEN THE CALL BEGINS. Each datum BY PROGRAM (the guide's laid-datum.mjs) off the statement by which the dump's own 'gosem.cut.vars' lays the variable. In a bare row this is a premise. The card (Qxb6605686aDoorCards.lean) ties it to the program's text. -/
def laid_bytes_ErrTooLarge {H : Type} : DataW H := .iface "*errors.errorString" (.ptr (.agg [.lit (.string [98, 121, 116, 101, 115, 46, 66, 117, 102, 102, 101, 114, 58, 32, 116, 111, 111, 32, 108, 97, 114, 103, 101])]))

/-- 'zzlaws_root_b1.FnCappedBufferKeepsTheFirst4096Bytes': WHATEVER THE INPUT: true; the input reads as it did. -/
def fnCappedBufferKeepsTheFirst4096BytesSpec : ChangeSpec := { name := "fnCappedBufferKeepsTheFirst4096Bytes", fn := fun _ => fun
  | [d] => { results := [.lit (.bool true)], args := [d] }
  | _ => none }
def fnCappedBufferKeepsTheFirst4096BytesRow : OpenClaim := { program := "qxb6605686adoor", sum := "93b13357023211d8880025fe0861058177d3b9fae518807f39a6ba1c309c1408", func := "example.com/naperville/naperville/zzlaws_root_b1.FnCappedBufferKeepsTheFirst4096Bytes", spec := "fnCappedBufferKeepsTheFirst4096Bytes", named := ["bytes.ErrTooLarge"], apart := false, laid := [("bytes.ErrTooLarge", laid_bytes_ErrTooLarge)] }
def FnCappedBufferKeepsTheFirst4096BytesSaid : Prop := fnCappedBufferKeepsTheFirst4096BytesRow.holds Tryd.pinned (OpenSpec.ofChange fnCappedBufferKeepsTheFirst4096BytesSpec)

/-- ITS FALSE NEIGHBOUR: 'it returns false'. Refute it at one input. -/
def fnCappedBufferKeepsTheFirst4096BytesWrong : ChangeSpec := { name := "fnCappedBufferKeepsTheFirst4096Bytes", fn := fun _ => fun
  | [d] => { results := [.lit (.bool false)], args := [d] }
  | _ => none }
def FnCappedBufferKeepsTheFirst4096BytesWrongFalsely : Prop := fnCappedBufferKeepsTheFirst4096BytesRow.holds Tryd.pinned (OpenSpec.ofChange fnCappedBufferKeepsTheFirst4096BytesWrong)

/-- 'zzlaws_root_b1.FnCappedBufferSplitDoesNotMatter': WHATEVER THE INPUT: true; the input reads as it did. -/
def fnCappedBufferSplitDoesNotMatterSpec : ChangeSpec := { name := "fnCappedBufferSplitDoesNotMatter", fn := fun _ => fun
  | [d1, d2] => { results := [.lit (.bool true)], args := [d1, d2] }
  | _ => none }
def fnCappedBufferSplitDoesNotMatterRow : OpenClaim := { program := "qxb6605686adoor", sum := "93b13357023211d8880025fe0861058177d3b9fae518807f39a6ba1c309c1408", func := "example.com/naperville/naperville/zzlaws_root_b1.FnCappedBufferSplitDoesNotMatter", spec := "fnCappedBufferSplitDoesNotMatter", named := ["bytes.ErrTooLarge"], apart := false, laid := [("bytes.ErrTooLarge", laid_bytes_ErrTooLarge)] }
def FnCappedBufferSplitDoesNotMatterSaid : Prop := fnCappedBufferSplitDoesNotMatterRow.holds Tryd.pinned (OpenSpec.ofChange fnCappedBufferSplitDoesNotMatterSpec)

/-- ITS FALSE NEIGHBOUR: 'it returns false'. Refute it at one input. -/
def fnCappedBufferSplitDoesNotMatterWrong : ChangeSpec := { name := "fnCappedBufferSplitDoesNotMatter", fn := fun _ => fun
  | [d1, d2] => { results := [.lit (.bool false)], args := [d1, d2] }
  | _ => none }
def FnCappedBufferSplitDoesNotMatterWrongFalsely : Prop := fnCappedBufferSplitDoesNotMatterRow.holds Tryd.pinned (OpenSpec.ofChange fnCappedBufferSplitDoesNotMatterWrong)

end Rows
end Go.Proofs.Qxb6605686aDoor
