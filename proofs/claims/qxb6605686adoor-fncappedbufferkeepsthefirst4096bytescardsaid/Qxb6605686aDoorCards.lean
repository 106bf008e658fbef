/-
  DERIVED. GIVEN WITH THE SEED: THE CARDS: each row of Qxb6605686aDoorRows.lean that lists a variable, with what it lists TIED to the program's text (the seventh form; the later family's looks); each row that meets fmt, with fmt's text TOLD by the authors' own Lean function (tested against real Go, not proved from fmt's source: count such statements apart). THE CARD IS WHAT COUNTS. Prove the row's statement (the work); the ties are given (Qxb6605686aDoorTie.lean); close each card by the builder's one call (the guide's Derived/Test/ToyasCard.lean, 'card_holds'). Laid BY PROGRAM, IN A SANDBOX (cutbox-door.mjs). By AI agents, Wed Nov 11 2026. No macro, syntax, notation, axiom, sorry.
-/
import Derived.Test.Qxb6605686aDoorRows
import GoSem.ClaimSeven
namespace Go.Proofs.Qxb6605686aDoor
namespace Rows

/-- THE TIED CARD OF 'zzlaws_root_b1.FnCappedBufferKeepsTheFirst4096Bytes'. -/
def fnCappedBufferKeepsTheFirst4096BytesCard : Claim7 := { stood := { row := fnCappedBufferKeepsTheFirst4096BytesRow, standIns := [], harness := (true, "8b5edbb4f6e2ac810762b31015990c4f9d9da4a355d728e5efa02a1aaf8aafa4"), looks := false }, kinds := [], alts := [], laidByText := true, laidKinds := [.sentinel], laidTests := true, laidLooks := .later }
def FnCappedBufferKeepsTheFirst4096BytesCardSaid : Prop := Claim7.holds Tryd.pinned (.plain (OpenSpec.ofChange fnCappedBufferKeepsTheFirst4096BytesSpec)) fnCappedBufferKeepsTheFirst4096BytesCard

/-- THE TIED CARD OF 'zzlaws_root_b1.FnCappedBufferSplitDoesNotMatter'. -/
def fnCappedBufferSplitDoesNotMatterCard : Claim7 := { stood := { row := fnCappedBufferSplitDoesNotMatterRow, standIns := [], harness := (true, "8b5edbb4f6e2ac810762b31015990c4f9d9da4a355d728e5efa02a1aaf8aafa4"), looks := false }, kinds := [], alts := [], laidByText := true, laidKinds := [.sentinel], laidTests := true, laidLooks := .later }
def FnCappedBufferSplitDoesNotMatterCardSaid : Prop := Claim7.holds Tryd.pinned (.plain (OpenSpec.ofChange fnCappedBufferSplitDoesNotMatterSpec)) fnCappedBufferSplitDoesNotMatterCard
end Rows
end Go.Proofs.Qxb6605686aDoor
