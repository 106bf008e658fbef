import Derived.Test.Qxb6605686aDoorKeeps
import Derived.Test.Qxb6605686aDoorTie
import Derived.Test.Qxb6605686aDoorCards
import Derived.ProofKit
import Derived.LaidMore
import Derived.OpenShut
import Derived.Stop.Joined
import Derived.ChangeOld
import Derived.Below
import Derived.Deep.Slices
namespace Go.Proofs.Qxb6605686aDoor.keeps
open Go.ChangeShapes Go.WideShapes Go.ChangeAt Go.RowKit
set_option linter.unusedVariables false

theorem own : ownKnob Tryd.prog.godebug = none := by kernel_rfl
theorem laidOut : laidOutB Tryd.prog = true := by kernel_rfl
theorem cells24 : Tryd.prog.cellsOf 24 = 1 := by kernel_rfl

/-- What the row lists. -/
def laid1 : List (String × DataW Unit) := [("bytes.ErrTooLarge", Rows.laid_bytes_ErrTooLarge)]

/-- The door's own heap meets the condition. -/
theorem door_met (os : Os) (args : Array Value) : laidMetH Tryd.prog laid1 ((World.doorLaid Tryd.prog 28 os).forCall (fun _ _ => 0) ⟨#[], args, []⟩).memory :=
  laidMetH_of_parts3 (fuel := 8) (laidMet_of_run' 8 (by kernel_rfl) (by kernel_rfl)) (by kernel_rfl) (by kernel_rfl)

theorem spot_of_cell {w : World} {a : Addr} {v : Value} (h : w.cell? a = some v) : a.spot = none := by
  unfold World.cell? at h
  split at h
  · split at h
    · cases h
    · rename_i hs; simpa using hs
  · cases h

section
variable {H : Type} {enc : TypeId × Value → H} {W : World}
/-- One chunk that came in. -/
theorem open_bytes {v : Value} {fuel : Nat} {x : DataW H × List MemPlace} (hf : DataW.trod enc Tryd.prog W 0 (fun _ => true) true fuel 24 [v] = some x) :
    ∃ q : Option Addr × Nat × Nat × (Nat → Int), v = .slice q.1 q.2.1 q.2.2.1 ∧ IsBytes W q.1 q.2.1 q.2.2.2 ∧ (q.1 = none → q.2.1 = 0) ∧ q.2.1 ≤ maxLen := by
  rcases open_ints Tryd.underlying24 Tryd.underlying5 (by kernel_rfl) hf with ⟨hcs, _⟩ | ⟨x, l, c, zs, hcs, _, hl, hm, hz, _, hcell, hwz⟩
  · simp at hcs
    subst hcs
    exact ⟨(none, 0, 0, fun _ => 0), rfl, fun i hi => by simp at hi, fun _ => rfl, by unfold maxLen; simp⟩
  · simp at hcs
    subst hcs
    have hzl : zs.length = c := by simpa using hz
    refine ⟨(some x, l, c, fun i => zs.getD i 0), rfl, ?_, fun h => (by cases h), by simp only; omega⟩
    intro i hi
    simp only at hi ⊢
    have hs : x.spot = none := by
      have := hcell 0 (by omega)
      exact spot_of_cell (by simpa [Addr.add] using this)
    obtain ⟨b, off, sp⟩ := x
    simp only at hs
    subst hs
    have := hcell i (by omega)
    rw [add_mk] at this
    exact ⟨b, off, rfl, this⟩

/-- The chunks that came in. -/
theorem open_chunks {a : Option Addr} {len cap : Nat} {d : DataW H} {p : List MemPlace} (h : DataW.Trod enc Tryd.prog W 0 (fun _ => true) true 22 (.slice a len cap) d p) :
    ∃ A L C Z, IsChunks W a len A L C Z ∧ (∀ i, i < len → L i ≤ maxLen) ∧ (∀ i, i < len → A i = none → L i = 0) ∧ (a = none → len = 0) ∧ len ≤ maxLen := by
  obtain ⟨fuel, hf⟩ := h
  rcases Deep.open_slice1 Tryd.underlying22 cells24 hf with ⟨hcs, _⟩ | ⟨a', len', cap', m, n, V, D, Pl, hcs, _, hl, hm, hmm, _, hx⟩
  · simp [Value.cells] at hcs
    obtain ⟨rfl, rfl, rfl⟩ := hcs
    exact ⟨fun _ => none, fun _ => 0, fun _ => 0, fun _ _ => 0, fun i hi => by omega, fun i hi => by omega, fun i hi => by omega, fun _ => rfl, by unfold maxLen; omega⟩
  · simp [Value.cells] at hcs
    obtain ⟨rfl, rfl, rfl⟩ := hcs
    simp at hmm
    subst hmm
    have each : ∀ i, i < len → ∃ q : Option Addr × Nat × Nat × (Nat → Int), V i = .slice q.1 q.2.1 q.2.2.1 ∧ IsBytes W q.1 q.2.1 q.2.2.2 ∧ (q.1 = none → q.2.1 = 0) ∧ q.2.1 ≤ maxLen := fun i hi => open_bytes (hx i (by omega)).2
    obtain ⟨q, hq⟩ := Deep.choose_lt each
    refine ⟨fun i => (q i).1, fun i => (q i).2.1, fun i => (q i).2.2.1, fun i => (q i).2.2.2, ?_, fun i hi => (hq i hi).2.2.2, fun i hi => (hq i hi).2.2.1, fun h => (by cases h), by omega⟩
    intro i hi
    have hs : a'.spot = none := by
      have := (hx 0 (by omega)).1
      exact spot_of_cell (by simpa [Addr.add] using this)
    obtain ⟨b, off, sp⟩ := a'
    simp only at hs
    subst hs
    have h1 := (hx i (by omega)).1
    rw [add_mk, (hq i hi).1] at h1
    exact ⟨b, off, rfl, h1, (hq i hi).2.1⟩
end

set_option maxRecDepth 100000 in
theorem lifted (os : Os) (started : os.Started) (H : Type) (enc : TypeId × Value → H) :
    ReturnsInHanded {} Tryd.checked os 3 .any (fun w args => (Rows.fnCappedBufferKeepsTheFirst4096BytesSpec.pre enc Tryd.prog Tryd.f3 [] false w args ∧ laidMetH Tryd.prog laid1 w) ∧ sizedMet enc Tryd.prog Tryd.f3 (OpenSpec.ofChange Rows.fnCappedBufferKeepsTheFirst4096BytesSpec) false w args)
      (Rows.fnCappedBufferKeepsTheFirst4096BytesSpec.post enc Tryd.prog Tryd.f3 false true false false) := by
  refine returnsInHanded_of_change_and (C := Tryd.checked) (X := fun w _ => laidMetH Tryd.prog laid1 w) (fun _ _ _ hh h => h.of_heap hh) own started (by kernel_rfl) Tryd.func3
    (ChangeSpec.witness_shaped (enc := enc) (C := Tryd.checked) (os := os) (X := fun w _ => laidMetH Tryd.prog laid1 w) false (World.doorLaid Tryd.prog 28 os) #[.slice none 0 0] 8 rfl (World.shaped_of_RefB (by kernel_rfl) (by kernel_rfl)) (by kernel_rfl) (by kernel_rfl) (by kernel_rfl) (door_met os _)) ?_
  intro W base args ds gs before hval0 hW _ _ hL _
  have hval : ∀ (j : Nat) t v, Tryd.f3.params[j]? = some t → args[j]? = some v → Value.okWide Tryd.prog W .any base t v := hval0
  have hW' := hW
  obtain ⟨p, q, hA0, hV, rfl, hfz, hnd⟩ := hW
  have hA : DataW.TrodAll enc Tryd.prog W 0 (fun _ => true) true Tryd.f3.params.toList args.toList ds p := hA0
  rw [Tryd.params3] at hA hval
  obtain ⟨v0, vs0, d0, ds0, p0, q0, hargs, rfl, rfl, h0, r0⟩ := trodAll_cons hA
  obtain ⟨rfl, rfl, rfl⟩ := trodAll_nil r0
  obtain rfl : args = #[v0] := by cases args; simp_all
  obtain ⟨rfl, rfl⟩ := trodVars_none hV
  obtain ⟨a, len, cap, rfl⟩ := okWide_slice Tryd.underlying22 (hval 0 22 v0 rfl rfl)
  have lt0 : ∀ x ∈ p0, x.block < W.heap.size := by obtain ⟨m, hm⟩ := id h0; exact DataW.trod_lt m _ _ _ hm
  obtain ⟨A, L, C, Z, hP, hLm, hN, hnil, hl⟩ := open_chunks h0
  clear hA0 hval0
  refine (keeps_any a len cap A L C Z W hP hl hLm hN hnil).mono fun e W' ⟨he, bel⟩ => ?_
  subst he
  exact ⟨_, rfl, _, _, _, [], _, [], hW', trodAll_mk1 (shut_bool Tryd.underlying4 _), (trodAll_cons_mk (Below.trod laidOut (by kernel_rfl) (of_decide_eq_true (by kernel_rfl)) h0 bel lt0) trodAll_mk0), rfl, bel.frame _, fun h => by cases h⟩

theorem row_holds : Rows.FnCappedBufferKeepsTheFirst4096BytesSaid :=
  OpenClaim.holds_of_wide 3 Tryd.f3 rfl rfl rfl rfl rfl rfl rfl ⟨rfl, rfl, rfl, rfl, rfl⟩ rfl rfl rfl rfl rfl (by kernel_rfl) Tryd.func3 (by kernel_rfl)
    (of_decide_eq_true (by kernel_rfl)) (by unfold Func.isWrapper; first | (rw [if_pos (by decide +kernel)]; kernel_rfl) | (rw [if_neg (by decide +kernel)]; exact ⟨rfl, rfl⟩))
    (fun os started H enc _ => lifted os started H enc)

/-- THE STATEMENT: the card. -/
theorem proved : Rows.FnCappedBufferKeepsTheFirst4096BytesCardSaid :=
  Claim7.holds_tied_plain_at .later [] [.sentinel] true (true, "8b5edbb4f6e2ac810762b31015990c4f9d9da4a355d728e5efa02a1aaf8aafa4") false
    row_holds (fun _ h => by cases h) (by kernel_rfl) (fun _ h => by cases h) fnCappedBufferKeepsTheFirst4096Bytes_row_tie rfl ⟨rfl, rfl⟩ (by kernel_rfl) rfl
    (fun f fn hf hfn => by
      obtain rfl : f = 3 := Option.some.inj ((show Tryd.prog.funcNamed Rows.fnCappedBufferKeepsTheFirst4096BytesRow.func = some 3 by kernel_rfl).symm.trans hf) |>.symm
      obtain rfl : fn = Tryd.f3 := (Option.some.inj (Tryd.func3.symm.trans hfn)).symm
      exact ⟨by kernel_rfl, fun j t ht => by
        rw [Tryd.params3] at ht
        have hm : t ∈ [22] := by simpa using Array.mem_of_getElem? ht
        have hall : ([22].all fun u => !Tryd.prog.wantsStandIn u) = true := by kernel_rfl
        exact (show Tryd.prog.wantsStandIn t = false by simpa using List.all_eq_true.1 hall t hm)⟩)
    (by kernel_rfl)
end Go.Proofs.Qxb6605686aDoor.keeps
