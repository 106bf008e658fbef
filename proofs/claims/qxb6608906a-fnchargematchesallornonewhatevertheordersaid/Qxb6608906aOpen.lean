import Derived.Test.Qxb6608906aModel
import Derived.Deep.Slices
namespace Go.Proofs.Qxb6608906a
open Go.RowKit
set_option linter.unusedVariables false

theorem cells28 : Try.prog.cellsOf 28 = 3 := by kernel_rfl
theorem cells4 : Try.prog.cellsOf 4 = 1 := by kernel_rfl
theorem cells3 : Try.prog.cellsOf 3 = 1 := by kernel_rfl
theorem cells9 : Try.prog.cellsOf 9 = 1 := by kernel_rfl


section
variable {H : Type} {enc : TypeId × Value → H} {W : World}

/-- One element: its three cells. -/
theorem open_pat {n : Nat} {a : Addr} {i : Nat} {cs : List Value} {x : DataW H × List MemPlace} (h1 : W.cells? 0 (a.add (i * 3)) 3 = some cs) (h2 : DataW.trod enc Try.prog W 0 (fun _ => true) true n 28 cs = some x) :
    ∃ pl sz px, W.cell? (a.add (i * 3)) = some (.bool pl) ∧ W.cell? (a.add (i * 3 + 1)) = some (.int .i64 sz) ∧ W.cell? (a.add (i * 3 + 2)) = some (.string px) ∧ px.size ≤ maxLen := by
  obtain ⟨_, hlen, hcell⟩ := World.cells?_some h1
  obtain ⟨xs, k, hk, hxy, _, hxl, hf⟩ := DataW.trod_struct Try.underlying28 h2
  have e0 := hcell 0 (by omega)
  have e1 := hcell 1 (by omega)
  have e2 := hcell 2 (by omega)
  rw [Deep.add_add] at e0 e1 e2
  match cs, hlen, xs, hxl with
  | [v0, v1, v2], _, [y0, y1, y2], _ =>
    have g0 := hf 0 _ rfl
    have g1 := hf 1 _ rfl
    have g2 := hf 2 _ rfl
    simp [cells4, cells3, cells9] at g0 g1 g2 e0 e1 e2
    obtain ⟨pl, q0, _⟩ := DataW.trod_bool Try.underlying4 g0
    obtain ⟨sz, q1, _⟩ := DataW.trod_int Try.underlying3 g1
    obtain ⟨px, q2, _, q3⟩ := DataW.trod_string Try.underlying9 g2
    simp at q0 q1 q2
    subst q0 q1 q2
    exact ⟨pl, sz, px, e0, e1, e2, q3⟩

theorem spot_of_cell {w : World} {a : Addr} {v : Value} (h : w.cell? a = some v) : a.spot = none := by
  unfold World.cell? at h
  split at h
  · split at h
    · cases h
    · rename_i hs; simpa using hs
  · cases h

theorem add_mk (b off n : Nat) : (⟨b, off, none⟩ : Addr).add n = ⟨b, off + n, none⟩ := by
  unfold Addr.add
  split
  · rename_i h; rw [h]; rfl
  · rfl

theorem open_pats {a : Option Addr} {len cap : Nat} {d : DataW H} {p : List MemPlace} (h : DataW.Trod enc Try.prog W 0 (fun _ => true) true 25 (.slice a len cap) d p) :
    ∃ PL SZ PX, IsPats W a len PL SZ PX ∧ len ≤ maxLen ∧ ∀ i, i < len → (PX i).size ≤ maxLen := by
  obtain ⟨fuel, hf⟩ := h
  rcases Deep.open_slice Try.underlying25 hf with ⟨hcs, _⟩ | ⟨a', len', cap', m, n, D, Pl, hcs, _, hl, hm, hmm, _, hx⟩
  · simp [Value.cells] at hcs
    obtain ⟨rfl, rfl, rfl⟩ := hcs
    exact ⟨fun _ => false, fun _ => 0, fun _ => ByteArray.empty, fun i hi => by omega, by unfold maxLen; omega, fun i hi => by omega⟩
  · simp [Value.cells] at hcs
    obtain ⟨rfl, rfl, rfl⟩ := hcs
    simp at hmm
    subst hmm
    rw [cells28] at hx
    have each : ∀ i, i < len → ∃ q : Bool × Int × ByteArray, W.cell? (a'.add (i * 3)) = some (.bool q.1) ∧ W.cell? (a'.add (i * 3 + 1)) = some (.int .i64 q.2.1) ∧ W.cell? (a'.add (i * 3 + 2)) = some (.string q.2.2) ∧ q.2.2.size ≤ maxLen := by
      intro i hi
      obtain ⟨cs, h1, h2⟩ := hx i (by omega)
      obtain ⟨pl, sz, px, e0, e1, e2, e3⟩ := open_pat h1 h2
      exact ⟨(pl, sz, px), e0, e1, e2, e3⟩
    obtain ⟨q, hq⟩ := Deep.choose_lt each
    refine ⟨fun i => (q i).1, fun i => (q i).2.1, fun i => (q i).2.2, ?_, by omega, fun i hi => (hq i hi).2.2.2⟩
    intro i hi
    have hs : a'.spot = none := by
      have := (hq 0 (by omega)).1
      exact spot_of_cell (by simpa [Addr.add] using this)
    obtain ⟨b, off, sp⟩ := a'
    simp only at hs
    subst hs
    have := hq i hi
    rw [add_mk, add_mk, add_mk] at this
    exact ⟨b, off, rfl, this.1, by rw [Nat.add_assoc]; exact this.2.1, by rw [Nat.add_assoc]; exact this.2.2.1⟩
end
end Go.Proofs.Qxb6608906a
