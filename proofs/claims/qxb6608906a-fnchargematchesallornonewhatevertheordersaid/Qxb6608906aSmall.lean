import Derived.Test.Qxb6608906aPfx
import Derived.Test.Qxb6608906aCharge
namespace Go.Proofs.Qxb6608906a
open Go.RowKit
set_option linter.unusedVariables false

/-- Is the work past the bound? -/
def overB (v : Int) : Bool := decide (10000000 < v)

set_option maxHeartbeats 400000 in
theorem past_any (sz : Int) (t : ByteArray) (w : World) (ht : t.size ≤ 1048576) :
    Calls Try.prog 28 #[.int .i64 sz, .string t] w fun e w' => e = .returned (.bool (overB (sz * ((t.size : Int) + 1)))) ∧ w' = w := by
  go_enter Try.func28, Try.ntmps28
  go_wp2
  go_ret
  exact ⟨retb (decide_eq_decide.2 (Chg.past_iff _ _ (by omega))), rfl⟩

/-- A coverage in memory: its name, its own pattern's pointer, its work. -/
structure Cov (w : World) (cb : Nat) (name : ByteArray) (pt : Option Addr) (v : Int) : Prop where
  name : w.cell? ⟨cb, 0, none⟩ = some (.string name)
  patt : w.cell? ⟨cb, 1, none⟩ = some (.pointer pt)
  work : w.cell? ⟨cb, 2, none⟩ = some (.int .i64 v)
  free : w.frozen? ⟨cb, 2, none⟩ = false

set_option maxHeartbeats 400000 in
theorem over_any (cb : Nat) (name : ByteArray) (pt : Option Addr) (v : Int) (w : World) (hc : Cov w cb name pt v) :
    Calls Try.prog 23 #[.pointer (some ⟨cb, 0, none⟩)] w fun e w' => e = .returned (.bool (overB v)) ∧ w' = w := by
  have h := hc.work
  go_enter Try.func23, Try.ntmps23
  go_wp2
  go_ret
  exact ⟨rfl, rfl⟩

set_option maxHeartbeats 400000 in
theorem covWork_any (cb : Nat) (name : ByteArray) (pt : Option Addr) (v : Int) (w : World) (hc : Cov w cb name pt v) :
    Calls Try.prog 12 #[.pointer (some ⟨cb, 0, none⟩)] w fun e w' => e = .returned (.int .i64 v) ∧ w' = w := by
  have h := hc.work
  go_enter Try.func12, Try.ntmps12
  go_wp2
  go_ret
  exact ⟨rfl, rfl⟩

set_option maxHeartbeats 400000 in
theorem covOver_any (cb : Nat) (name : ByteArray) (pt : Option Addr) (v : Int) (w : World) (hc : Cov w cb name pt v) :
    Calls Try.prog 13 #[.pointer (some ⟨cb, 0, none⟩)] w fun e w' => e = .returned (.bool (overB v)) ∧ w' = w := by
  go_enter Try.func13, Try.ntmps13
  go_wp2_with (go_at_call 23; refine (over_any cb name pt v _ hc).mono ?_; rintro e w' ⟨rfl, rfl⟩)
  go_ret
  exact ⟨rfl, rfl⟩

/-! ### What is left alone -/

/-- Every block but cb is as it was; new blocks may lie behind. -/
structure Beside (cb : Nat) (w w' : World) : Prop where
  os : w'.os = w.os
  tape : w'.tape = w.tape
  output : w'.output = w.output
  size : w.heap.size ≤ w'.heap.size
  block : ∀ k, k < w.heap.size → k ≠ cb → w'.heap[k]? = w.heap[k]?

theorem Beside.refl (cb : Nat) (w : World) : Beside cb w w := ⟨rfl, rfl, rfl, Nat.le_refl _, fun _ _ _ => rfl⟩
theorem Beside.trans {cb : Nat} {a b c : World} (h : Beside cb a b) (k : Beside cb b c) : Beside cb a c :=
  ⟨k.os.trans h.os, k.tape.trans h.tape, k.output.trans h.output, Nat.le_trans h.size k.size, fun i hi hn => (k.block i (Nat.lt_of_lt_of_le hi h.size) hn).trans (h.block i hi hn)⟩
theorem Beside.of_below {cb : Nat} {a b : World} (h : Below a.heap.size a b) : Beside cb a b := ⟨h.os, h.tape, h.output, h.size, fun k hk _ => h.block k hk⟩
theorem Beside.setCell {cb : Nat} {a b : World} (h : Beside cb a b) (o : Nat) (u : Value) : Beside cb a (b.setCell ⟨cb, o, none⟩ u) :=
  h.trans ⟨rfl, rfl, rfl, by simp [World.setCell], fun k _ hn => Below.heap_setCell _ _ _ _ hn⟩
theorem Beside.alloc {cb : Nat} {a b : World} (h : Beside cb a b) (o : Obj) : Beside cb a (b.alloc o) :=
  h.trans (Beside.of_below ((Below.refl _ _).alloc (Nat.le_refl _) o))
theorem Beside.drewN {cb : Nat} {a b : World} (h : Beside cb a b) (n : Nat) : Beside cb a (b.drewN n) := h.trans ⟨rfl, rfl, rfl, Nat.le_refl _, fun _ _ _ => rfl⟩
theorem Beside.below {cb B : Nat} {a b : World} (h : Beside cb a b) (h1 : B ≤ cb) (h2 : B ≤ a.heap.size) : Below B a b :=
  ⟨h.os, h.tape, h.output, h.size, fun k hk => h.block k (by omega) (by omega)⟩
theorem Beside.cell {cb : Nat} {w w' : World} (h : Beside cb w w') {b o : Nat} (hb : b < w.heap.size) (hn : b ≠ cb) : w'.cell? ⟨b, o, none⟩ = w.cell? ⟨b, o, none⟩ := World.cell?_of_block (w := w) (h.block b hb hn)
theorem Beside.frozen {cb : Nat} {w w' : World} (h : Beside cb w w') {b o : Nat} (hb : b < w.heap.size) (hn : b ≠ cb) : w'.frozen? ⟨b, o, none⟩ = w.frozen? ⟨b, o, none⟩ := World.frozen?_of_block (w := w) (h.block b hb hn)

theorem lt_cell {w : World} {b o : Nat} {v : Value} (h : w.cell? ⟨b, o, none⟩ = some v) : b < w.heap.size := World.block_lt_of_cell? w ⟨b, o, none⟩ h

section
variable {w w' : World} {cb : Nat} {name : ByteArray} {pt : Option Addr} {v : Int}
theorem Cov.lt (h : Cov w cb name pt v) : cb < w.heap.size := lt_cell h.name
theorem Cov.beside {c : Nat} (h : Cov w cb name pt v) (hb : Beside c w w') (hn : cb ≠ c) : Cov w' cb name pt v :=
  ⟨(hb.cell h.lt hn).trans h.name, (hb.cell h.lt hn).trans h.patt, (hb.cell h.lt hn).trans h.work, (hb.frozen h.lt hn).trans h.free⟩
theorem Cov.below (h : Cov w cb name pt v) (hb : Below w.heap.size w w') : Cov w' cb name pt v :=
  ⟨(hb.cell (p := ⟨cb, 0, none⟩) h.lt).trans h.name, (hb.cell (p := ⟨cb, 1, none⟩) h.lt).trans h.patt, (hb.cell (p := ⟨cb, 2, none⟩) h.lt).trans h.work, (hb.frozen (p := ⟨cb, 2, none⟩) h.lt).trans h.free⟩
theorem Cov.set (h : Cov w cb name pt v) (v' : Int) : Cov (w.setCell ⟨cb, 2, none⟩ (.int .i64 v')) cb name pt v' := by
  refine ⟨?_, ?_, ?_, ?_⟩
  · rw [World.cell?_setCell_other _ _ _ _ (by simp)]; exact h.name
  · rw [World.cell?_setCell_other _ _ _ _ (by simp)]; exact h.patt
  · exact World.cell?_setCell_same _ _ _ h.work
  · rw [World.frozen?_setCell]; exact h.free
end

end Go.Proofs.Qxb6608906a
