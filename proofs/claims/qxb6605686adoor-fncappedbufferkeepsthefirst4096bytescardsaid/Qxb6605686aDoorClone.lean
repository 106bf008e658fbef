import Derived.Test.Qxb6605686aDoorRows
import Derived.WalkKit
import Derived.WalkSpells
import Derived.WalkLawsBesides
import Derived.Deep.OwnRows
import Derived.Lib.SliceRun
namespace Go.Proofs.Qxb6605686aDoor
open Go.RowKit
set_option linter.unusedVariables false

/-- The bytes of a slice in memory. -/
def IsBytes (w : World) (a : Option Addr) (len : Nat) (z : Nat → Int) : Prop :=
  ∀ i, i < len → ∃ b off, a = some ⟨b, off, none⟩ ∧ w.cell? ⟨b, off + i, none⟩ = some (.int .u8 (z i))

theorem lt_cell {w : World} {b o : Nat} {v : Value} (h : w.cell? ⟨b, o, none⟩ = some v) : b < w.heap.size := World.block_lt_of_cell? w ⟨b, o, none⟩ h

theorem info5 : (Tryd.prog.info? 5).map (fun i => (i.zero, i.size, i.bytes)) = some (some (.int .u8 0), 1, 1) := by kernel_rfl

theorem IsBytes.below {w w' : World} {a : Option Addr} {len : Nat} {z : Nat → Int} (h : IsBytes w a len z) (hb : Below w.heap.size w w') : IsBytes w' a len z := by
  intro i hi
  obtain ⟨b, off, h1, h2⟩ := h i hi
  exact ⟨b, off, h1, (hb.cell (p := ⟨b, _, none⟩) (lt_cell h2)).trans h2⟩

set_option maxHeartbeats 400000 in
theorem clone_nil (n c : Nat) (w : World) : Calls Tryd.prog 12 #[.slice none n c] w fun e w' => e = .returned (.slice none 0 0) ∧ w' = w := by
  have hn := fun (w : World) (a : Option Addr) (n c : Nat) => Lib.run_eql_slice_nil (P := Tryd.prog) w 24 5 a n c 0 0 Tryd.underlying24
  go_enter Tryd.func12, Tryd.ntmps12
  go_wp2
  go_ret
  exact ⟨rfl, rfl⟩

set_option maxHeartbeats 400000 in
theorem clone_some (x : Addr) (len cap : Nat) (z : Nat → Int) (w : World) (hz : IsBytes w (some x) len z) (hl : len ≤ 1048576) :
    Calls Tryd.prog 12 #[.slice (some x) len cap] w fun e w' => ∃ g, w.heap.size ≤ g ∧ e = .returned (.slice (some ⟨g, 0, none⟩) len len) ∧ w'.rowIs g 5 len (fun i => .int .u8 (z i)) ∧ Below w.heap.size w w' := by
  have hn := fun (w : World) (a : Option Addr) (n c : Nat) => Lib.run_eql_slice_nil (P := Tryd.prog) w 24 5 a n c 0 0 Tryd.underlying24
  have hmk := run_make_row' (P := Tryd.prog) 24 5 (.int .u8 0) 1 Tryd.underlying24 info5 rfl .i64 .i64 len (by omega) (by omega)
  have HZ : Hid (IsBytes w (some x) len z) := hz
  clear hz
  go_enter Tryd.func12, Tryd.ntmps12
  go_wp2
  clear hmk
  go_loopw [4] (fun i wr => ∃ k : Nat, k ≤ len ∧ i = .int .i64 k ∧ wr.rowIs w.heap.size 5 len (fun j => if j < k then .int .u8 (z j) else .int .u8 0) ∧ Below w.heap.size w wr) (fun i _ => len - (intOf i).toNat)
  case atStart => exact ⟨0, Nat.zero_le _, rfl, by simpa using World.rowIs_made w (.int .u8 0) len 5, (Below.refl _ _).alloc (Nat.le_refl _) _⟩
  case round =>
    obtain ⟨k, hk, rfl, hr, hb⟩ := hrel
    by_cases hlt : k < len
    · obtain ⟨b, off, hx, c0⟩ := HZ.out.below hb k hlt
      obtain rfl : x = ⟨b, off, none⟩ := by simpa using hx
      have c1 := hr.cell hlt
      have c2 := hr.frozen k
      rw [if_neg (by omega)] at c1
      have HR : Hid (wr.rowIs w.heap.size 5 len (fun j => if j < k then .int .u8 (z j) else .int .u8 0)) := hr
      clear hr hx
      go_wp2
      go_roundw
      case rel =>
        refine ⟨k + 1, by omega, by go_num, (HR.out.set k _).congr (fun j hj => ?_), hb.setCell (Nat.le_refl _) _⟩
        by_cases h1 : j = k
        · subst h1; simp
        · by_cases h2 : j < k
          · rw [if_neg h1, if_pos h2, if_pos (by omega)]
          · rw [if_neg h1, if_neg h2, if_neg (by omega)]
      case measure => simp [intOf]; omega
    · obtain rfl : len = k := by omega
      go_wp2
      go_ret
      exact ⟨w.heap.size, Nat.le_refl _, rfl, hr.congr (fun i hi => by simp [hi]), hb⟩
/-- What a clone is: nil stays nil; else a new row of its own. -/
theorem clone_any (a : Option Addr) (len cap : Nat) (z : Nat → Int) (w : World) (hz : IsBytes w a len z) (hl : len ≤ 1048576) (hnil : a = none → len = 0) :
    Calls Tryd.prog 12 #[.slice a len cap] w fun e w' => ∃ a' c', e = .returned (.slice a' len c') ∧ IsBytes w' a' len z ∧ (∀ x, a' = some x → x.block < w'.heap.size) ∧ (a' = none → len = 0 ∧ c' = 0) ∧ len ≤ c' ∧ Below w.heap.size w w' := by
  cases a with
  | none =>
    obtain rfl := hnil rfl
    refine (clone_nil 0 cap w).mono ?_
    rintro e w' ⟨rfl, rfl⟩
    exact ⟨_, _, rfl, fun i hi => by omega, fun x hx => (by cases hx), fun _ => ⟨rfl, rfl⟩, Nat.le_refl _, Below.refl _ _⟩
  | some x =>
    refine (clone_some x len cap z w hz hl).mono ?_
    rintro e w' ⟨g, hg, rfl, hr, hb⟩
    refine ⟨_, _, rfl, fun i hi => ⟨g, 0, rfl, by rw [Nat.zero_add]; exact hr.cell hi⟩, fun x hx => ?_, fun h => (by cases h), Nat.le_refl _, hb⟩
    cases hx
    exact hr.lt
end Go.Proofs.Qxb6605686aDoor
