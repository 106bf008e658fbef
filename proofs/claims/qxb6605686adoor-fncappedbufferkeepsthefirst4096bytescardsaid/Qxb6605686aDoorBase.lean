import Derived.Test.Qxb6605686aDoorClone
import Derived.Test.Qxb6605686aDoorShelf
import Derived.Deep.QuietTactic
import Derived.BigQuiet
namespace Go.Proofs.Qxb6605686aDoor
open Go.RowKit
set_option linter.unusedVariables false

/-- The bytes as cells. -/
def cells (n : Nat) (z : Nat → Int) : List Value := (List.range n).map fun i => Value.int .u8 (z i)
theorem cells_length (n : Nat) (z : Nat → Int) : (cells n z).length = n := by simp [cells]
theorem cells_get (n : Nat) (z : Nat → Int) (j : Nat) (h : j < n) : (cells n z)[j]? = some (.int .u8 (z j)) := by simp [cells, h]

/-- The capped buffer at block b holds bs; all its own memory lies from b on. -/
abbrev Buf (b : Nat) (bs : List Value) (w : World) : Prop := LibA.IsBuffer 38 (fun _ => none) 5 b b 0 bs w

set_option maxHeartbeats 400000 in
theorem new_any (w : World) : Calls Tryd.prog 7 #[] w fun e w' => ∃ b, e = .returned (.pointer (some ⟨b, 0, none⟩)) ∧ b = w.heap.size ∧ Buf b [] w' ∧ Below w.heap.size w w' := by
  go_enter Tryd.func7, Tryd.ntmps7
  go_wp2
  go_ret
  exact ⟨_, rfl, rfl, LibA.zero_isBuffer (Nat.le_refl _) (LibA.three_whole (Deep.blk_alloc_new _ _)), (Below.refl _ _).alloc (Nat.le_refl _) _⟩

theorem retb {a b : Bool} (h : a = b) : Ending.returned (.bool a) = .returned (.bool b) := by rw [h]
theorem drewN_add (w : World) (a b : Nat) : (w.drewN a).drewN b = w.drewN (a + b) := by
  simp [World.drewN, Nat.add_assoc]

/-- Two slices of the same bytes. -/
theorem same_any (a1 a2 : Option Addr) (n c1 c2 : Nat) (z : Nat → Int) (w : World) (h1 : IsBytes w a1 n z) (h2 : IsBytes w a2 n z) (hn : n ≤ 1048576) :
    Calls Tryd.prog 9 #[.slice a1 n c1, .slice a2 n c2] w fun e w' => e = .returned (.bool true) ∧ ∃ k, w' = w.drewN k := by
  have H1 : Hid (IsBytes w a1 n z) := h1
  have H2 : Hid (IsBytes w a2 n z) := h2
  clear h1 h2
  go_enter Tryd.func9, Tryd.ntmps9
  go_wp2
  go_loopw [5] (fun i wr => ∃ k : Nat, k ≤ n ∧ i = .int .i64 k ∧ ∃ m, wr = w.drewN m) (fun i _ => n - (intOf i).toNat)
  case atStart => exact ⟨0, Nat.zero_le _, rfl, 0, rfl⟩
  case round =>
    obtain ⟨k, hk, rfl, m, rfl⟩ := hrel
    by_cases hlt : k < n
    · obtain ⟨b1, o1, rfl, d1⟩ := H1.out k hlt
      obtain ⟨b2, o2, rfl, d2⟩ := H2.out k hlt
      go_wp2
      go_quiet (fail)
      go_wp2
      go_roundw
      case rel => exact ⟨k + 1, by omega, by go_num, _, rfl⟩
      case measure => simp [intOf]; omega
    · go_wp2
      go_ret
      exact ⟨rfl, m, rfl⟩

end Go.Proofs.Qxb6605686aDoor
