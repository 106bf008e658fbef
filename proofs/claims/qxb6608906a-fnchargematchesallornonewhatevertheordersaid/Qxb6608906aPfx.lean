import Derived.Test.Qxb6608906aRows
import Derived.WalkKit
import Derived.WalkSpells
import Derived.WalkLawsBesides
import Derived.Deep.QuietTactic
import Derived.BigQuiet
import Derived.Lib.Strings
namespace Go.Proofs.Qxb6608906a
open Go.RowKit
set_option linter.unusedVariables false

/-- Does s begin with p? -/
def pfx (s p : ByteArray) : Bool := Lib.hasPrefix s.data.toList p.data.toList

theorem pfx_yes (s p : ByteArray) (h : p.size ≤ s.size) : ((s.extract 0 p.size).toList == p.toList) = pfx s p := by
  have := Lib.hasPrefix_raw s p
  rw [decide_eq_true h, Bool.true_and] at this
  exact this
theorem pfx_no (s p : ByteArray) (h : ¬ p.size ≤ s.size) : false = pfx s p := by
  have := Lib.hasPrefix_raw s p
  rw [decide_eq_false h, Bool.false_and] at this
  exact this

theorem toNat_inj {a b : UInt8} (h : (a.toNat : Int) = b.toNat) : a = b := UInt8.toNat.inj (by omega)

theorem pfx_all (s p : ByteArray) (h : p.size ≤ s.size) (H : ∀ (j : Nat) (a : j < p.size) (b : j < s.size), s[j] = p[j]) : pfx s p = true := by
  unfold pfx Lib.hasPrefix
  rw [List.isPrefixOf_iff_prefix, List.prefix_iff_getElem?]
  intro i hi
  have hi' : i < p.size := by simpa using hi
  have e := H i hi' (by omega)
  rw [List.getElem?_eq_getElem (by have : i < s.size := by omega
                                   simpa using this)]
  congr 1
theorem pfx_one (s p : ByteArray) (j : Nat) (a : j < p.size) (b : j < s.size) (H : ¬ s[j] = p[j]) : pfx s p = false := by
  cases hp : pfx s p with
  | false => rfl
  | true =>
    exfalso
    unfold pfx Lib.hasPrefix at hp
    rw [List.isPrefixOf_iff_prefix, List.prefix_iff_getElem?] at hp
    have := hp j (by simpa using a)
    rw [List.getElem?_eq_getElem (by simpa using b)] at this
    exact H (by have e : s.data[j] = p.data[j] := by simpa using this
                exact e)

theorem retb {a b : Bool} (h : a = b) : Ending.returned (.bool a) = .returned (.bool b) := by rw [h]

set_option maxHeartbeats 400000 in
theorem lite_any (s p : ByteArray) (w : World) (hs : s.size ≤ maxLen) (hp : p.size ≤ maxLen) :
    Calls Try.prog 32 #[.string s, .string p] w fun e w' => e = .returned (.bool (pfx s p)) ∧ w' = w := by
  unfold maxLen at hs hp
  by_cases h : p.size ≤ s.size
  · have hf := pfx_yes s p h
    have HF := hf
    clear hf
    go_enter Try.func32, Try.ntmps32
    go_wp2
    go_ret
    exact ⟨rfl, rfl⟩
  · have HF : Hid (false = pfx s p) := pfx_no s p h
    go_enter Try.func32, Try.ntmps32
    go_wp2
    go_ret
    exact ⟨retb HF.out, rfl⟩

set_option maxHeartbeats 400000 in
theorem stringsHasPrefix_any (s p : ByteArray) (w : World) (hs : s.size ≤ maxLen) (hp : p.size ≤ maxLen) :
    Calls Try.prog 29 #[.string s, .string p] w fun e w' => e = .returned (.bool (pfx s p)) ∧ w' = w := by
  go_enter Try.func29, Try.ntmps29
  go_wp2_with (go_at_call 32; refine (lite_any s p _ hs hp).mono ?_; rintro e w' ⟨rfl, rfl⟩)
  go_ret
  exact ⟨rfl, rfl⟩

theorem drewN_add (w : World) (a b : Nat) : (w.drewN a).drewN b = w.drewN (a + b) := by
  simp [World.drewN, Nat.add_assoc]

set_option maxHeartbeats 400000 in
theorem hasPrefix_any (s p : ByteArray) (w : World) (hs : s.size ≤ maxLen) (hp : p.size ≤ maxLen) :
    Calls Try.prog 22 #[.string s, .string p] w fun e w' => e = .returned (.bool (pfx s p)) ∧ ∃ n, w' = w.drewN n := by
  unfold maxLen at hs hp
  by_cases h : p.size ≤ s.size
  · have hn : ¬ s.size < p.size := by omega
    go_enter Try.func22, Try.ntmps22
    go_wp2
    go_loopw [5] (fun i wr => ∃ k : Nat, k ≤ p.size ∧ i = .int .i64 k ∧ Hid (∀ (j : Nat) (a : j < p.size) (b : j < s.size), j < k → s[j] = p[j]) ∧ ∃ n, wr = w.drewN n) (fun i _ => p.size - (intOf i).toNat)
    case atStart => exact ⟨0, Nat.zero_le _, rfl, fun j _ _ hj => by omega, 0, rfl⟩
    case round =>
      obtain ⟨k, hk, rfl, HJ, n, rfl⟩ := hrel
      by_cases hlt : k < p.size
      · have hks : k < s.size := by omega
        cases hc : ((s[k].toNat : Int) != (p[k].toNat : Int))
        · go_wp2
          go_quiet (fail)
          go_wp2
          go_roundw
          case rel =>
            refine ⟨k + 1, by omega, by go_num, ?_, _, rfl⟩
            intro j a b hj
            by_cases hjk : j < k
            · exact HJ.out j a b hjk
            · obtain rfl : j = k := by omega
              exact toNat_inj (by simpa using hc)
          case measure => simp [intOf]; omega
        · have HP : Hid (false = pfx s p) := (pfx_one s p k hlt hks (fun e => by rw [e] at hc; simp at hc)).symm
          go_wp2
          go_quiet (fail)
          go_wp2
          go_ret
          exact ⟨retb HP.out, _, drewN_add _ _ _⟩
      · have HP : Hid (true = pfx s p) := (pfx_all s p h (fun j a b => HJ.out j a b (by omega))).symm
        go_wp2
        go_ret
        exact ⟨retb HP.out, n, rfl⟩
  · have hn : s.size < p.size := by omega
    have HF : Hid (false = pfx s p) := pfx_no s p h
    clear h
    go_enter Try.func22, Try.ntmps22
    go_wp2
    go_ret
    exact ⟨retb HF.out, 0, rfl⟩
end Go.Proofs.Qxb6608906a
