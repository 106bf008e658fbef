import Derived.Test.Qxb6608906aModel
namespace Go.Proofs.Qxb6608906a
open Go.RowKit
set_option linter.unusedVariables false

set_option maxHeartbeats 800000 in
theorem bytesCut (name : ByteArray) (x y : Int) (a : Option Addr) (len cap : Nat) (PL : Nat → Bool) (SZ : Nat → Int) (PX : Nat → ByteArray) (w : World)
    (hP : IsPats w a len PL SZ PX) (hs : name.size ≤ maxLen) (hl : len ≤ maxLen) (hX : ∀ i, i < len → (PX i).size ≤ maxLen) :
    Calls Try.prog 15 #[.string name, .int .i64 x, .slice a len cap, .int .i64 y] w fun e w' => w' = w ∧ (e = .returned (.bool false) ∨ (e = .returned (.bool true) ∧ name.size ≤ 1048576 ∧ len ≤ 1048576 ∧ ∀ i, i < len → (PX i).size ≤ 1048576)) := by
  unfold maxLen at hs hl hX
  have HX : Hid (∀ i, i < len → (PX i).size ≤ 2 ^ 63 - 1) := hX
  clear hX
  by_cases g1 : 1048576 < name.size
  · go_enter Try.func15, Try.ntmps15
    go_wp2
    go_ret
    exact ⟨rfl, Or.inl rfl⟩
  by_cases g2 : 1048576 < len
  · go_enter Try.func15, Try.ntmps15
    go_wp2
    go_ret
    exact ⟨rfl, Or.inl rfl⟩
  by_cases g3 : 1048576 < name.size + len
  · go_enter Try.func15, Try.ntmps15
    go_wp2
    go_ret
    exact ⟨rfl, Or.inl rfl⟩
  go_enter Try.func15, Try.ntmps15
  go_wp2
  go_loop [9, 10] (fun t i => ∃ (k : Nat) (T : Int), k ≤ len ∧ i = .int .i64 k ∧ t = .int .i64 T ∧ 0 ≤ T ∧ T ≤ 1048576 ∧ Hid (∀ j, j < k → (PX j).size ≤ 1048576)) (fun _ i => len - (intOf i).toNat)
  case atStart => exact ⟨0, _, Nat.zero_le _, rfl, rfl, by omega, by omega, fun j hj => by omega⟩
  case round =>
    obtain ⟨k, T, hk, rfl, rfl, t0, t1, HJ⟩ := hrel
    by_cases hlt : k < len
    · obtain ⟨b, off, rfl, c0, c1, c2⟩ := hP k hlt
      have hx := HX.out k hlt
      clear hP HX
      generalize hpx : PX k = px at *
      have HPX : Hid (PX k = px) := hpx
      clear hpx
      by_cases g4 : 1048576 < px.size
      · go_wp2
        go_ret
        exact ⟨rfl, Or.inl rfl⟩
      · by_cases g5 : 1048576 < T + px.size
        · go_wp2
          go_ret
          exact ⟨rfl, Or.inl rfl⟩
        · go_wp2
          go_round
          case rel => exact ⟨k + 1, _, by omega, by go_num, rfl, by omega, by omega, fun j hj => by
            by_cases hjk : j < k
            · exact HJ.out j hjk
            · obtain rfl : j = k := by omega
              rw [HPX.out]; omega⟩
          case measure => simp [intOf]; omega
    · go_wp2
      go_ret
      exact ⟨rfl, Or.inr ⟨rfl, by omega, by omega, fun i hi => HJ.out i (by omega)⟩⟩

set_option maxHeartbeats 800000 in
theorem bytesAll (name : ByteArray) (q : Bool) (x : Int) (a : Option Addr) (len cap : Nat) (PL : Nat → Bool) (SZ : Nat → Int) (PX : Nat → ByteArray) (w : World)
    (hP : IsPats w a len PL SZ PX) (hs : name.size ≤ maxLen) (hl : len ≤ maxLen) (hX : ∀ i, i < len → (PX i).size ≤ maxLen) :
    Calls Try.prog 8 #[.string name, .bool q, .int .i64 x, .slice a len cap] w fun e w' => w' = w ∧ (e = .returned (.bool false) ∨ (e = .returned (.bool true) ∧ name.size ≤ 1048576 ∧ len ≤ 1048576 ∧ ∀ i, i < len → (PX i).size ≤ 1048576)) := by
  unfold maxLen at hs hl hX
  have HX : Hid (∀ i, i < len → (PX i).size ≤ 2 ^ 63 - 1) := hX
  clear hX
  by_cases g1 : 1048576 < name.size
  · go_enter Try.func8, Try.ntmps8
    go_wp2
    go_ret
    exact ⟨rfl, Or.inl rfl⟩
  by_cases g2 : 1048576 < len
  · go_enter Try.func8, Try.ntmps8
    go_wp2
    go_ret
    exact ⟨rfl, Or.inl rfl⟩
  by_cases g3 : 1048576 < name.size + len
  · go_enter Try.func8, Try.ntmps8
    go_wp2
    go_ret
    exact ⟨rfl, Or.inl rfl⟩
  go_enter Try.func8, Try.ntmps8
  go_wp2
  go_loop [9, 10] (fun t i => ∃ (k : Nat) (T : Int), k ≤ len ∧ i = .int .i64 k ∧ t = .int .i64 T ∧ 0 ≤ T ∧ T ≤ 1048576 ∧ Hid (∀ j, j < k → (PX j).size ≤ 1048576)) (fun _ i => len - (intOf i).toNat)
  case atStart => exact ⟨0, _, Nat.zero_le _, rfl, rfl, by omega, by omega, fun j hj => by omega⟩
  case round =>
    obtain ⟨k, T, hk, rfl, rfl, t0, t1, HJ⟩ := hrel
    by_cases hlt : k < len
    · obtain ⟨b, off, rfl, c0, c1, c2⟩ := hP k hlt
      have hx := HX.out k hlt
      clear hP HX
      generalize hpx : PX k = px at *
      have HPX : Hid (PX k = px) := hpx
      clear hpx
      by_cases g4 : 1048576 < px.size
      · go_wp2
        go_ret
        exact ⟨rfl, Or.inl rfl⟩
      · by_cases g5 : 1048576 < T + px.size
        · go_wp2
          go_ret
          exact ⟨rfl, Or.inl rfl⟩
        · go_wp2
          go_round
          case rel => exact ⟨k + 1, _, by omega, by go_num, rfl, by omega, by omega, fun j hj => by
            by_cases hjk : j < k
            · exact HJ.out j hjk
            · obtain rfl : j = k := by omega
              rw [HPX.out]; omega⟩
          case measure => simp [intOf]; omega
    · go_wp2
      go_ret
      exact ⟨rfl, Or.inr ⟨rfl, by omega, by omega, fun i hi => HJ.out i (by omega)⟩⟩
end Go.Proofs.Qxb6608906a
