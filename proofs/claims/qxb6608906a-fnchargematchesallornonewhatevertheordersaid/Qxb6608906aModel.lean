import Derived.Test.Qxb6608906aOne
namespace Go.Proofs.Qxb6608906a
open Go.RowKit
set_option linter.unusedVariables false

/-- The patterns in memory. -/
def IsPats (w : World) (a : Option Addr) (len : Nat) (PL : Nat → Bool) (SZ : Nat → Int) (PX : Nat → ByteArray) : Prop :=
  ∀ i, i < len → ∃ b off, a = some ⟨b, off, none⟩ ∧ w.cell? ⟨b, off + i * 3, none⟩ = some (.bool (PL i)) ∧ w.cell? ⟨b, off + i * 3 + 1, none⟩ = some (.int .i64 (SZ i)) ∧ w.cell? ⟨b, off + i * 3 + 2, none⟩ = some (.string (PX i))

theorem IsPats.below {w w' : World} {a : Option Addr} {len : Nat} {PL : Nat → Bool} {SZ : Nat → Int} {PX : Nat → ByteArray} (h : IsPats w a len PL SZ PX) (hb : Below w.heap.size w w') : IsPats w' a len PL SZ PX := by
  intro i hi
  obtain ⟨b, off, h1, h2, h3, h4⟩ := h i hi
  have hl := lt_cell h2
  exact ⟨b, off, h1, (hb.cell (p := ⟨b, _, none⟩) hl).trans h2, (hb.cell (p := ⟨b, _, none⟩) hl).trans h3, (hb.cell (p := ⟨b, _, none⟩) hl).trans h4⟩

theorem amt_plain (name : ByteArray) (sz : Int) (px : ByteArray) : amtOf name true sz px = 0 := by simp [amtOf, Chg.amt]
theorem amt_past (name : ByteArray) (pl : Bool) (sz : Int) (px : ByteArray) (h : 10000000 < sz * ((name.size : Int) + 1)) : amtOf name pl sz px = 0 := by
  unfold amtOf Chg.amt; rw [if_pos (Or.inr (Or.inl h))]
theorem amt_other (name : ByteArray) (pl : Bool) (sz : Int) (px : ByteArray) (h : pfx name px = false) : amtOf name pl sz px = 0 := by
  unfold amtOf Chg.amt; rw [if_pos (Or.inr (Or.inr h))]
theorem amt_yes (name : ByteArray) (sz : Int) (px : ByteArray) (h : sz * ((name.size : Int) + 1) ≤ 10000000) (h2 : pfx name px = true) : amtOf name false sz px = sz * ((name.size : Int) + 1) := by
  unfold amtOf Chg.amt; rw [if_neg (by simp [h2]; omega)]
theorem prod_le (n : Nat) (sz : Int) (h0 : 0 ≤ sz) (h1 : sz ≤ 10000000) (hn : n ≤ 1048576) : sz * ((n : Int) + 1) ≤ 10485770000000 := by
  have : sz * ((n : Int) + 1) ≤ 10000000 * 1048577 := Int.mul_le_mul h1 (by omega) (by omega) (by omega)
  omega
theorem prod_gt (n : Nat) (sz : Int) (h1 : 10000000 < sz) : 10000000 < sz * ((n : Int) + 1) := by
  have : sz * 1 ≤ sz * ((n : Int) + 1) := Int.mul_le_mul_of_nonneg_left (by omega) (by omega)
  omega
theorem int_congr {k : IntKind} {a b : Int} (h : a = b) : Value.int k a = .int k b := by rw [h]

set_option maxHeartbeats 800000 in
theorem model_any (name : ByteArray) (a : Option Addr) (len cap fr to : Nat) (PL : Nat → Bool) (SZ : Nat → Int) (PX : Nat → ByteArray) (w : World)
    (hP : IsPats w a len PL SZ PX) (hs : name.size ≤ 1048576) (hl : len ≤ 1048576) (h1 : fr ≤ to) (h2 : to ≤ len) (hX : ∀ i, i < len → (PX i).size ≤ maxLen) (hS : ∀ i, i < len → 0 ≤ SZ i) :
    Calls Try.prog 11 #[.string name, .slice a len cap, .int .i64 fr, .int .i64 to] w fun e w' => e = .returned (.int .i64 (Chg.sum (fun i => amtOf name (PL (fr + i)) (SZ (fr + i)) (PX (fr + i))) (to - fr))) ∧ Below w.heap.size w w' := by
  have HOk : Hid (Chg.Ok (fun i => amtOf name (PL (fr + i)) (SZ (fr + i)) (PX (fr + i))) (to - fr)) := fun i hi => Chg.amt_ok _ _ _ _ (hS _ (by omega)) (by omega)
  have HX : Hid (∀ i, i < len → (PX i).size ≤ maxLen) := hX
  have HS : Hid (∀ i, i < len → 0 ≤ SZ i) := hS
  clear hX hS
  generalize HA : (fun i => amtOf name (PL (fr + i)) (SZ (fr + i)) (PX (fr + i))) = A at *
  have HA' : Hid (∀ i, A i = amtOf name (PL (fr + i)) (SZ (fr + i)) (PX (fr + i))) := fun i => by rw [← HA]
  clear HA
  go_enter Try.func11, Try.ntmps11
  go_wp2
  go_loopw [10, 11] (fun s i wr => ∃ k : Nat, k ≤ to - fr ∧ i = .int .i64 ((fr + k : Nat) : Int) ∧ s = .int .i64 (Chg.sum A k) ∧ Below w.heap.size w wr) (fun _ i _ => to - (intOf i).toNat)
  case atStart => exact ⟨0, Nat.zero_le _, rfl, rfl, Below.refl _ _⟩
  case round =>
    obtain ⟨k, hk, rfl, rfl, hb⟩ := hrel
    have q1 := (Chg.sum_nonneg (HOk.out.less hk)).1
    have q2 := (Chg.sum_nonneg (HOk.out.less hk)).2
    by_cases hlt : k < to - fr
    · obtain ⟨b, off, rfl, c0, c1, c2⟩ := hP.below hb (fr + k) (by omega)
      have hlt' : fr + k < to := by omega
      have hlt2 : fr + k < len := by omega
      have hx := HX.out (fr + k) hlt2
      have hz := HS.out (fr + k) hlt2
      have HN : Hid (Chg.sum A (k + 1) = Chg.sum A k + amtOf name (PL (fr + k)) (SZ (fr + k)) (PX (fr + k))) := by show Chg.sum A k + A k = _; rw [HA'.out]
      have hn : name.size ≤ maxLen := by unfold maxLen; omega
      clear hP HX HS HOk HA'
      generalize PL (fr + k) = pl at *
      generalize SZ (fr + k) = sz at *
      generalize PX (fr + k) = px at *
      cases pl
      · by_cases g1 : 10000000 < sz
        · have HN2 : Hid (Chg.sum A (k + 1) = Chg.sum A k) := by rw [HN.out, amt_past _ _ _ _ (prod_gt _ _ g1), Int.add_zero]; exact rfl
          clear HN
          go_wp2
          go_roundw
          case rel => exact ⟨k + 1, by omega, by go_num, int_congr HN2.out.symm, hb.alloc hb.size _⟩
          case measure => simp [intOf]; omega
        · have g2 := prod_le name.size sz hz (by omega) hs
          have g3 : 0 ≤ sz * ((name.size : Int) + 1) := Int.mul_nonneg hz (by omega)
          by_cases g4 : 10000000 < sz * ((name.size : Int) + 1)
          · have HN2 : Hid (Chg.sum A (k + 1) = Chg.sum A k) := by rw [HN.out, amt_past _ _ _ _ g4, Int.add_zero]; exact rfl
            clear HN
            go_wp2
            go_roundw
            case rel => exact ⟨k + 1, by omega, by go_num, int_congr HN2.out.symm, hb.alloc hb.size _⟩
            case measure => simp [intOf]; omega
          · cases hf : pfx name px
            · have HN2 : Hid (Chg.sum A (k + 1) = Chg.sum A k) := by rw [HN.out, amt_other _ _ _ _ hf, Int.add_zero]; exact rfl
              clear HN
              go_wp2_with (go_at_call 22; refine (hasPrefix_any name px _ hn hx).mono ?_; rintro e w' ⟨rfl, n, rfl⟩)
              go_roundw
              case rel => exact ⟨k + 1, by omega, by go_num, int_congr HN2.out.symm, below_drewN (hb.alloc hb.size _) _⟩
              case measure => simp [intOf]; omega
            · have HN2 : Hid (Chg.sum A (k + 1) = Chg.sum A k + sz * ((name.size : Int) + 1)) := by rw [HN.out, amt_yes _ _ _ (by omega) hf]; exact rfl
              clear HN
              go_wp2_with (go_at_call 22; refine (hasPrefix_any name px _ hn hx).mono ?_; rintro e w' ⟨rfl, n, rfl⟩)
              go_roundw
              case rel => exact ⟨k + 1, by omega, by go_num, int_congr HN2.out.symm, below_drewN (hb.alloc hb.size _) _⟩
              case measure => simp [intOf]; omega
      · have HN2 : Hid (Chg.sum A (k + 1) = Chg.sum A k) := by rw [HN.out, amt_plain, Int.add_zero]; exact rfl
        clear HN
        go_wp2
        go_roundw
        case rel => exact ⟨k + 1, by omega, by go_num, int_congr HN2.out.symm, hb.alloc hb.size _⟩
        case measure => simp [intOf]; omega
    · obtain rfl : k = to - fr := by omega
      go_wp2
      go_ret
      exact ⟨rfl, hb⟩
end Go.Proofs.Qxb6608906a
