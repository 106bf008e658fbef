import Derived.Test.Qxb6608906aRows
import Derived.Test.Qxb6608906aFloats
import Derived.WalkKit
import Derived.WalkSpells
import Derived.WalkLawsBesides
import Derived.Laws.FloatArith
namespace Go.Proofs.Qxb6608906a
open Go.RowKit

theorem bits_run (b : Nat) (w : World) : (callFunc 31 #[.float .f64 b]).run Try.prog w = .ok (.value (.int .u64 b)) w := by
  rw [run_callFunc_extern (e := Extern.MathFloatBits.float64bits) Try.func31 (by kernel_rfl) (by kernel_rfl) (by kernel_rfl) (by kernel_rfl)]
  rfl
theorem frombits_run (n : Int) (w : World) : (callFunc 30 #[.int .u64 n]).run Try.prog w = .ok (.value (.float .f64 n.toNat)) w := by
  rw [run_callFunc_extern (e := Extern.MathFloatBits.float64frombits) Try.func30 (by kernel_rfl) (by kernel_rfl) (by kernel_rfl) (by kernel_rfl)]
  rfl

theorem and_rung (b : Nat) (hb : b < 18446744073709551616) : (bits BinOp.andNot IntKind.u64 (b : Int) 9223372036854775808).toNat = Flt.rung b := by
  have h := u64_andNot_nat b 9223372036854775808 hb (by omega)
  have e : ((9223372036854775808 : Nat) : Int) = 9223372036854775808 := rfl
  rw [e] at h
  rw [h, Int.toNat_natCast]
  unfold Flt.rung
  exact Nat.and_two_pow_sub_one_eq_mod b 63

theorem ret_float {k : FloatKind} {a b : Nat} (h : a = b) : Ending.returned (.float k a) = .returned (.float k b) := by rw [h]
theorem ret_bool {a b : Bool} (h : a = b) : Ending.returned (.bool a) = .returned (.bool b) := by rw [h]

set_option maxHeartbeats 400000 in
theorem abs_any (b : Nat) (hb : b < 18446744073709551616) (w : World) :
    Calls Try.prog 27 #[.float .f64 b] w fun e w' => e = .returned (.float .f64 (Flt.rung b)) ∧ w' = w := by
  have h1 := bits_run
  have h2 := frombits_run
  go_enter Try.func27, Try.ntmps27
  go_wp2
  go_ret
  exact ⟨ret_float (and_rung b hb), rfl⟩

set_option maxHeartbeats 400000 in
theorem isInf_any (b : Nat) (hb : b < 18446744073709551616) (w : World) :
    Calls Try.prog 24 #[.float .f64 b, .int .i64 0] w fun e w' => e = .returned (.bool (Flt.isInf b)) ∧ w' = w := by
  go_enter Try.func24, Try.ntmps24
  go_wp2_with (go_at_call 27; refine (abs_any b hb _).mono ?_; rintro e w' ⟨rfl, rfl⟩)
  go_ret
  exact ⟨ret_bool (Flt.order_max b), rfl⟩

set_option maxHeartbeats 400000 in
theorem isNaN_any (b : Nat) (w : World) :
    Calls Try.prog 25 #[.float .f64 b] w fun e w' => e = .returned (.bool (Flt.isNan b)) ∧ w' = w := by
  go_enter Try.func25, Try.ntmps25
  go_wp2
  go_ret
  exact ⟨ret_bool (Flt.order_self b), rfl⟩

set_option maxHeartbeats 400000 in
theorem isFinite_any (b : Nat) (hb : b < 18446744073709551616) (w : World) :
    Calls Try.prog 17 #[.float .f64 b] w fun e w' => e = .returned (.bool (Flt.fin b)) ∧ w' = w := by
  have hf := Flt.fin_of b
  have HF : Hid (Flt.fin b = (!Flt.isInf b && !Flt.isNan b)) := hf
  clear hf
  cases hi : Flt.isInf b
  · go_enter Try.func17, Try.ntmps17
    go_wp2_with (first | (go_at_call 24; refine (isInf_any b hb _).mono ?_; rintro e w' ⟨rfl, rfl⟩) | (go_at_call 25; refine (isNaN_any b _).mono ?_; rintro e w' ⟨rfl, rfl⟩))
    go_ret
    exact ⟨ret_bool (by rw [HF.out, hi]; rfl), rfl⟩
  · go_enter Try.func17, Try.ntmps17
    go_wp2_with (first | (go_at_call 24; refine (isInf_any b hb _).mono ?_; rintro e w' ⟨rfl, rfl⟩) | (go_at_call 25; refine (isNaN_any b _).mono ?_; rintro e w' ⟨rfl, rfl⟩))
    go_ret
    exact ⟨ret_bool (by rw [HF.out, hi]; rfl), rfl⟩

set_option maxHeartbeats 400000 in
theorem zzIsFinite_any (b : Nat) (hb : b < 18446744073709551616) (w : World) :
    Calls Try.prog 7 #[.float .f64 b] w fun e w' => e = .returned (.bool (Flt.fin b)) ∧ w' = w := by
  go_enter Try.func7, Try.ntmps7
  go_wp2_with (go_at_call 17; refine (isFinite_any b hb _).mono ?_; rintro e w' ⟨rfl, rfl⟩)
  go_ret
  exact ⟨rfl, rfl⟩

/-- The NaN that the tape gives. -/
def nanOf (x y : Nat) (w : World) : Nat := (Question.nanBits .f64 x y).cut (w.tape w.drawn (.nanBits .f64 x y))
theorem nanOf_nan (x y : Nat) (w : World) : Flt.isNan (nanOf x y w) = true := Flt.nan_tape _
theorem nan_lt (b : Nat) (h : ∃ t, b = t % 2 * 9223372036854775808 + 9218868437227405312 + 1 + t / 2 % 4503599627370495) : b < 18446744073709551616 := by
  obtain ⟨t, rfl⟩ := h
  have h1 : t / 2 % 4503599627370495 < 4503599627370495 := Nat.mod_lt _ (by omega)
  omega
theorem nanOf_lt (x y : Nat) (w : World) : nanOf x y w < 18446744073709551616 := nan_lt _ ⟨_, rfl⟩

theorem run_add_none (t : TypeId) (x y : Nat) (h : Ieee.double.add x y = none) (w : World) : (binOp .add t (.float .f64 x) (.float .f64 y)).run Try.prog w = .ok (.float .f64 (nanOf x y w)) w.drew := by
  have h' : FloatKind.f64.format.add x y = none := h
  simp [binOp, Op.floatArith, h', Question.forced, nanOf]
theorem run_sub_none (t : TypeId) (x y : Nat) (h : Ieee.double.sub x y = none) (w : World) : (binOp .sub t (.float .f64 x) (.float .f64 y)).run Try.prog w = .ok (.float .f64 (nanOf x y w)) w.drew := by
  have h' : FloatKind.f64.format.sub x y = none := h
  simp [binOp, Op.floatArith, h', Question.forced, nanOf]
theorem run_mul_none (t : TypeId) (x y : Nat) (h : Ieee.double.mul x y = none) (w : World) : (binOp .mul t (.float .f64 x) (.float .f64 y)).run Try.prog w = .ok (.float .f64 (nanOf x y w)) w.drew := by
  have h' : FloatKind.f64.format.mul x y = none := h
  simp [binOp, Op.floatArith, h', Question.forced, nanOf]
theorem run_add_some (t : TypeId) (x y r : Nat) (h : Ieee.double.add x y = some r) (w : World) : (binOp .add t (.float .f64 x) (.float .f64 y)).run Try.prog w = .ok (.float .f64 r) w :=
  run_float_arith w .add t .f64 x y r h
theorem run_sub_some (t : TypeId) (x y r : Nat) (h : Ieee.double.sub x y = some r) (w : World) : (binOp .sub t (.float .f64 x) (.float .f64 y)).run Try.prog w = .ok (.float .f64 r) w :=
  run_float_arith w .sub t .f64 x y r h
theorem run_mul_some (t : TypeId) (x y r : Nat) (h : Ieee.double.mul x y = some r) (w : World) : (binOp .mul t (.float .f64 x) (.float .f64 y)).run Try.prog w = .ok (.float .f64 r) w :=
  run_float_arith w .mul t .f64 x y r h

theorem neg_rung (b : Nat) : Flt.rung (Op.negFloat .f64 b) = Flt.rung b := by
  unfold Op.negFloat Flt.rung
  have e1 : FloatKind.f64.format.exponentBits + FloatKind.f64.format.fractionBits = 63 := rfl
  rw [e1]
  have := Nat.xor_mod_two_pow (a := b) (b := 2 ^ 63) (n := 63)
  have e2 : (2 : Nat) ^ 63 = 9223372036854775808 := by decide
  rw [e2] at *
  rw [this]; simp
theorem neg_fin (b : Nat) : Flt.fin (Op.negFloat .f64 b) = Flt.fin b := by unfold Flt.fin; rw [neg_rung]
theorem neg_lt (b : Nat) (hb : b < 18446744073709551616) : Op.negFloat .f64 b < 18446744073709551616 := by
  unfold Op.negFloat
  have e1 : FloatKind.f64.format.exponentBits + FloatKind.f64.format.fractionBits = 63 := rfl
  rw [e1]
  have := Nat.xor_lt_two_pow (x := b) (y := 2 ^ 63) (n := 64) (by omega) (by omega)
  omega

end Go.Proofs.Qxb6608906a
