import Derived.Test.Qxb6608906aFloatWalks
namespace Go.Proofs.Qxb6608906a
open Go.RowKit

theorem run_neg (b : Nat) (w : World) : (Op.unary .neg (.float .f64 b)).run Try.prog w = .ok (.float .f64 (Op.negFloat .f64 b)) w := rfl

set_option maxHeartbeats 400000 in
theorem within_any (b : Nat) (hb : b < 18446744073709551616) (w : World) :
    Calls Try.prog 4 #[.float .f64 b] w fun e w' => e = .returned (.bool true) ∧ w' = w := by
  have HO : Hid (((FloatKind.f64.format.order b 18442240474082181119 == some .gt || FloatKind.f64.format.order b 18442240474082181119 == some .eq) && (FloatKind.f64.format.order b 9218868437227405311 == some .lt || FloatKind.f64.format.order b 9218868437227405311 == some .eq)) = Flt.fin b) := Flt.order_le b
  have hn := neg_lt b hb
  have hneg := run_neg
  have hnf := neg_fin b
  generalize hc1 : (FloatKind.f64.format.order b 18442240474082181119 == some .gt || FloatKind.f64.format.order b 18442240474082181119 == some .eq) = c1 at HO
  generalize hc2 : (FloatKind.f64.format.order b 9218868437227405311 == some .lt || FloatKind.f64.format.order b 9218868437227405311 == some .eq) = c2 at HO
  cases c1
  · have hf : Flt.fin b = false := HO.out.symm
    clear HO hc2
    go_enter Try.func4, Try.ntmps4
    go_wp2_with fail
    refine (zzIsFinite_any b hb _).mono ?_
    rintro e w' ⟨rfl, rfl⟩
    go_wp2_with fail
    refine (zzIsFinite_any _ hn _).mono ?_
    rintro e w' ⟨rfl, rfl⟩
    go_wp2
    go_ret
    exact ⟨rfl, rfl⟩
  · have hf : Flt.fin b = c2 := HO.out.symm
    clear HO
    go_enter Try.func4, Try.ntmps4
    go_wp2_with fail
    refine (zzIsFinite_any b hb _).mono ?_
    rintro e w' ⟨rfl, rfl⟩
    go_wp2_with fail
    refine (zzIsFinite_any _ hn _).mono ?_
    rintro e w' ⟨rfl, rfl⟩
    go_wp2
    go_ret
    exact ⟨rfl, rfl⟩
end Go.Proofs.Qxb6608906a
