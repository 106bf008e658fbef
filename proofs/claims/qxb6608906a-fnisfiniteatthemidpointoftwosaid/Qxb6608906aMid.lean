import Derived.Test.Qxb6608906aFloatWalks
namespace Go.Proofs.Qxb6608906a
open Go.RowKit

theorem order_nanOf (x y : Nat) (w : World) : FloatKind.f64.format.order (nanOf x y w) 0 = none := Flt.order_nan _ _ (nanOf_nan x y w)
theorem fin_nanOf (x y : Nat) (w : World) : Flt.fin (nanOf x y w) = false := Flt.fin_nan _ (nanOf_nan x y w)

set_option maxHeartbeats 400000 in
theorem mid_ff (x y : Nat) (hx : x < 18446744073709551616) (hy : y < 18446744073709551616) (cx : Flt.fin x = true) (cy : Flt.fin y = true) (w : World) :
    Calls Try.prog 3 #[.float .f64 x, .float .f64 y] w fun e w' => e = .returned (.bool true) ∧ ∃ n, w' = w.drewN n := by
  obtain ⟨a, ha, la⟩ := Flt.mul_fin x cx
  replace ha := run_mul_some 22 _ _ _ ha
  obtain ⟨rx, sx, ox⟩ := Flt.sub_fin x cx
  replace sx := run_sub_some 22 _ _ _ sx
  have qx : (FloatKind.f64.format.order rx 0 == some .eq) = true := ox
  clear ox
  have fx : Flt.fin x = true := cx
  obtain ⟨b, hb, lb⟩ := Flt.mul_fin y cy
  replace hb := run_mul_some 22 _ _ _ hb
  obtain ⟨ry, sy, oy⟩ := Flt.sub_fin y cy
  replace sy := run_sub_some 22 _ _ _ sy
  have qy : (FloatKind.f64.format.order ry 0 == some .eq) = true := oy
  clear oy
  have fy : Flt.fin y = true := cy
  obtain ⟨m, hm, fm⟩ := Flt.add_low a b la lb
  have lm : m < 18446744073709551616 := Ieee.double.add_lt hm
  replace hm := run_add_some 22 _ _ _ hm
  clear la lb cx cy
  have hon := order_nanOf
  go_enter Try.func3, Try.ntmps3
  go_wp2_with fail
  refine (zzIsFinite_any x hx _).mono ?_
  rintro e w' ⟨rfl, rfl⟩
  go_wp2_with fail
  refine (zzIsFinite_any y hy _).mono ?_
  rintro e w' ⟨rfl, rfl⟩
  go_wp2_with fail
  refine (zzIsFinite_any m lm _).mono ?_
  rintro e w' ⟨rfl, rfl⟩
  go_wp2
  go_ret
  exact ⟨rfl, 0, rfl⟩

set_option maxHeartbeats 400000 in
theorem mid_fi (x y : Nat) (hx : x < 18446744073709551616) (hy : y < 18446744073709551616) (cx : Flt.fin x = true) (cy : Flt.isInf y = true) (w : World) :
    Calls Try.prog 3 #[.float .f64 x, .float .f64 y] w fun e w' => e = .returned (.bool true) ∧ ∃ n, w' = w.drewN n := by
  obtain ⟨a, ha, la⟩ := Flt.mul_fin x cx
  replace ha := run_mul_some 22 _ _ _ ha
  obtain ⟨rx, sx, ox⟩ := Flt.sub_fin x cx
  replace sx := run_sub_some 22 _ _ _ sx
  have qx : (FloatKind.f64.format.order rx 0 == some .eq) = true := ox
  clear ox
  have fx : Flt.fin x = true := cx
  obtain ⟨b, hb, lb⟩ := Flt.mul_inf y cy
  replace hb := run_mul_some 22 _ _ _ hb
  have sy := run_sub_none 22 _ _ (Flt.sub_inf y cy)
  have fy := Flt.fin_inf y cy
  obtain ⟨m, hm, fm⟩ := Flt.add_fin_inf a b (Flt.fin_low a la) lb
  have lm : m < 18446744073709551616 := Ieee.double.add_lt hm
  replace hm := run_add_some 22 _ _ _ hm
  clear la lb cx cy
  have hon := order_nanOf
  go_enter Try.func3, Try.ntmps3
  go_wp2_with fail
  refine (zzIsFinite_any x hx _).mono ?_
  rintro e w' ⟨rfl, rfl⟩
  go_wp2_with fail
  refine (zzIsFinite_any y hy _).mono ?_
  rintro e w' ⟨rfl, rfl⟩
  go_wp2_with fail
  refine (zzIsFinite_any m lm _).mono ?_
  rintro e w' ⟨rfl, rfl⟩
  go_wp2
  go_ret
  exact ⟨rfl, 1, rfl⟩

set_option maxHeartbeats 400000 in
theorem mid_fn (x y : Nat) (hx : x < 18446744073709551616) (hy : y < 18446744073709551616) (cx : Flt.fin x = true) (cy : Flt.isNan y = true) (w : World) :
    Calls Try.prog 3 #[.float .f64 x, .float .f64 y] w fun e w' => e = .returned (.bool true) ∧ ∃ n, w' = w.drewN n := by
  obtain ⟨a, ha, la⟩ := Flt.mul_fin x cx
  replace ha := run_mul_some 22 _ _ _ ha
  obtain ⟨rx, sx, ox⟩ := Flt.sub_fin x cx
  replace sx := run_sub_some 22 _ _ _ sx
  have qx : (FloatKind.f64.format.order rx 0 == some .eq) = true := ox
  clear ox
  have fx : Flt.fin x = true := cx
  have hb := run_mul_none 22 _ _ (Flt.mul_nan y 4602678819172646912 cy)
  have sy := run_sub_none 22 _ _ (Flt.sub_nan y cy)
  have fy := Flt.fin_nan y cy
  have hm := fun w1 => run_add_none 22 a (nanOf y 4602678819172646912 w1) (Flt.add_nan_right _ _ (nanOf_nan y 4602678819172646912 w1))
  clear la cx cy
  have hfn := fin_nanOf
  have hon := order_nanOf
  go_enter Try.func3, Try.ntmps3
  go_wp2_with fail
  refine (zzIsFinite_any x hx _).mono ?_
  rintro e w' ⟨rfl, rfl⟩
  go_wp2_with fail
  refine (zzIsFinite_any y hy _).mono ?_
  rintro e w' ⟨rfl, rfl⟩
  go_wp2_with fail
  refine (zzIsFinite_any _ (nanOf_lt _ _ _) _).mono ?_
  rintro e w' ⟨rfl, rfl⟩
  go_wp2
  go_ret
  exact ⟨rfl, 3, rfl⟩

set_option maxHeartbeats 400000 in
theorem mid_if (x y : Nat) (hx : x < 18446744073709551616) (hy : y < 18446744073709551616) (cx : Flt.isInf x = true) (cy : Flt.fin y = true) (w : World) :
    Calls Try.prog 3 #[.float .f64 x, .float .f64 y] w fun e w' => e = .returned (.bool true) ∧ ∃ n, w' = w.drewN n := by
  obtain ⟨a, ha, la⟩ := Flt.mul_inf x cx
  replace ha := run_mul_some 22 _ _ _ ha
  have sx := run_sub_none 22 _ _ (Flt.sub_inf x cx)
  have fx := Flt.fin_inf x cx
  obtain ⟨b, hb, lb⟩ := Flt.mul_fin y cy
  replace hb := run_mul_some 22 _ _ _ hb
  obtain ⟨ry, sy, oy⟩ := Flt.sub_fin y cy
  replace sy := run_sub_some 22 _ _ _ sy
  have qy : (FloatKind.f64.format.order ry 0 == some .eq) = true := oy
  clear oy
  have fy : Flt.fin y = true := cy
  obtain ⟨m, hm, fm⟩ := Flt.add_inf_fin a b la (Flt.fin_low b lb)
  have lm : m < 18446744073709551616 := Ieee.double.add_lt hm
  replace hm := run_add_some 22 _ _ _ hm
  clear la lb cx cy
  have hon := order_nanOf
  go_enter Try.func3, Try.ntmps3
  go_wp2_with fail
  refine (zzIsFinite_any x hx _).mono ?_
  rintro e w' ⟨rfl, rfl⟩
  go_wp2_with fail
  refine (zzIsFinite_any y hy _).mono ?_
  rintro e w' ⟨rfl, rfl⟩
  go_wp2_with fail
  refine (zzIsFinite_any m lm _).mono ?_
  rintro e w' ⟨rfl, rfl⟩
  go_wp2
  go_ret
  exact ⟨rfl, 1, rfl⟩

set_option maxHeartbeats 400000 in
theorem mid_ii (x y : Nat) (hx : x < 18446744073709551616) (hy : y < 18446744073709551616) (cx : Flt.isInf x = true) (cy : Flt.isInf y = true) (w : World) :
    Calls Try.prog 3 #[.float .f64 x, .float .f64 y] w fun e w' => e = .returned (.bool true) ∧ ∃ n, w' = w.drewN n := by
  obtain ⟨a, ha, la⟩ := Flt.mul_inf x cx
  replace ha := run_mul_some 22 _ _ _ ha
  have sx := run_sub_none 22 _ _ (Flt.sub_inf x cx)
  have fx := Flt.fin_inf x cx
  obtain ⟨b, hb, lb⟩ := Flt.mul_inf y cy
  replace hb := run_mul_some 22 _ _ _ hb
  have sy := run_sub_none 22 _ _ (Flt.sub_inf y cy)
  have fy := Flt.fin_inf y cy
  rcases Flt.add_inf_inf a b la lb with ⟨m, hm, fm⟩ | hm
  · have lm : m < 18446744073709551616 := Ieee.double.add_lt hm
    replace hm := run_add_some 22 _ _ _ hm
    clear la lb cx cy
    have hon := order_nanOf
    go_enter Try.func3, Try.ntmps3
    go_wp2_with fail
    refine (zzIsFinite_any x hx _).mono ?_
    rintro e w' ⟨rfl, rfl⟩
    go_wp2_with fail
    refine (zzIsFinite_any y hy _).mono ?_
    rintro e w' ⟨rfl, rfl⟩
    go_wp2_with fail
    refine (zzIsFinite_any m lm _).mono ?_
    rintro e w' ⟨rfl, rfl⟩
    go_wp2
    go_ret
    exact ⟨rfl, 2, rfl⟩
  · replace hm := run_add_none 22 _ _ hm
    clear la lb cx cy
    have hfn := fin_nanOf
    have hon := order_nanOf
    go_enter Try.func3, Try.ntmps3
    go_wp2_with fail
    refine (zzIsFinite_any x hx _).mono ?_
    rintro e w' ⟨rfl, rfl⟩
    go_wp2_with fail
    refine (zzIsFinite_any y hy _).mono ?_
    rintro e w' ⟨rfl, rfl⟩
    go_wp2_with fail
    refine (zzIsFinite_any _ (nanOf_lt _ _ _) _).mono ?_
    rintro e w' ⟨rfl, rfl⟩
    go_wp2
    go_ret
    exact ⟨rfl, 3, rfl⟩

set_option maxHeartbeats 400000 in
theorem mid_in (x y : Nat) (hx : x < 18446744073709551616) (hy : y < 18446744073709551616) (cx : Flt.isInf x = true) (cy : Flt.isNan y = true) (w : World) :
    Calls Try.prog 3 #[.float .f64 x, .float .f64 y] w fun e w' => e = .returned (.bool true) ∧ ∃ n, w' = w.drewN n := by
  obtain ⟨a, ha, la⟩ := Flt.mul_inf x cx
  replace ha := run_mul_some 22 _ _ _ ha
  have sx := run_sub_none 22 _ _ (Flt.sub_inf x cx)
  have fx := Flt.fin_inf x cx
  have hb := run_mul_none 22 _ _ (Flt.mul_nan y 4602678819172646912 cy)
  have sy := run_sub_none 22 _ _ (Flt.sub_nan y cy)
  have fy := Flt.fin_nan y cy
  have hm := fun w1 => run_add_none 22 a (nanOf y 4602678819172646912 w1) (Flt.add_nan_right _ _ (nanOf_nan y 4602678819172646912 w1))
  clear la cx cy
  have hfn := fin_nanOf
  have hon := order_nanOf
  go_enter Try.func3, Try.ntmps3
  go_wp2_with fail
  refine (zzIsFinite_any x hx _).mono ?_
  rintro e w' ⟨rfl, rfl⟩
  go_wp2_with fail
  refine (zzIsFinite_any y hy _).mono ?_
  rintro e w' ⟨rfl, rfl⟩
  go_wp2_with fail
  refine (zzIsFinite_any _ (nanOf_lt _ _ _) _).mono ?_
  rintro e w' ⟨rfl, rfl⟩
  go_wp2
  go_ret
  exact ⟨rfl, 4, rfl⟩

set_option maxHeartbeats 400000 in
theorem mid_nf (x y : Nat) (hx : x < 18446744073709551616) (hy : y < 18446744073709551616) (cx : Flt.isNan x = true) (cy : Flt.fin y = true) (w : World) :
    Calls Try.prog 3 #[.float .f64 x, .float .f64 y] w fun e w' => e = .returned (.bool true) ∧ ∃ n, w' = w.drewN n := by
  have ha := run_mul_none 22 _ _ (Flt.mul_nan x 4602678819172646912 cx)
  have sx := run_sub_none 22 _ _ (Flt.sub_nan x cx)
  have fx := Flt.fin_nan x cx
  obtain ⟨b, hb, lb⟩ := Flt.mul_fin y cy
  replace hb := run_mul_some 22 _ _ _ hb
  obtain ⟨ry, sy, oy⟩ := Flt.sub_fin y cy
  replace sy := run_sub_some 22 _ _ _ sy
  have qy : (FloatKind.f64.format.order ry 0 == some .eq) = true := oy
  clear oy
  have fy : Flt.fin y = true := cy
  have hm := fun w1 => run_add_none 22 (nanOf x 4602678819172646912 w1) b (Flt.add_nan_left _ _ (nanOf_nan x 4602678819172646912 w1))
  clear lb cx cy
  have hfn := fin_nanOf
  have hon := order_nanOf
  go_enter Try.func3, Try.ntmps3
  go_wp2_with fail
  refine (zzIsFinite_any x hx _).mono ?_
  rintro e w' ⟨rfl, rfl⟩
  go_wp2_with fail
  refine (zzIsFinite_any y hy _).mono ?_
  rintro e w' ⟨rfl, rfl⟩
  go_wp2_with fail
  refine (zzIsFinite_any _ (nanOf_lt _ _ _) _).mono ?_
  rintro e w' ⟨rfl, rfl⟩
  go_wp2
  go_ret
  exact ⟨rfl, 3, rfl⟩

set_option maxHeartbeats 400000 in
theorem mid_ni (x y : Nat) (hx : x < 18446744073709551616) (hy : y < 18446744073709551616) (cx : Flt.isNan x = true) (cy : Flt.isInf y = true) (w : World) :
    Calls Try.prog 3 #[.float .f64 x, .float .f64 y] w fun e w' => e = .returned (.bool true) ∧ ∃ n, w' = w.drewN n := by
  have ha := run_mul_none 22 _ _ (Flt.mul_nan x 4602678819172646912 cx)
  have sx := run_sub_none 22 _ _ (Flt.sub_nan x cx)
  have fx := Flt.fin_nan x cx
  obtain ⟨b, hb, lb⟩ := Flt.mul_inf y cy
  replace hb := run_mul_some 22 _ _ _ hb
  have sy := run_sub_none 22 _ _ (Flt.sub_inf y cy)
  have fy := Flt.fin_inf y cy
  have hm := fun w1 => run_add_none 22 (nanOf x 4602678819172646912 w1) b (Flt.add_nan_left _ _ (nanOf_nan x 4602678819172646912 w1))
  clear lb cx cy
  have hfn := fin_nanOf
  have hon := order_nanOf
  go_enter Try.func3, Try.ntmps3
  go_wp2_with fail
  refine (zzIsFinite_any x hx _).mono ?_
  rintro e w' ⟨rfl, rfl⟩
  go_wp2_with fail
  refine (zzIsFinite_any y hy _).mono ?_
  rintro e w' ⟨rfl, rfl⟩
  go_wp2_with fail
  refine (zzIsFinite_any _ (nanOf_lt _ _ _) _).mono ?_
  rintro e w' ⟨rfl, rfl⟩
  go_wp2
  go_ret
  exact ⟨rfl, 4, rfl⟩

set_option maxHeartbeats 400000 in
theorem mid_nn (x y : Nat) (hx : x < 18446744073709551616) (hy : y < 18446744073709551616) (cx : Flt.isNan x = true) (cy : Flt.isNan y = true) (w : World) :
    Calls Try.prog 3 #[.float .f64 x, .float .f64 y] w fun e w' => e = .returned (.bool true) ∧ ∃ n, w' = w.drewN n := by
  have ha := run_mul_none 22 _ _ (Flt.mul_nan x 4602678819172646912 cx)
  have sx := run_sub_none 22 _ _ (Flt.sub_nan x cx)
  have fx := Flt.fin_nan x cx
  have hb := run_mul_none 22 _ _ (Flt.mul_nan y 4602678819172646912 cy)
  have sy := run_sub_none 22 _ _ (Flt.sub_nan y cy)
  have fy := Flt.fin_nan y cy
  have hm := fun w1 w2 => run_add_none 22 (nanOf x 4602678819172646912 w1) (nanOf y 4602678819172646912 w2) (Flt.add_nan_left _ _ (nanOf_nan x 4602678819172646912 w1))
  clear cx cy
  have hfn := fin_nanOf
  have hon := order_nanOf
  go_enter Try.func3, Try.ntmps3
  go_wp2_with fail
  refine (zzIsFinite_any x hx _).mono ?_
  rintro e w' ⟨rfl, rfl⟩
  go_wp2_with fail
  refine (zzIsFinite_any y hy _).mono ?_
  rintro e w' ⟨rfl, rfl⟩
  go_wp2_with fail
  refine (zzIsFinite_any _ (nanOf_lt _ _ _) _).mono ?_
  rintro e w' ⟨rfl, rfl⟩
  go_wp2
  go_ret
  exact ⟨rfl, 5, rfl⟩

theorem mid_any (x y : Nat) (hx : x < 18446744073709551616) (hy : y < 18446744073709551616) (w : World) :
    Calls Try.prog 3 #[.float .f64 x, .float .f64 y] w fun e w' => e = .returned (.bool true) ∧ ∃ n, w' = w.drewN n := by
  rcases Flt.three x with ⟨a, _, _⟩ | ⟨_, a, _⟩ | ⟨_, _, a⟩ <;> rcases Flt.three y with ⟨b, _, _⟩ | ⟨_, b, _⟩ | ⟨_, _, b⟩
  · exact mid_ff x y hx hy a b w
  · exact mid_fi x y hx hy a b w
  · exact mid_fn x y hx hy a b w
  · exact mid_if x y hx hy a b w
  · exact mid_ii x y hx hy a b w
  · exact mid_in x y hx hy a b w
  · exact mid_nf x y hx hy a b w
  · exact mid_ni x y hx hy a b w
  · exact mid_nn x y hx hy a b w
end Go.Proofs.Qxb6608906a
