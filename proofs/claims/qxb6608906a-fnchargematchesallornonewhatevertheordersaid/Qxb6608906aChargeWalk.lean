import Derived.Test.Qxb6608906aSmall
namespace Go.Proofs.Qxb6608906a
open Go.RowKit
set_option linter.unusedVariables false

theorem below1 (w : World) (o : Obj) (n : Nat) : Below w.heap.size w ((w.alloc o).drewN n) := below_drewN ((Below.refl _ _).alloc (Nat.le_refl _) o) n

section
variable (cb : Nat) (name pre : ByteArray) (v : Int) (w : World)

set_option maxHeartbeats 400000 in
theorem charge_nil (pt : Option Addr) (hc : Cov w cb name pt v) :
    Calls Try.prog 26 #[.pointer (some ⟨cb, 0, none⟩), .agg #[.string pre, .pointer none]] w fun e w' => e = .returned (.tuple #[]) ∧ Below w.heap.size w w' := by
  have h1 := hc.name
  have h2 := hc.lt
  go_enter Try.func26, Try.ntmps26
  go_wp2
  go_quiet (fail)
  go_wp2
  refine bodyPost_ret (results_none rfl _ _ _) rfl ?_
  exact ⟨rfl, below1 _ _ _⟩

set_option maxHeartbeats 400000 in
theorem charge_patt (pb : Nat) (x : Addr) (hc : Cov w cb name (some x) v) :
    Calls Try.prog 26 #[.pointer (some ⟨cb, 0, none⟩), .agg #[.string pre, .pointer (some ⟨pb, 0, none⟩)]] w fun e w' => e = .returned (.tuple #[]) ∧ Below w.heap.size w w' := by
  have h1 := hc.name
  have h2 := hc.lt
  have h3 := hc.patt
  go_enter Try.func26, Try.ntmps26
  go_wp2
  go_quiet (fail)
  go_wp2
  refine bodyPost_ret (results_none rfl _ _ _) rfl ?_
  exact ⟨rfl, below1 _ _ _⟩

set_option maxHeartbeats 400000 in
theorem charge_over (pb : Nat) (hc : Cov w cb name none v) (ho : overB v = true) :
    Calls Try.prog 26 #[.pointer (some ⟨cb, 0, none⟩), .agg #[.string pre, .pointer (some ⟨pb, 0, none⟩)]] w fun e w' => e = .returned (.tuple #[]) ∧ Below w.heap.size w w' := by
  have h1 := hc.name
  have h2 := hc.lt
  have h3 := hc.patt
  go_enter Try.func26, Try.ntmps26
  go_wp2
  go_quiet (fail)
  go_wp2_with fail
  refine (over_any cb name none v _ ?_).mono ?_
  · exact hc.below (below1 _ _ _)
  rintro e w' ⟨rfl, rfl⟩
  go_wp2
  refine bodyPost_ret (results_none rfl _ _ _) rfl ?_
  exact ⟨rfl, below1 _ _ _⟩

set_option maxHeartbeats 400000 in
theorem charge_past (pb : Nat) (sz : Int) (hc : Cov w cb name none v) (hs : name.size ≤ 1048576)
    (p1 : w.cell? ⟨pb, 1, none⟩ = some (.int .i64 sz)) (ho : overB v = false) (hq : overB (sz * ((name.size : Int) + 1)) = true) :
    Calls Try.prog 26 #[.pointer (some ⟨cb, 0, none⟩), .agg #[.string pre, .pointer (some ⟨pb, 0, none⟩)]] w fun e w' => e = .returned (.tuple #[]) ∧ Below w.heap.size w w' := by
  have h1 := hc.name
  have h2 := hc.lt
  have h3 := hc.patt
  have p3 := lt_cell p1
  go_enter Try.func26, Try.ntmps26
  go_wp2
  go_quiet (fail)
  go_wp2_with fail
  refine (over_any cb name none v _ ?_).mono ?_
  · exact hc.below (below1 _ _ _)
  rintro e w' ⟨rfl, rfl⟩
  go_wp2_with fail
  refine (past_any sz name _ hs).mono ?_
  rintro e w' ⟨rfl, rfl⟩
  go_wp2
  refine bodyPost_ret (results_none rfl _ _ _) rfl ?_
  exact ⟨rfl, below1 _ _ _⟩

set_option maxHeartbeats 400000 in
theorem charge_other (pb : Nat) (sz : Int) (hc : Cov w cb name none v) (hs : name.size ≤ 1048576) (hp : pre.size ≤ maxLen)
    (p1 : w.cell? ⟨pb, 1, none⟩ = some (.int .i64 sz)) (p2 : w.cell? ⟨pb, 2, none⟩ = some (.string pre)) (ho : overB v = false) (hq : overB (sz * ((name.size : Int) + 1)) = false) (hf : pfx name pre = false) :
    Calls Try.prog 26 #[.pointer (some ⟨cb, 0, none⟩), .agg #[.string pre, .pointer (some ⟨pb, 0, none⟩)]] w fun e w' => e = .returned (.tuple #[]) ∧ Below w.heap.size w w' := by
  have h1 := hc.name
  have h2 := hc.lt
  have h3 := hc.patt
  have p3 := lt_cell p1
  go_enter Try.func26, Try.ntmps26
  go_wp2
  go_quiet (fail)
  go_wp2_with fail
  refine (over_any cb name none v _ ?_).mono ?_
  · exact hc.below (below1 _ _ _)
  rintro e w' ⟨rfl, rfl⟩
  go_wp2_with fail
  refine (past_any sz name _ hs).mono ?_
  rintro e w' ⟨rfl, rfl⟩
  go_wp2_with fail
  refine (stringsHasPrefix_any name pre _ (by unfold maxLen; omega) hp).mono ?_
  rintro e w' ⟨rfl, rfl⟩
  go_wp2
  refine bodyPost_ret (results_none rfl _ _ _) rfl ?_
  exact ⟨rfl, below1 _ _ _⟩

set_option maxHeartbeats 400000 in
theorem charge_yes (pb : Nat) (sz : Int) (hc : Cov w cb name none v) (hs : name.size ≤ 1048576) (hp : pre.size ≤ maxLen)
    (p1 : w.cell? ⟨pb, 1, none⟩ = some (.int .i64 sz)) (p2 : w.cell? ⟨pb, 2, none⟩ = some (.string pre)) (ho : overB v = false) (hq : overB (sz * ((name.size : Int) + 1)) = false) (hf : pfx name pre = true) (h0 : 0 ≤ sz) (hv : 0 ≤ v) :
    Calls Try.prog 26 #[.pointer (some ⟨cb, 0, none⟩), .agg #[.string pre, .pointer (some ⟨pb, 0, none⟩)]] w fun e w' => e = .returned (.tuple #[]) ∧ Cov w' cb name none (v + sz * ((name.size : Int) + 1)) ∧ Beside cb w w' := by
  have h1 := hc.name
  have h2 := hc.lt
  have h3 := hc.patt
  have h4 := hc.work
  have h5 := hc.free
  have p3 := lt_cell p1
  have q1 : sz * ((name.size : Int) + 1) ≤ 10000000 := by have := of_decide_eq_false hq; omega
  have q2 : 0 ≤ sz * ((name.size : Int) + 1) := Int.mul_nonneg h0 (by omega)
  have q3 : v ≤ 10000000 := by have := of_decide_eq_false ho; omega
  go_enter Try.func26, Try.ntmps26
  go_wp2
  go_quiet (fail)
  go_wp2_with fail
  refine (over_any cb name none v _ ?_).mono ?_
  · exact hc.below (below1 _ _ _)
  rintro e w' ⟨rfl, rfl⟩
  go_wp2_with fail
  refine (past_any sz name _ hs).mono ?_
  rintro e w' ⟨rfl, rfl⟩
  go_wp2_with fail
  refine (stringsHasPrefix_any name pre _ (by unfold maxLen; omega) hp).mono ?_
  rintro e w' ⟨rfl, rfl⟩
  go_wp2
  go_region
  go_wp2
  go_end0
  exact ⟨rfl, (hc.below (below1 _ _ _)).set _, (Beside.of_below (below1 _ _ _)).setCell _ _⟩

/-- The amount that one pattern is charged. -/
def amtOf (name : ByteArray) (pl : Bool) (sz : Int) (pre : ByteArray) : Int := Chg.amt pl sz ((name.size : Int) + 1) (pfx name pre)

theorem charge_any (pb : Nat) (sz : Int) (hc : Cov w cb name none v) (hs : name.size ≤ 1048576) (hp : pre.size ≤ maxLen)
    (p1 : w.cell? ⟨pb, 1, none⟩ = some (.int .i64 sz)) (p2 : w.cell? ⟨pb, 2, none⟩ = some (.string pre)) (h0 : 0 ≤ sz) (hv : 0 ≤ v) :
    Calls Try.prog 26 #[.pointer (some ⟨cb, 0, none⟩), .agg #[.string pre, .pointer (some ⟨pb, 0, none⟩)]] w fun e w' => e = .returned (.tuple #[]) ∧ Cov w' cb name none (Chg.step v (amtOf name false sz pre)) ∧ Beside cb w w' := by
  cases ho : overB v with
  | true =>
    refine (charge_over cb name pre v w pb hc ho).mono ?_
    rintro e w' ⟨rfl, hb⟩
    refine ⟨rfl, ?_, Beside.of_below hb⟩
    rw [Chg.step, if_pos (of_decide_eq_true ho)]; exact hc.below hb
  | false =>
    have ho' := of_decide_eq_false ho
    cases hq : overB (sz * ((name.size : Int) + 1)) with
    | true =>
      refine (charge_past cb name pre v w pb sz hc hs p1 ho hq).mono ?_
      rintro e w' ⟨rfl, hb⟩
      refine ⟨rfl, ?_, Beside.of_below hb⟩
      rw [Chg.step, if_neg ho', amtOf, Chg.amt, if_pos (Or.inr (Or.inl (of_decide_eq_true hq))), Int.add_zero]; exact hc.below hb
    | false =>
      have hq' := of_decide_eq_false hq
      cases hf : pfx name pre with
      | false =>
        refine (charge_other cb name pre v w pb sz hc hs hp p1 p2 ho hq hf).mono ?_
        rintro e w' ⟨rfl, hb⟩
        refine ⟨rfl, ?_, Beside.of_below hb⟩
        rw [Chg.step, if_neg ho', amtOf, Chg.amt, if_pos (Or.inr (Or.inr hf)), Int.add_zero]; exact hc.below hb
      | true =>
        refine (charge_yes cb name pre v w pb sz hc hs hp p1 p2 ho hq hf h0 hv).mono ?_
        rintro e w' ⟨rfl, hcov, hb⟩
        refine ⟨rfl, ?_, hb⟩
        rw [Chg.step, if_neg ho', amtOf, Chg.amt, if_neg (by simp [hf]; omega)]; exact hcov
end

end Go.Proofs.Qxb6608906a
