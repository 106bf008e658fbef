import Derived.Test.Qxb6608906aChargeWalk
namespace Go.Proofs.Qxb6608906a
open Go.RowKit
set_option linter.unusedVariables false

set_option maxHeartbeats 400000 in
theorem plainRes_any (pre : ByteArray) (w : World) :
    Calls Try.prog 20 #[.string pre] w fun e w' => e = .returned (.agg #[.string pre, .pointer none]) ∧ Below w.heap.size w w' := by
  go_enter Try.func20, Try.ntmps20
  go_wp2
  exact bodyPost_ret (v := .agg #[.string pre, .pointer none]) (by simp [results, Try.results20, go_sem]) rfl ⟨rfl, (Below.refl _ _).alloc (Nat.le_refl _) _⟩

set_option maxHeartbeats 400000 in
theorem pattRes_any (sz : Int) (pre : ByteArray) (w : World) :
    Calls Try.prog 21 #[.int .i64 sz, .string pre] w fun e w' => ∃ pb, e = .returned (.agg #[.string pre, .pointer (some ⟨pb, 0, none⟩)]) ∧ w'.cell? ⟨pb, 1, none⟩ = some (.int .i64 sz) ∧ w'.cell? ⟨pb, 2, none⟩ = some (.string pre) ∧ Below w.heap.size w w' := by
  go_enter Try.func21, Try.ntmps21
  go_wp2
  exact bodyPost_ret (v := .agg #[.string pre, .pointer (some ⟨w.heap.size + 1, 0, none⟩)]) (by simp [results, Try.results21, go_sem]) rfl ⟨_, rfl, by simp [go_sem], by simp [go_sem], ((Below.refl _ _).alloc (Nat.le_refl _) _).alloc (by simp) _⟩

set_option maxHeartbeats 400000 in
theorem zzcharge_nil (cb : Nat) (name pre : ByteArray) (pt : Option Addr) (v : Int) (w : World) (hc : Cov w cb name pt v) :
    Calls Try.prog 19 #[.pointer (some ⟨cb, 0, none⟩), .agg #[.string pre, .pointer none]] w fun e w' => e = .returned (.tuple #[]) ∧ Below w.heap.size w w' := by
  go_enter Try.func19, Try.ntmps19
  go_wp2_with fail
  have hb : Below w.heap.size w (w.alloc (.cells #[.string pre, .pointer none] 41)) := (Below.refl _ _).alloc (Nat.le_refl _) _
  refine (charge_nil cb name pre v _ pt ?_).mono ?_
  · exact hc.below hb
  rintro e w' ⟨rfl, hb2⟩
  go_wp2
  go_end0
  exact ⟨rfl, hb.trans (hb2.mono hb.size)⟩

set_option maxHeartbeats 400000 in
theorem zzcharge_patt (cb pb : Nat) (name pre : ByteArray) (x : Addr) (v : Int) (w : World) (hc : Cov w cb name (some x) v) :
    Calls Try.prog 19 #[.pointer (some ⟨cb, 0, none⟩), .agg #[.string pre, .pointer (some ⟨pb, 0, none⟩)]] w fun e w' => e = .returned (.tuple #[]) ∧ Below w.heap.size w w' := by
  go_enter Try.func19, Try.ntmps19
  go_wp2_with fail
  have hb : Below w.heap.size w (w.alloc (.cells #[.string pre, .pointer (some ⟨pb, 0, none⟩)] 41)) := (Below.refl _ _).alloc (Nat.le_refl _) _
  refine (charge_patt cb name pre v _ pb x ?_).mono ?_
  · exact hc.below hb
  rintro e w' ⟨rfl, hb2⟩
  go_wp2
  go_end0
  exact ⟨rfl, hb.trans (hb2.mono hb.size)⟩

set_option maxHeartbeats 400000 in
theorem zzcharge_any (cb pb : Nat) (name pre : ByteArray) (v sz : Int) (w : World) (hc : Cov w cb name none v) (hs : name.size ≤ 1048576) (hp : pre.size ≤ maxLen)
    (p1 : w.cell? ⟨pb, 1, none⟩ = some (.int .i64 sz)) (p2 : w.cell? ⟨pb, 2, none⟩ = some (.string pre)) (h0 : 0 ≤ sz) (hv : 0 ≤ v) :
    Calls Try.prog 19 #[.pointer (some ⟨cb, 0, none⟩), .agg #[.string pre, .pointer (some ⟨pb, 0, none⟩)]] w fun e w' => e = .returned (.tuple #[]) ∧ Cov w' cb name none (Chg.step v (amtOf name false sz pre)) ∧ Beside cb w w' := by
  have p3 := lt_cell p1
  go_enter Try.func19, Try.ntmps19
  go_wp2_with fail
  have hb : Below w.heap.size w (w.alloc (.cells #[.string pre, .pointer (some ⟨pb, 0, none⟩)] 41)) := (Below.refl _ _).alloc (Nat.le_refl _) _
  refine (charge_any cb name pre v _ pb sz ?_ hs hp ?_ ?_ h0 hv).mono ?_
  · exact hc.below hb
  · exact (hb.cell (p := ⟨pb, 1, none⟩) p3).trans p1
  · exact (hb.cell (p := ⟨pb, 2, none⟩) p3).trans p2
  rintro e w' ⟨rfl, hcov, hb2⟩
  go_wp2
  go_end0
  exact ⟨rfl, hcov, (Beside.of_below hb).trans hb2⟩

/-- The work behind one charge, of a plain coverage or of a pattern's. -/
def after (pt : Option Addr) (v a : Int) : Int := match pt with
  | none => Chg.step v a
  | some _ => v

theorem step_zero (v : Int) : Chg.step v 0 = v := by unfold Chg.step; split <;> omega

set_option maxHeartbeats 400000 in
theorem one_plain (cb : Nat) (name pre : ByteArray) (pt : Option Addr) (v sz : Int) (w : World) (hc : Cov w cb name pt v) :
    Calls Try.prog 10 #[.pointer (some ⟨cb, 0, none⟩), .agg #[.bool true, .int .i64 sz, .string pre]] w fun e w' => e = .returned (.tuple #[]) ∧ Below w.heap.size w w' := by
  go_enter Try.func10, Try.ntmps10
  go_wp2_with fail
  have hb : Below w.heap.size w (w.alloc (.cells #[.bool true, .int .i64 sz, .string pre] 28)) := (Below.refl _ _).alloc (Nat.le_refl _) _
  refine (plainRes_any pre _).mono ?_
  rintro e w1 ⟨rfl, hb1⟩
  go_wp2_with fail
  refine (zzcharge_nil cb name pre pt v _ ?_).mono ?_
  · exact (hc.below hb).below hb1
  rintro e w2 ⟨rfl, hb2⟩
  go_wp2
  refine bodyPost_ret (results_none rfl _ _ _) rfl ?_
  exact ⟨rfl, (hb.trans (hb1.mono hb.size)).trans (hb2.mono (Nat.le_trans hb.size hb1.size))⟩

set_option maxHeartbeats 400000 in
theorem one_patt (cb : Nat) (name pre : ByteArray) (x : Addr) (v sz : Int) (w : World) (hc : Cov w cb name (some x) v) :
    Calls Try.prog 10 #[.pointer (some ⟨cb, 0, none⟩), .agg #[.bool false, .int .i64 sz, .string pre]] w fun e w' => e = .returned (.tuple #[]) ∧ Below w.heap.size w w' := by
  go_enter Try.func10, Try.ntmps10
  go_wp2_with fail
  have hb : Below w.heap.size w (w.alloc (.cells #[.bool false, .int .i64 sz, .string pre] 28)) := (Below.refl _ _).alloc (Nat.le_refl _) _
  refine (pattRes_any sz pre _).mono ?_
  rintro e w1 ⟨pb, rfl, p1, p2, hb1⟩
  go_wp2_with fail
  refine (zzcharge_patt cb pb name pre x v _ ?_).mono ?_
  · exact (hc.below hb).below hb1
  rintro e w2 ⟨rfl, hb2⟩
  go_wp2
  go_end0
  exact ⟨rfl, (hb.trans (hb1.mono hb.size)).trans (hb2.mono (Nat.le_trans hb.size hb1.size))⟩

set_option maxHeartbeats 400000 in
theorem one_yes (cb : Nat) (name pre : ByteArray) (v sz : Int) (w : World) (hc : Cov w cb name none v) (hs : name.size ≤ 1048576) (hp : pre.size ≤ maxLen) (h0 : 0 ≤ sz) (hv : 0 ≤ v) :
    Calls Try.prog 10 #[.pointer (some ⟨cb, 0, none⟩), .agg #[.bool false, .int .i64 sz, .string pre]] w fun e w' => e = .returned (.tuple #[]) ∧ Cov w' cb name none (Chg.step v (amtOf name false sz pre)) ∧ Beside cb w w' := by
  go_enter Try.func10, Try.ntmps10
  go_wp2_with fail
  have hb : Below w.heap.size w (w.alloc (.cells #[.bool false, .int .i64 sz, .string pre] 28)) := (Below.refl _ _).alloc (Nat.le_refl _) _
  refine (pattRes_any sz pre _).mono ?_
  rintro e w1 ⟨pb, rfl, p1, p2, hb1⟩
  go_wp2_with fail
  refine (zzcharge_any cb pb name pre v sz _ ?_ hs hp p1 p2 h0 hv).mono ?_
  · exact (hc.below hb).below hb1
  rintro e w2 ⟨rfl, hcov, hb2⟩
  go_wp2
  go_end0
  exact ⟨rfl, hcov, ((Beside.of_below hb).trans (Beside.of_below hb1)).trans hb2⟩

/-- 'chargeOne', whatever the coverage and the pattern. -/
theorem one_any (cb : Nat) (name pre : ByteArray) (pt : Option Addr) (pl : Bool) (v sz : Int) (w : World) (hc : Cov w cb name pt v) (hs : name.size ≤ 1048576) (hp : pre.size ≤ maxLen) (h0 : 0 ≤ sz) (hv : 0 ≤ v) :
    Calls Try.prog 10 #[.pointer (some ⟨cb, 0, none⟩), .agg #[.bool pl, .int .i64 sz, .string pre]] w fun e w' => e = .returned (.tuple #[]) ∧ Cov w' cb name pt (after pt v (amtOf name pl sz pre)) ∧ Beside cb w w' := by
  cases pl with
  | true =>
    refine (one_plain cb name pre pt v sz w hc).mono ?_
    rintro e w' ⟨rfl, hb⟩
    have e0 : amtOf name true sz pre = 0 := by simp [amtOf, Chg.amt]
    refine ⟨rfl, ?_, Beside.of_below hb⟩
    rw [e0]
    cases pt with
    | none => simp only [after]; rw [step_zero]; exact hc.below hb
    | some x => exact hc.below hb
  | false =>
    cases pt with
    | none => exact one_yes cb name pre v sz w hc hs hp h0 hv
    | some x =>
      refine (one_patt cb name pre x v sz w hc).mono ?_
      rintro e w' ⟨rfl, hb⟩
      exact ⟨rfl, hc.below hb, Beside.of_below hb⟩

/-! ### The new coverages -/

set_option maxHeartbeats 400000 in
theorem newPlain_any (name : ByteArray) (v : Int) (w : World) :
    Calls Try.prog 16 #[.string name, .int .i64 v] w fun e w' => ∃ cb, e = .returned (.pointer (some ⟨cb, 0, none⟩)) ∧ w.heap.size ≤ cb ∧ Cov w' cb name none v ∧ Below w.heap.size w w' := by
  go_enter Try.func16, Try.ntmps16
  go_wp2
  go_ret
  exact ⟨_, rfl, Nat.le_refl _, ⟨by simp, by simp, by simp, by simp⟩, (Below.refl _ _).alloc (Nat.le_refl _) _⟩

set_option maxHeartbeats 400000 in
theorem newPatt_any (name : ByteArray) (v : Int) (w : World) :
    Calls Try.prog 18 #[.string name, .int .i64 v] w fun e w' => ∃ cb x, e = .returned (.pointer (some ⟨cb, 0, none⟩)) ∧ w.heap.size ≤ cb ∧ Cov w' cb name (some x) v ∧ Below w.heap.size w w' := by
  go_enter Try.func18, Try.ntmps18
  go_wp2
  go_ret
  exact ⟨_, ⟨w.heap.size, 0, none⟩, rfl, Nat.le_succ _, ⟨by simp, by simp, by simp, by simp⟩, ((Below.refl _ _).alloc (Nat.le_refl _) _).alloc (by simp) _⟩

set_option maxHeartbeats 400000 in
theorem newAny_any (name : ByteArray) (isP : Bool) (v : Int) (w : World) :
    Calls Try.prog 9 #[.string name, .bool isP, .int .i64 v] w fun e w' => ∃ cb pt, e = .returned (.pointer (some ⟨cb, 0, none⟩)) ∧ (pt = none ↔ isP = false) ∧ w.heap.size ≤ cb ∧ Cov w' cb name pt v ∧ Below w.heap.size w w' := by
  cases isP with
  | false =>
    go_enter Try.func9, Try.ntmps9
    go_wp2_with fail
    refine (newPlain_any name v _).mono ?_
    rintro e w' ⟨cb, rfl, h1, h2, h3⟩
    go_wp2
    go_ret
    exact ⟨cb, none, rfl, by simp, h1, h2, h3⟩
  | true =>
    go_enter Try.func9, Try.ntmps9
    go_wp2_with fail
    refine (newPatt_any name v _).mono ?_
    rintro e w' ⟨cb, x, rfl, h1, h2, h3⟩
    go_wp2
    go_ret
    exact ⟨cb, some x, rfl, by simp, h1, h2, h3⟩

/-! ### 'workAsRuled' -/
set_option maxHeartbeats 400000 in
theorem ruled_any (start s v : Int) (w : World) (h : Chg.ruled start s v) (h0 : 0 ≤ start) (h1 : start ≤ 20000000) (h2 : 0 ≤ s) (h3 : s ≤ 100000000000000) :
    Calls Try.prog 14 #[.int .i64 start, .int .i64 s, .int .i64 v] w fun e w' => e = .returned (.bool true) ∧ w' = w := by
  have HR : Hid (Chg.ruled start s v) := h
  clear h
  by_cases a : 10000000 < start
  · obtain rfl := HR.out.1 a
    go_enter Try.func14, Try.ntmps14
    go_wp2
    go_ret
    exact ⟨retb (by simp), rfl⟩
  · by_cases b : start + s ≤ 10000000
    · obtain rfl := (HR.out.2 (by omega)).1 b
      go_enter Try.func14, Try.ntmps14
      go_wp2
      go_ret
      exact ⟨retb (by simp), rfl⟩
    · obtain ⟨c, d⟩ := (HR.out.2 (by omega)).2 (by omega)
      go_enter Try.func14, Try.ntmps14
      go_wp2
      go_ret
      exact ⟨retb (by simp; try omega), rfl⟩

end Go.Proofs.Qxb6608906a
