import Derived.Test.Qxb6605686aClone
import Derived.WalkKit
import Derived.ProofKit
import Derived.OpenShut
import Derived.ShutString
import Derived.ChangeOld
import Derived.Below
namespace Go.Proofs.Qxb6605686a.fnFindingFallsInExactlyOneClass
open Go.ChangeShapes Go.WideShapes Go.ChangeAt Go.RowKit
open Go.ChangeMaps (open_string shut_string)
set_option linter.unusedVariables false

theorem own : ownKnob Try.prog.godebug = none := by kernel_rfl
theorem laidOut : laidOutB Try.prog = true := by kernel_rfl

/-- WHAT THE WALK IS TOLD OF A SLICE OF INTEGERS THAT CAME IN: it is nil; or it leads to a row of 'cap' cells, the numbers 'zs' (the first 'len' are its elements, the rest its spare room), each fitting its kind. -/
def IsRow (k : IntKind) (w : World) (a : Option Addr) (len cap : Nat) (zs : List Int) : Prop :=
  (a = none ∧ len = 0 ∧ cap = 0 ∧ zs = []) ∨
  ∃ x, a = some x ∧ len ≤ cap ∧ cap ≤ maxLen ∧ zs.length = cap ∧ (∀ i, i < zs.length → w.cell? (x.add i) = some (.int k (zs.getD i 0))) ∧ ∀ n ∈ zs, (Lit.int k n).wf = true

theorem spot_of_cell {w : World} {a : Addr} {v : Value} (h : w.cell? a = some v) : a.spot = none := by
  unfold World.cell? at h
  split at h
  · split at h
    · cases h
    · rename_i hs; simpa using hs
  · cases h
theorem add_mk (b off n : Nat) : (⟨b, off, none⟩ : Addr).add n = ⟨b, off + n, none⟩ := by
  unfold Addr.add
  split
  · rename_i h; rw [h]; rfl
  · rfl

/-- The elements of a row that came in. -/
theorem IsRow.bytes {w : World} {a : Option Addr} {len cap : Nat} {zs : List Int} (h : IsRow .u8 w a len cap zs) : IsBytes w a len (fun i => zs.getD i 0) := by
  rcases h with ⟨rfl, rfl, _, _⟩ | ⟨x, rfl, hl, _, hz, hc, _⟩
  · intro i hi; omega
  · intro i hi
    have hs : x.spot = none := by
      have := hc 0 (by omega)
      exact spot_of_cell (by simpa [Addr.add] using this)
    obtain ⟨b, off, sp⟩ := x
    simp only at hs
    subst hs
    have := hc i (by omega)
    rw [add_mk] at this
    exact ⟨b, off, rfl, this⟩

set_option maxHeartbeats 400000 in
theorem bytes_any (a0 a2 : Bool) (a : Option Addr) (len cap : Nat) (w : World) (hl : len ≤ maxLen) :
    Calls Try.prog 4 #[.bool a0, .slice a len cap, .bool a2] w fun e w' => e = .returned (.bool (decide (len ≤ 1048576))) ∧ w' = w := by
  unfold maxLen at hl
  by_cases h : 1048576 < len
  · have h' : decide (len ≤ 1048576) = false := decide_eq_false (by omega)
    go_enter Try.func4, Try.ntmps4
    go_wp2
    go_ret
    exact ⟨by rw [h']; rfl, rfl⟩
  · have h' : decide (len ≤ 1048576) = true := decide_eq_true (by omega)
    go_enter Try.func4, Try.ntmps4
    go_wp2
    go_ret
    exact ⟨by rw [h']; rfl, rfl⟩

set_option maxHeartbeats 400000 in
theorem never_any (s u : Bool) (r : Value) (w : World) :
    Calls Try.prog 7 #[.agg #[.bool s, r, .bool u]] w fun e w' => e = .returned (.bool (!s && !u)) ∧ Below w.heap.size w w' := by
  cases s <;> cases u
  all_goals
    go_enter Try.func7, Try.ntmps7
    go_wp2
    go_ret
    exact ⟨rfl, (Below.refl _ _).alloc (Nat.le_refl _) _⟩

set_option maxHeartbeats 400000 in
theorem zzNever_any (s u : Bool) (a : Option Addr) (len cap : Nat) (w : World) :
    Calls Try.prog 6 #[.bool s, .slice a len cap, .bool u] w fun e w' => e = .returned (.bool (!s && !u)) ∧ Below w.heap.size w w' := by
  go_enter Try.func6, Try.ntmps6
  go_wp2_with fail
  refine (never_any s u _ _).mono ?_
  rintro e w' ⟨rfl, hb⟩
  go_wp2
  go_ret
  exact ⟨rfl, hb⟩

/-- The row's rest, behind the clone. -/
theorem clone_any (a : Option Addr) (len cap : Nat) (z : Nat → Int) (w : World) (hz : IsBytes w a len z) (hl : len ≤ 1048576) :
    Calls Try.prog 5 #[.slice a len cap] w fun e w' => ∃ a' n c, e = .returned (.slice a' n c) ∧ Below w.heap.size w w' := by
  cases a with
  | none =>
    refine (clone_nil len cap w).mono ?_
    rintro e w' ⟨rfl, rfl⟩
    exact ⟨_, _, _, rfl, Below.refl _ _⟩
  | some x =>
    refine (clone_some x len cap z w hz hl).mono ?_
    rintro e w' ⟨g, _, rfl, _, hb⟩
    exact ⟨_, _, _, rfl, hb⟩

set_option maxHeartbeats 1000000 in
theorem walk (a0 : Bool) (a1 : Option Addr) (len1 cap1 : Nat) (z1 : List Int) (a2 : Bool) (w : World) (w1 : IsRow .u8 w a1 len1 cap1 z1) :
    Calls Try.prog 3 #[.bool a0, .slice a1 len1 cap1, .bool a2] w fun e w' => e = .returned (.bool true) ∧ Below w.heap.size w w' := by
  have hl : len1 ≤ maxLen := by
    rcases w1 with ⟨_, h, _, _⟩ | ⟨x, _, h, h', _⟩
    · unfold maxLen; omega
    · omega
  have HB : Hid (IsBytes w a1 len1 (fun i => z1.getD i 0)) := w1.bytes
  clear w1
  by_cases hbig : len1 ≤ 1048576
  · have hd : decide (len1 ≤ 1048576) = true := decide_eq_true hbig
    by_cases hsu : a0 = true ∧ a2 = true
    · obtain ⟨rfl, rfl⟩ := hsu
      go_enter Try.func3, Try.ntmps3
      go_wp2_with fail
      refine (bytes_any true true a1 len1 cap1 _ hl).mono ?_
      rintro e w' ⟨rfl, rfl⟩
      go_wp2
      go_ret
      exact ⟨rfl, Below.refl _ _⟩
    · cases a0 <;> cases a2 <;> first | exact absurd ⟨rfl, rfl⟩ hsu | clear hsu
      all_goals
        go_enter Try.func3, Try.ntmps3
        go_wp2_with fail
        refine (bytes_any _ _ a1 len1 cap1 _ hl).mono ?_
        rintro e w' ⟨rfl, rfl⟩
        go_wp2_with fail
        refine (clone_any a1 len1 cap1 _ _ HB.out hbig).mono ?_
        rintro e w2 ⟨a', n', c', rfl, b2⟩
        clear HB
        go_wp2_with fail
        refine (zzNever_any _ _ _ _ _ _).mono ?_
        rintro e w3 ⟨rfl, b3⟩
        go_wp2_with fail
        refine (zzNever_any _ _ _ _ _ _).mono ?_
        rintro e w4 ⟨rfl, b4⟩
        go_wp2
        go_ret
        exact ⟨rfl, (b2.trans (b3.mono b2.size)).trans (b4.mono (Nat.le_trans b2.size b3.size))⟩
  · have hd : decide (len1 ≤ 1048576) = false := decide_eq_false hbig
    go_enter Try.func3, Try.ntmps3
    go_wp2_with fail
    refine (bytes_any a0 a2 a1 len1 cap1 _ hl).mono ?_
    rintro e w' ⟨rfl, rfl⟩
    go_wp2
    go_ret
    exact ⟨rfl, Below.refl _ _⟩


/-! ### THE ROW's STEP: WRITTEN OUT: LEAVE IT -/
set_option maxRecDepth 100000 in
theorem lifted (os : Os) (started : os.Started) (H : Type) (enc : TypeId × Value → H) :
    ReturnsInHanded {} Try.checked os 3 .any (Rows.fnFindingFallsInExactlyOneClassSpec.pre6 enc Try.prog Try.f3 Rows.fnFindingFallsInExactlyOneClassRow.domain false) (Rows.fnFindingFallsInExactlyOneClassSpec.post enc Try.prog Try.f3 false true false false) := by
  refine returnsInHanded_of_change (C := Try.checked) own started (by kernel_rfl) Try.func3
    (ChangeSpec.witness6 (enc := enc) (C := Try.checked) false ⟨#[], #[.bool false, .slice none 0 0, .bool false], []⟩ 8 (by kernel_rfl) (by kernel_rfl) (by kernel_rfl) (by kernel_rfl)) ?_
  intro W base args ds gs before hval0 hW hcnd _
  have hval : ∀ (j : Nat) t v, Try.f3.params[j]? = some t → args[j]? = some v → Value.okWide Try.prog W .any base t v := hval0
  have hW' := hW
  obtain ⟨p, q, hA0, hV, rfl, hfz, hnd⟩ := hW
  have hA : DataW.TrodAll enc Try.prog W 0 (fun _ => true) true Try.f3.params.toList args.toList ds p := hA0
  rw [Try.params3] at hA hval
  obtain ⟨v0, vs0, d0, ds0, p0, q0, hargs, rfl, rfl, h0, r0⟩ := trodAll_cons hA
  obtain ⟨v1, vs1, d1, ds1, p1, q1, rfl, rfl, rfl, h1, r1⟩ := trodAll_cons r0
  obtain ⟨v2, vs2, d2, ds2, p2, q2, rfl, rfl, rfl, h2, r2⟩ := trodAll_cons r1
  obtain ⟨rfl, rfl, rfl⟩ := trodAll_nil r2
  obtain rfl : args = #[v0, v1, v2] := by cases args; simp_all
  obtain ⟨rfl, rfl⟩ := trodVars_none hV
  obtain ⟨a0, rfl, rfl, rfl⟩ := open_bool Try.underlying4 (hval 0 4 v0 rfl rfl) h0
  obtain ⟨a1, len1, cap1, rfl⟩ := okWide_slice Try.underlying22 (hval 1 22 v1 rfl rfl)
  have k1 := h1
  have lt1 : ∀ x ∈ p1, x.block < W.heap.size := by obtain ⟨m, hm⟩ := k1; exact DataW.trod_lt m _ _ _ hm
  obtain ⟨z1, w1⟩ : ∃ zs, IsRow .u8 W a1 len1 cap1 zs := by
    obtain ⟨fuel, hf⟩ := h1
    rcases open_ints Try.underlying22 Try.underlying5 (by kernel_rfl) hf with ⟨hcs, _⟩ | ⟨x, l, c, zs, hcs, _, hl, hm, hz, _, hcell, hwz⟩
    · simp [Value.cells] at hcs
      obtain ⟨rfl, rfl, rfl⟩ := hcs
      exact ⟨[], .inl ⟨rfl, rfl, rfl, rfl⟩⟩
    · simp [Value.cells] at hcs
      obtain ⟨rfl, rfl, rfl⟩ := hcs
      exact ⟨zs, .inr ⟨_, rfl, hl, hm, by simpa using hz, hcell, hwz⟩⟩
  obtain ⟨a2, rfl, rfl, rfl⟩ := open_bool Try.underlying4 (hval 2 4 v2 rfl rfl) h2
  clear hA0 hval0
  refine (walk a0 a1 len1 cap1 z1 a2 W w1).mono fun e W' ⟨he, bel⟩ => ?_
  subst he
  exact ⟨_, rfl, _, _, _, [], _, [], hW', trodAll_mk1 (shut_bool Try.underlying4 _), (trodAll_cons_mk (shut_bool Try.underlying4 _) (trodAll_cons_mk (Below.trod laidOut (by kernel_rfl) (of_decide_eq_true (by kernel_rfl)) k1 bel lt1) (trodAll_cons_mk (shut_bool Try.underlying4 _) trodAll_mk0))), rfl, bel.frame _, fun h => by cases h⟩

theorem over : Rows.fnFindingFallsInExactlyOneClassRow.holds Try.pinned (OpenSpec.ofChange Rows.fnFindingFallsInExactlyOneClassSpec) :=
  OpenClaim.holds_of_wide 3 Try.f3 rfl rfl rfl rfl rfl rfl rfl ⟨rfl, rfl, rfl, rfl, rfl⟩ rfl rfl rfl rfl rfl (by kernel_rfl) Try.func3 (by kernel_rfl)
    (of_decide_eq_true (by kernel_rfl)) (by unfold Func.isWrapper; first | (rw [if_pos (by decide +kernel)]; kernel_rfl) | (rw [if_neg (by decide +kernel)]; exact ⟨rfl, rfl⟩))
    (fun os started H enc _ => lifted os started H enc)

/-- THE STATEMENT -/
theorem proved : Rows.FnFindingFallsInExactlyOneClassSaid := over
end Go.Proofs.Qxb6605686a.fnFindingFallsInExactlyOneClass
