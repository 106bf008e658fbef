/- The plain law of the charges: no Go in sight. -/
namespace Go.Proofs.Qxb6608906a.Chg

/-- One charge of 'a' onto the work 'v': none once it is past the bound. -/
def step (v a : Int) : Int := if 10000000 < v then v else v + a
/-- The work behind n charges. -/
def run (A : Nat → Int) (v : Int) : Nat → Int
  | 0 => v
  | n + 1 => step (run A v n) (A n)
/-- What n charges are worth. -/
def sum (A : Nat → Int) : Nat → Int
  | 0 => 0
  | n + 1 => sum A n + A n
/-- Each charge lies between 0 and the bound. -/
def Ok (A : Nat → Int) (n : Nat) : Prop := ∀ i, i < n → 0 ≤ A i ∧ A i ≤ 10000000

theorem Ok.less {A : Nat → Int} {n m : Nat} (h : Ok A n) (hm : m ≤ n) : Ok A m := fun i hi => h i (by omega)

theorem sum_nonneg {A : Nat → Int} : ∀ {n : Nat}, Ok A n → 0 ≤ sum A n ∧ sum A n ≤ 10000000 * n
  | 0, _ => by simp [sum]
  | n + 1, h => by
    have := sum_nonneg (h.less (Nat.le_succ n))
    have := h n (Nat.lt_succ_self n)
    simp only [sum]
    omega

/-- What the Go text calls 'as ruled'. -/
def ruled (start s w : Int) : Prop := (10000000 < start → w = start) ∧ (start ≤ 10000000 → (start + s ≤ 10000000 → w = start + s) ∧ (10000000 < start + s → 10000000 < w ∧ w ≤ 20000000))

theorem run_ruled {A : Nat → Int} {v : Int} : ∀ {n : Nat}, Ok A n → ruled v (sum A n) (run A v n)
  | 0, _ => ⟨fun _ => rfl, fun _ => ⟨fun _ => by simp [sum, run], fun h => by simp only [sum] at h; omega⟩⟩
  | n + 1, h => by
    have ih := run_ruled (A := A) (v := v) (h.less (Nat.le_succ n))
    have hs := sum_nonneg (h.less (Nat.le_succ n))
    have ha := h n (Nat.lt_succ_self n)
    simp only [sum, run, step, ruled] at *
    by_cases h1 : 10000000 < run A v n
    · rw [if_pos h1]
      by_cases h2 : 10000000 < v
      · exact ⟨fun _ => ih.1 h2, fun _ => by omega⟩
      · have h3 := ih.2 (by omega)
        refine ⟨fun _ => by omega, fun _ => ⟨fun _ => ?_, fun _ => ?_⟩⟩
        · by_cases h4 : v + sum A n ≤ 10000000
          · have := h3.1 h4; omega
          · omega
        · by_cases h4 : v + sum A n ≤ 10000000
          · have := h3.1 h4; omega
          · exact h3.2 (by omega)
    · rw [if_neg h1]
      by_cases h2 : 10000000 < v
      · have := ih.1 h2; omega
      · have h3 := ih.2 (by omega)
        refine ⟨fun _ => by omega, fun _ => ⟨fun _ => ?_, fun _ => ?_⟩⟩
        · by_cases h4 : v + sum A n ≤ 10000000
          · have := h3.1 h4; omega
          · have := h3.2 (by omega); omega
        · by_cases h4 : v + sum A n ≤ 10000000
          · have := h3.1 h4; omega
          · have := h3.2 (by omega); omega

theorem run_bd {A : Nat → Int} {v : Int} {n : Nat} (h : Ok A n) (h0 : 0 ≤ v) (h1 : v ≤ 20000000) : 0 ≤ run A v n ∧ run A v n ≤ 20000000 := by
  have hr := run_ruled (v := v) h
  have hs := sum_nonneg h
  unfold ruled at hr
  by_cases h2 : 10000000 < v
  · have := hr.1 h2; omega
  · have h3 := hr.2 (by omega)
    by_cases h4 : v + sum A n ≤ 10000000
    · have := h3.1 h4; omega
    · have := h3.2 (by omega); omega

theorem sum_split (A : Nat → Int) (m : Nat) : ∀ n, sum A (m + n) = sum A m + sum (fun i => A (m + i)) n
  | 0 => by simp [sum]
  | n + 1 => by rw [← Nat.add_assoc]; simp only [sum]; rw [sum_split A m n]; omega

theorem sum_front (A : Nat → Int) : ∀ n, sum A (n + 1) = A 0 + sum (fun i => A (i + 1)) n
  | 0 => by simp [sum]
  | n + 1 => by rw [sum, sum_front A n]; simp only [sum]; omega

theorem sum_congr {A B : Nat → Int} : ∀ {n}, (∀ i, i < n → A i = B i) → sum A n = sum B n
  | 0, _ => rfl
  | n + 1, h => by simp only [sum]; rw [sum_congr (fun i hi => h i (by omega)), h n (by omega)]

/-- The order does not matter for the sum. -/
theorem sum_back (A : Nat → Int) : ∀ n, sum (fun i => A (n - 1 - i)) n = sum A n
  | 0 => rfl
  | n + 1 => by
    rw [sum_front]
    have e : sum (fun i => A (n + 1 - 1 - (i + 1))) n = sum (fun i => A (n - 1 - i)) n := sum_congr (fun i _ => by rw [show n + 1 - 1 - (i + 1) = n - 1 - i by omega])
    rw [e, sum_back A n]
    simp only [sum, Nat.add_sub_cancel, Nat.sub_zero]
    omega

/-- The cut: head, tail and whole. -/
theorem cut_law {w sH sT wH wT wW : Int} (h1 : ruled w sH wH) (h2 : ruled 0 sT wT) (h3 : ruled w (sH + sT) wW) (p1 : 0 ≤ sH) (p2 : 0 ≤ sT) (p3 : 0 ≤ w) (p4 : w ≤ 20000000) :
    (10000000 < wW ↔ 10000000 < wH + wT) ∧ (10000000 < wW → wW ≤ 20000000) ∧ (¬ 10000000 < wW → wW = wH + wT) := by
  unfold ruled at *
  have h2' := h2.2 (by omega)
  by_cases a : 10000000 < w
  · have := h1.1 a
    have := h3.1 a
    by_cases b : 0 + sT ≤ 10000000
    · have := h2'.1 b; omega
    · have := h2'.2 (by omega); omega
  · have h1' := h1.2 (by omega)
    have h3' := h3.2 (by omega)
    by_cases b : 0 + sT ≤ 10000000
    · have e1 := h2'.1 b
      by_cases c : w + sH ≤ 10000000
      · have e2 := h1'.1 c
        by_cases d : w + (sH + sT) ≤ 10000000
        · have := h3'.1 d; omega
        · have := h3'.2 (by omega); omega
      · have e2 := h1'.2 (by omega)
        have := h3'.2 (by omega)
        omega
    · have e1 := h2'.2 (by omega)
      have := h3'.2 (by omega)
      by_cases c : w + sH ≤ 10000000
      · have e2 := h1'.1 c; omega
      · have e2 := h1'.2 (by omega); omega

theorem over_law {w s v : Int} (h : ruled w s v) (hs : 0 ≤ s) : 10000000 < v ↔ 10000000 < w + s := by
  unfold ruled at h
  by_cases a : 10000000 < w
  · have := h.1 a; omega
  · have h' := h.2 (by omega)
    by_cases b : w + s ≤ 10000000
    · have := h'.1 b; omega
    · have := h'.2 (by omega); omega

/-- What one pattern is charged: 'per' is the name's length and one. -/
def amt (plain : Bool) (size per : Int) (fits : Bool) : Int := if plain = true ∨ 10000000 < size * per ∨ fits = false then 0 else size * per

theorem amt_ok (plain : Bool) (size per : Int) (fits : Bool) (h0 : 0 ≤ size) (h1 : 1 ≤ per) : 0 ≤ amt plain size per fits ∧ amt plain size per fits ≤ 10000000 := by
  unfold amt
  split
  · omega
  · rename_i h
    have : 0 ≤ size * per := Int.mul_nonneg h0 (by omega)
    omega

/-- 'size > bound / per' says that 'size * per' is past the bound. -/
theorem past_iff (size per : Int) (h1 : 1 ≤ per) : (10000000 / per < size) ↔ 10000000 < size * per := by
  constructor
  · intro h
    have := (Int.ediv_lt_iff_lt_mul (a := 10000000) (b := size) (c := per) (by omega)).1 h
    omega
  · intro h
    exact (Int.ediv_lt_iff_lt_mul (a := 10000000) (b := size) (c := per) (by omega)).2 h

end Go.Proofs.Qxb6608906a.Chg
