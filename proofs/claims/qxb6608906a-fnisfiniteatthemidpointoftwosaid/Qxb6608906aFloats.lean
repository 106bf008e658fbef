import Ieee.Arith
namespace Go.Proofs.Qxb6608906a.Flt
open Ieee

theorem dB : double.binade = 4503599627370496 := rfl
theorem dS : double.signWeight = 9223372036854775808 := rfl
theorem dI : double.infRung = 9218868437227405312 := rfl
theorem dL : double.leastPlace = -1074 := rfl
theorem dF : double.fractionBits = 52 := rfl

/-- The bits below the sign. -/
def rung (b : Nat) : Nat := b % 9223372036854775808
/-- Neither an infinity nor a NaN. -/
def fin (b : Nat) : Bool := decide (rung b < 9218868437227405312)

theorem read_num (b : Nat) (K : Nat) (h : rung b < K * 4503599627370496) (hK : 2 ≤ K) (hK' : K ≤ 2047) :
    ∃ s m i, double.read b = .number s m i ∧ m ≤ 9007199254740991 ∧ -1074 ≤ i ∧ i ≤ (K : Int) - 1076 := by
  unfold rung at h
  unfold Format.read
  dsimp only
  by_cases h1 : b % 9223372036854775808 < 4503599627370496
  · rw [if_pos (show b % double.signWeight < double.binade from h1), dL]
    refine ⟨_, _, _, rfl, ?_, by omega, by omega⟩
    rw [dS]; omega
  · rw [if_neg (show ¬ b % double.signWeight < double.binade from h1), if_pos (show b % double.signWeight < double.infRung by rw [dS, dI]; omega), dL, dB, dS]
    exact ⟨_, _, _, rfl, by omega, by omega, by omega⟩

theorem read_inf (b : Nat) (h : rung b = 9218868437227405312) : ∃ s, double.read b = .infinity s := by
  unfold rung at h
  unfold Format.read
  dsimp only
  rw [if_neg (show ¬ b % double.signWeight < double.binade by rw [dS, dB]; omega), if_neg (show ¬ b % double.signWeight < double.infRung by rw [dS, dI]; omega), if_pos (show b % double.signWeight = double.infRung by rw [dS, dI]; omega)]
  exact ⟨_, rfl⟩

theorem read_nan (b : Nat) (h : 9218868437227405312 < rung b) : ∃ s t, double.read b = .nan s t := by
  unfold rung at h
  unfold Format.read
  dsimp only
  rw [if_neg (show ¬ b % double.signWeight < double.binade by rw [dS, dB]; omega), if_neg (show ¬ b % double.signWeight < double.infRung by rw [dS, dI]; omega), if_neg (show ¬ b % double.signWeight = double.infRung by rw [dS, dI]; omega)]
  exact ⟨_, _, rfl⟩

theorem shl (a k : Nat) : a <<< k = a * 2 ^ k := Nat.shiftLeft_eq a k
theorem rung_word (s : Bool) (r : Nat) (h : r < 9223372036854775808) : rung (double.word s r) = r := by
  unfold rung Format.word
  rw [dS]
  cases s
  · rw [if_neg (by simp)]; omega
  · rw [if_pos rfl]; omega

theorem pow_le {a b : Nat} (h : a ≤ b) : (2 : Nat) ^ a ≤ 2 ^ b := Nat.pow_le_pow_right (by omega) h
/-- To round to the nearest does not pass a whole bound. -/
theorem cut_le (neg : Bool) (n drop K : Nat) (h : n ≤ K * 2 ^ drop) : Toward.even.cut neg n drop ≤ K := by
  unfold Toward.cut
  simp only [shl, Nat.one_mul]
  by_cases hd : drop ≤ n.log2 + 2
  · rw [Nat.min_eq_left hd]
    have hp : 0 < 2 ^ drop := Nat.two_pow_pos _
    generalize 2 ^ drop = g at *
    have e := Nat.div_add_mod n g
    have hl : n % g < g := Nat.mod_lt _ hp
    have hq : n / g ≤ K := by
      have := Nat.div_le_div_right (c := g) h
      rwa [Nat.mul_div_cancel _ hp] at this
    by_cases hK : n / g = K
    · have hz : n % g = 0 := by
        rw [hK] at e
        have : g * K = K * g := Nat.mul_comm _ _
        omega
      rw [hz, hK]
      have h1 : decide (g < 2 * 0) = false := by simp
      have h2 : (g == 2 * 0) = false := by simp; omega
      rw [h1, h2]; simp
    · have : n / g < K := by omega
      have hb : ∀ b : Bool, b.toNat ≤ 1 := by intro b; cases b <;> simp
      have := hb (decide (g < 2 * (n % g)) || g == 2 * (n % g) && n / g % 2 == 1)
      omega
  · rw [Nat.min_eq_right (by omega)]
    have hlt : n < 2 ^ (n.log2 + 1) := Nat.lt_log2_self
    have e2 : (2 : Nat) ^ (n.log2 + 2) = 2 * 2 ^ (n.log2 + 1) := by rw [Nat.pow_succ, Nat.mul_comm]
    rw [e2]
    have hp : 0 < 2 ^ (n.log2 + 1) := Nat.two_pow_pos _
    generalize 2 ^ (n.log2 + 1) = g at *
    rw [Nat.div_eq_of_lt (by omega), Nat.mod_eq_of_lt (by omega)]
    have h1 : decide (2 * g < 2 * n) = false := by simp; omega
    have h2 : (2 * g == 2 * n) = false := by simp; omega
    rw [h1, h2]; simp


theorem rung_word_lt (s : Bool) (r R : Nat) (h : r < R) (hR : R ≤ 9223372036854775808) : rung (double.word s r) < R := by
  rw [rung_word s r (Nat.lt_of_lt_of_le h hR)]; exact h

theorem p53 : (2 : Nat) ^ 53 = 9007199254740992 := by decide

/-- A number at most '(2^53 - 1) * 2^E' is rounded to a rung below that of '2^(E + 53)'. -/
theorem nearest_lt (s : Bool) (mag : Nat) (place : Int) (E : Int) (hp : -2000 ≤ place) (hE : -1074 ≤ E) (hE' : E ≤ 971)
    (h : mag * 2 ^ (place + 2000).toNat ≤ 9007199254740991 * 2 ^ (E + 2000).toNat) :
    rung (double.nearest s mag place) < (E + 1076).toNat * 4503599627370496 := by
  unfold Format.nearest
  by_cases h0 : mag = 0
  · rw [if_pos h0, rung_word _ _ (by omega)]; omega
  · rw [if_neg h0]
    simp only [dB, dI, dL, dF, shl]
    have hlog : 2 ^ mag.log2 ≤ mag := Nat.log2_self_le h0
    have hlog2 : mag < 2 ^ (mag.log2 + 1) := Nat.lt_log2_self
    generalize hL : mag.log2 = L at *
    -- place + L ≤ E + 52
    have hle : place + L ≤ E + 52 := by
      by_cases hc : place + L ≤ E + 52
      · exact hc
      · exfalso
        have h1 : 2 ^ (L + (place + 2000).toNat) ≤ mag * 2 ^ (place + 2000).toNat := by
          rw [Nat.pow_add]; exact Nat.mul_le_mul_right _ hlog
        have h2 : 9007199254740991 * 2 ^ (E + 2000).toNat < 2 ^ (53 + (E + 2000).toNat) := by
          rw [Nat.pow_add, p53]; exact Nat.mul_lt_mul_of_pos_right (by omega) (Nat.two_pow_pos _)
        have h3 : (2 : Nat) ^ (53 + (E + 2000).toNat) ≤ 2 ^ (L + (place + 2000).toNat) := pow_le (by omega)
        exact absurd (Nat.le_trans h3 (Nat.le_trans h1 h)) (Nat.not_le_of_lt h2)
    generalize hlast : max (place + (L : Int) - ((52 : Nat) : Int)) (-1074) = last
    have hl1 : last ≤ E := by omega
    have hl2 : place + L - 52 ≤ last := by omega
    have hl3 : -1074 ≤ last := by omega
    -- the kept digits
    have hkept : Toward.even.cut s (mag * 2 ^ (place - last).toNat) (last - place).toNat ≤ if last = E then 9007199254740991 else 9007199254740992 := by
      apply cut_le
      by_cases hlE : last = E
      · rw [if_pos hlE]
        subst hlE
        by_cases hpl : place ≤ last
        · have e1 : (place - last).toNat = 0 := by omega
          rw [e1, Nat.pow_zero, Nat.mul_one]
          have e2 : (last + 2000).toNat = (last - place).toNat + (place + 2000).toNat := by omega
          rw [e2, Nat.pow_add, ← Nat.mul_assoc] at h
          exact Nat.le_of_mul_le_mul_right h (Nat.two_pow_pos _)
        · have e1 : (last - place).toNat = 0 := by omega
          rw [e1, Nat.pow_zero, Nat.mul_one]
          have e2 : (place + 2000).toNat = (place - last).toNat + (last + 2000).toNat := by omega
          rw [e2, Nat.pow_add, ← Nat.mul_assoc] at h
          exact Nat.le_of_mul_le_mul_right h (Nat.two_pow_pos _)
      · rw [if_neg hlE]
        by_cases hpl : place ≤ last
        · have e1 : (place - last).toNat = 0 := by omega
          rw [e1, Nat.pow_zero, Nat.mul_one]
          have h3 : (2 : Nat) ^ (L + 1) ≤ 2 ^ (53 + (last - place).toNat) := pow_le (by omega)
          rw [Nat.pow_add 2 53, p53] at h3
          exact Nat.le_of_lt (Nat.lt_of_lt_of_le hlog2 h3)
        · have e1 : (last - place).toNat = 0 := by omega
          rw [e1, Nat.pow_zero, Nat.mul_one]
          have h3 : mag * 2 ^ (place - last).toNat ≤ 2 ^ (L + 1) * 2 ^ (place - last).toNat := Nat.mul_le_mul_right _ (by omega)
          rw [← Nat.pow_add] at h3
          have h4 : (2 : Nat) ^ (L + 1 + (place - last).toNat) ≤ 2 ^ 53 := pow_le (by omega)
          rw [p53] at h4
          exact Nat.le_trans h3 h4
    refine rung_word_lt _ _ _ ?_ (by omega)
    revert hkept
    generalize Toward.even.cut s (mag * 2 ^ (place - last).toNat) (last - place).toNat = kept
    intro hkept
    refine Nat.lt_of_le_of_lt (Nat.min_le_left _ _) ?_
    by_cases hlE : last = E
    · rw [if_pos hlE] at hkept; omega
    · rw [if_neg hlE] at hkept; omega


theorem cmp_gt (a b : Int) : (compare a b = .gt) ↔ b < a := by
  simp only [compare, compareOfLessAndEq]
  by_cases h : a < b
  · rw [if_pos h]; constructor
    · intro h'; cases h'
    · intro h'; omega
  · rw [if_neg h]
    by_cases h2 : a = b
    · rw [if_pos h2]; constructor
      · intro h'; cases h'
      · intro h'; omega
    · rw [if_neg h2]; constructor
      · intro _; omega
      · intro _; rfl
theorem cmp_eq (a b : Int) : (compare a b = .eq) ↔ a = b := by
  simp only [compare, compareOfLessAndEq]
  by_cases h : a < b
  · rw [if_pos h]; constructor
    · intro h'; cases h'
    · intro h'; omega
  · rw [if_neg h]
    by_cases h2 : a = b
    · rw [if_pos h2]; simp [h2]
    · rw [if_neg h2]; simp [h2]
theorem cmp_lt (a b : Int) : (compare a b = .lt) ↔ a < b := by
  simp only [compare, compareOfLessAndEq]
  by_cases h : a < b
  · rw [if_pos h]; simp [h]
  · rw [if_neg h]
    by_cases h2 : a = b
    · rw [if_pos h2]; simp [h]
    · rw [if_neg h2]; simp [h]

/-- Below the infinities. -/
theorem read_fin (b : Nat) (h : fin b = true) : ∃ s m i, double.read b = .number s m i ∧ m ≤ 9007199254740991 ∧ -1074 ≤ i ∧ i ≤ 971 := by
  unfold fin at h
  obtain ⟨s, m, i, e, h1, h2, h3⟩ := read_num b 2047 (by have := of_decide_eq_true h; omega) (by omega) (by omega)
  exact ⟨s, m, i, e, h1, h2, by omega⟩

def isInf (b : Nat) : Bool := decide (rung b = 9218868437227405312)
def isNan (b : Nat) : Bool := decide (9218868437227405312 < rung b)

theorem three (b : Nat) : (fin b = true ∧ isInf b = false ∧ isNan b = false) ∨ (fin b = false ∧ isInf b = true ∧ isNan b = false) ∨ (fin b = false ∧ isInf b = false ∧ isNan b = true) := by
  unfold fin isInf isNan
  simp only [decide_eq_true_eq, decide_eq_false_iff_not]
  omega

theorem fin_of (b : Nat) : fin b = (!isInf b && !isNan b) := by
  rcases three b with ⟨a, c, d⟩ | ⟨a, c, d⟩ | ⟨a, c, d⟩ <;> simp [a, c, d]

theorem read_isInf (b : Nat) (h : isInf b = true) : ∃ s, double.read b = .infinity s := read_inf b (of_decide_eq_true h)
theorem read_isNan (b : Nat) (h : isNan b = true) : ∃ s t, double.read b = .nan s t := read_nan b (of_decide_eq_true h)

theorem order_self (b : Nat) : (double.order b b != some .eq) = isNan b := by
  unfold Format.order
  rcases three b with ⟨a, c, d⟩ | ⟨a, c, d⟩ | ⟨a, c, d⟩
  · obtain ⟨s, m, i, e, _⟩ := read_fin b a
    rw [e, d]
    simp only [Datum.order]
    rw [(cmp_eq _ _).2 rfl]; rfl
  · obtain ⟨s, e⟩ := read_isInf b c
    rw [e, d]; cases s <;> rfl
  · obtain ⟨s, t, e⟩ := read_isNan b d
    rw [e, d]; rfl

theorem read_max : double.read 9218868437227405311 = .number false 9007199254740991 971 := by decide +kernel
theorem read_negmax : double.read 18442240474082181119 = .number true 9007199254740991 971 := by decide +kernel
theorem read_zero : double.read 0 = .number false 0 (-1074) := by decide +kernel
theorem read_half : double.read 4602678819172646912 = .number false 4503599627370496 (-53) := by decide +kernel

theorem signed_le (s : Bool) (m k n l : Nat) (hm : m ≤ n) (hk : k ≤ l) : signed s m k ≤ signed false n l ∧ -(signed false n l) ≤ signed s m k := by
  unfold signed
  have h1 : m <<< k ≤ n <<< l := by
    rw [shl, shl]; exact Nat.mul_le_mul hm (pow_le hk)
  generalize m <<< k = a at *
  generalize n <<< l = c at *
  cases s
  · simp only [Bool.false_eq_true, if_false]; omega
  · simp only [if_true, Bool.false_eq_true, if_false]; omega

theorem signed_neg (n l : Nat) : signed true n l = -(signed false n l) := by
  unfold signed; simp

/-- Of a word without its sign: past the greatest number: infinity. -/
theorem order_max (b : Nat) : (double.order (rung b) 9218868437227405311 == some .gt) = isInf b := by
  have hr : rung (rung b) = rung b := by unfold rung; omega
  unfold Format.order
  rw [read_max]
  rcases three (rung b) with ⟨a, c, d⟩ | ⟨a, c, d⟩ | ⟨a, c, d⟩
  · obtain ⟨s, m, i, e, h1, h2, h3⟩ := read_fin _ a
    have : isInf b = false := by unfold isInf at c ⊢; rw [hr] at c; exact c
    rw [e, this]
    simp only [Datum.order]
    have hn : ¬ compare (signed s m (i - min i 971).toNat) (signed false 9007199254740991 (971 - min i 971).toNat) = .gt := by
      rw [cmp_gt]
      have := (signed_le s m (i - min i 971).toNat 9007199254740991 (971 - min i 971).toNat h1 (by omega)).1
      omega
    generalize compare (signed s m (i - min i 971).toNat) (signed false 9007199254740991 (971 - min i 971).toNat) = o at *
    cases o
    · rfl
    · rfl
    · exact absurd rfl hn
  · have hi : isInf b = true := by unfold isInf at c ⊢; rw [hr] at c; exact c
    rw [hi]
    have e : double.read (rung b) = .infinity false := by
      have := of_decide_eq_true hi
      rw [this]; decide +kernel
    rw [e]; rfl
  · have : isInf b = false := by unfold isInf at c ⊢; rw [hr] at c; exact c
    obtain ⟨s, t, e⟩ := read_isNan _ d
    rw [e, this]; rfl

theorem order_le (b : Nat) : ((double.order b 18442240474082181119 == some .gt || double.order b 18442240474082181119 == some .eq) && (double.order b 9218868437227405311 == some .lt || double.order b 9218868437227405311 == some .eq)) = fin b := by
  unfold Format.order
  rw [read_max, read_negmax]
  rcases three b with ⟨a, c, d⟩ | ⟨a, c, d⟩ | ⟨a, c, d⟩
  · obtain ⟨s, m, i, e, h1, h2, h3⟩ := read_fin _ a
    rw [e, a]
    simp only [Datum.order]
    have hs := signed_le s m (i - min i 971).toNat 9007199254740991 (971 - min i 971).toNat h1 (by omega)
    rw [signed_neg]
    generalize signed s m (i - min i 971).toNat = A at *
    generalize signed false 9007199254740991 (971 - min i 971).toNat = B at *
    have k1 := cmp_lt A (-B)
    have k2 := cmp_gt A B
    generalize compare A (-B) = o at *
    generalize compare A B = o' at *
    have l1 : o ≠ .lt := fun h => by have := k1.1 h; omega
    have l2 : o' ≠ .gt := fun h => by have := k2.1 h; omega
    cases o <;> cases o' <;> first | exact absurd rfl l1 | exact absurd rfl l2 | rfl
  · obtain ⟨s, e⟩ := read_isInf b c
    rw [e, a]; cases s <;> rfl
  · obtain ⟨s, t, e⟩ := read_isNan b d
    rw [e, a]; rfl

/-- What 'x - x == 0' gives. -/
theorem sub_fin (b : Nat) (h : fin b = true) : ∃ r, double.sub b b = some r ∧ (double.order r 0 == some .eq) = true := by
  obtain ⟨s, m, i, e, h1, h2, h3⟩ := read_fin _ h
  unfold Format.sub
  rw [e]
  simp only [Datum.opposite, Datum.sum]
  have hz : signed s m (i - min i i).toNat + signed (!s) m (i - min i i).toNat = 0 := by
    cases s
    · show signed false _ _ + signed true _ _ = 0
      rw [signed_neg]; omega
    · show signed true _ _ + signed false _ _ = 0
      rw [signed_neg]; omega
  rw [hz]
  refine ⟨_, rfl, ?_⟩
  have : double.write (.number (if (0 : Int) = 0 then s && !s else decide ((0 : Int) < 0)) (0 : Int).natAbs (min i i)) = 0 := by
    cases s <;> simp [Format.write, Format.nearest, Format.word]
  rw [this]; decide +kernel

theorem sub_inf (b : Nat) (h : isInf b = true) : double.sub b b = none := by
  obtain ⟨s, e⟩ := read_isInf b h
  unfold Format.sub
  rw [e]; cases s <;> rfl

theorem sub_nan (b : Nat) (h : isNan b = true) : double.sub b b = none := by
  obtain ⟨s, t, e⟩ := read_isNan b h
  unfold Format.sub
  rw [e]; rfl

theorem order_nan (b c : Nat) (h : isNan b = true) : double.order b c = none := by
  obtain ⟨s, t, e⟩ := read_isNan b h
  unfold Format.order
  rw [e]; rfl

/-- 'half' as in 'b * 0.5': well below the greatest number. -/
def low (b : Nat) : Prop := rung b < 2046 * 4503599627370496

theorem mul_fin (b : Nat) (h : fin b = true) : ∃ r, double.mul b 4602678819172646912 = some r ∧ low r := by
  obtain ⟨s, m, i, e, h1, h2, h3⟩ := read_fin _ h
  unfold Format.mul
  rw [e, read_half]
  simp only [Datum.product]
  refine ⟨_, rfl, ?_⟩
  show rung (double.nearest _ _ _) < 2046 * 4503599627370496
  have := nearest_lt (s ^^ false) (m * 4503599627370496) (i + -53) 970 (by omega) (by omega) (by omega) (by
    have p52 : 4503599627370496 = 2 ^ 52 := by decide
    rw [p52, Nat.mul_assoc, ← Nat.pow_add]
    exact Nat.mul_le_mul h1 (pow_le (by omega)))
  exact this

theorem mul_inf (b : Nat) (h : isInf b = true) : ∃ r, double.mul b 4602678819172646912 = some r ∧ isInf r = true := by
  obtain ⟨s, e⟩ := read_isInf b h
  unfold Format.mul
  rw [e, read_half]
  refine ⟨_, rfl, ?_⟩
  unfold isInf
  apply decide_eq_true
  cases s <;> decide +kernel

theorem mul_nan (b c : Nat) (h : isNan b = true) : double.mul b c = none := by
  obtain ⟨s, t, e⟩ := read_isNan b h
  unfold Format.mul
  rw [e]; rfl

theorem fin_low (b : Nat) (h : low b) : fin b = true := by
  unfold low at h; unfold fin; apply decide_eq_true; omega

theorem sum_bound (s t : Bool) (m n k l K : Nat) (h1 : m * 2 ^ k ≤ K) (h2 : n * 2 ^ l ≤ K) : (signed s m k + signed t n l).natAbs ≤ 2 * K := by
  unfold signed
  rw [shl, shl]
  generalize m * 2 ^ k = a at *
  generalize n * 2 ^ l = b at *
  cases s <;> cases t <;> simp <;> omega

theorem add_low (x y : Nat) (hx : low x) (hy : low y) : ∃ r, double.add x y = some r ∧ fin r = true := by
  obtain ⟨s, m, i, e, h1, h2, h3⟩ := read_num x 2046 hx (by omega) (by omega)
  obtain ⟨t, n, j, e', h1', h2', h3'⟩ := read_num y 2046 hy (by omega) (by omega)
  unfold Format.add
  rw [e, e']
  simp only [Datum.sum]
  refine ⟨_, rfl, ?_⟩
  unfold fin
  apply decide_eq_true
  show rung (double.nearest _ _ _) < 9218868437227405312
  refine nearest_lt _ _ _ 971 (by omega) (by omega) (by omega) ?_
  have hb : -1074 ≤ min i j := by omega
  have hb' : min i j ≤ 970 := by omega
  have k1 : m * 2 ^ (i - min i j).toNat ≤ 9007199254740991 * 2 ^ (970 - min i j).toNat := Nat.mul_le_mul h1 (pow_le (by omega))
  have k2 : n * 2 ^ (j - min i j).toNat ≤ 9007199254740991 * 2 ^ (970 - min i j).toNat := Nat.mul_le_mul h1' (pow_le (by omega))
  have k3 := sum_bound s t m n _ _ _ k1 k2
  refine Nat.le_trans (Nat.mul_le_mul_right _ k3) ?_
  have e1 : (971 + 2000 : Int).toNat = 1 + (970 - min i j).toNat + (min i j + 2000).toNat := by omega
  rw [e1, Nat.pow_add, Nat.pow_add, Nat.pow_one]
  generalize (2 : Nat) ^ (970 - min i j).toNat = a
  generalize (2 : Nat) ^ (min i j + 2000).toNat = c
  exact Nat.le_of_eq (by rw [Nat.mul_left_comm 2, Nat.mul_assoc])

theorem add_inf_fin (x y : Nat) (hx : isInf x = true) (hy : fin y = true) : ∃ r, double.add x y = some r ∧ fin r = false := by
  obtain ⟨s, e⟩ := read_isInf x hx
  obtain ⟨t, n, j, e', _⟩ := read_fin y hy
  unfold Format.add
  rw [e, e']
  refine ⟨_, rfl, ?_⟩
  cases s <;> decide +kernel

theorem add_fin_inf (x y : Nat) (hx : fin x = true) (hy : isInf y = true) : ∃ r, double.add x y = some r ∧ fin r = false := by
  obtain ⟨s, e⟩ := read_isInf y hy
  obtain ⟨t, n, j, e', _⟩ := read_fin x hx
  unfold Format.add
  rw [e, e']
  refine ⟨_, rfl, ?_⟩
  cases s <;> decide +kernel

theorem add_inf_inf (x y : Nat) (hx : isInf x = true) (hy : isInf y = true) : (∃ r, double.add x y = some r ∧ fin r = false) ∨ double.add x y = none := by
  obtain ⟨s, e⟩ := read_isInf x hx
  obtain ⟨t, e'⟩ := read_isInf y hy
  unfold Format.add
  rw [e, e']
  cases s <;> cases t
  · exact .inl ⟨_, rfl, by decide +kernel⟩
  · exact .inr rfl
  · exact .inr rfl
  · exact .inl ⟨_, rfl, by decide +kernel⟩

theorem add_nan_left (x y : Nat) (hx : isNan x = true) : double.add x y = none := by
  obtain ⟨s, t, e⟩ := read_isNan x hx
  unfold Format.add
  rw [e]; rfl

theorem add_nan_right (x y : Nat) (hy : isNan y = true) : double.add x y = none := by
  obtain ⟨s, t, e⟩ := read_isNan y hy
  unfold Format.add
  rw [e]
  cases double.read x <;> rfl

/-- The tape's NaN is a NaN. -/
theorem nan_tape (t : Nat) : isNan (t % 2 * 9223372036854775808 + 9218868437227405312 + 1 + t / 2 % 4503599627370495) = true := by
  unfold isNan rung; apply decide_eq_true
  have h1 : t / 2 % 4503599627370495 < 4503599627370495 := Nat.mod_lt _ (by omega)
  generalize t / 2 % 4503599627370495 = k at *
  have h2 : t % 2 = 0 ∨ t % 2 = 1 := by omega
  rcases h2 with h2 | h2 <;> rw [h2] <;> omega

theorem fin_nan (b : Nat) (h : isNan b = true) : fin b = false := by rw [fin_of, h]; simp
theorem fin_inf (b : Nat) (h : isInf b = true) : fin b = false := by rw [fin_of, h]; simp

end Go.Proofs.Qxb6608906a.Flt
