import Derived.Test.Qxb6605686aDoorCapped
namespace Go.Proofs.Qxb6605686aDoor
open Go.RowKit
set_option linter.unusedVariables false

theorem info24 : (Tryd.prog.info? 24).map (fun i => (i.zero, i.size, i.bytes)) = some (some (.slice none 0 0), 1, 24) := by kernel_rfl

/-- A clone, with the place of its row. -/
theorem clone_at (a : Option Addr) (len cap : Nat) (z : Nat → Int) (w : World) (hz : IsBytes w a len z) (hl : len ≤ 1048576) (hnil : a = none → len = 0) :
    Calls Tryd.prog 12 #[.slice a len cap] w fun e w' => ∃ a' c', e = .returned (.slice a' len c') ∧ IsBytes w' a' len z ∧ (∀ x, a' = some x → w.heap.size ≤ x.block ∧ x.block < w'.heap.size) ∧ (a' = none → len = 0 ∧ c' = 0) ∧ len ≤ c' ∧ Below w.heap.size w w' := by
  cases a with
  | none =>
    obtain rfl := hnil rfl
    refine (clone_nil 0 cap w).mono ?_
    rintro e w' ⟨rfl, rfl⟩
    exact ⟨_, _, rfl, fun i hi => by omega, fun x hx => (by cases hx), fun _ => ⟨rfl, rfl⟩, Nat.le_refl _, Below.refl _ _⟩
  | some x =>
    refine (clone_some x len cap z w hz hl).mono ?_
    rintro e w' ⟨g, hg, rfl, hr, hb⟩
    refine ⟨_, _, rfl, fun i hi => ⟨g, 0, rfl, by rw [Nat.zero_add]; exact hr.cell hi⟩, fun x hx => ?_, fun h => (by cases h), Nat.le_refl _, hb⟩
    cases hx
    exact ⟨hg, hr.lt⟩

/-- The chunks in memory. -/
def IsChunks (w : World) (a : Option Addr) (len : Nat) (A : Nat → Option Addr) (L C : Nat → Nat) (Z : Nat → Nat → Int) : Prop :=
  ∀ i, i < len → ∃ b off, a = some ⟨b, off, none⟩ ∧ w.cell? ⟨b, off + i, none⟩ = some (.slice (A i) (L i) (C i)) ∧ IsBytes w (A i) (L i) (Z i)

section
variable {w w' : World} {a : Option Addr} {len : Nat} {A : Nat → Option Addr} {L C : Nat → Nat} {Z : Nat → Nat → Int}
theorem IsChunks.below (h : IsChunks w a len A L C Z) (hb : Below w.heap.size w w') : IsChunks w' a len A L C Z := by
  intro i hi
  obtain ⟨b, off, h1, h2, h3⟩ := h i hi
  exact ⟨b, off, h1, (hb.cell (p := ⟨b, _, none⟩) (lt_cell h2)).trans h2, h3.below hb⟩
end

theorem IsBytes.setCell {w : World} {a : Option Addr} {n g k : Nat} {z : Nat → Int} {v : Value} (h : IsBytes w a n z) (hx : ∀ x, a = some x → x.block ≠ g) : IsBytes (w.setCell ⟨g, k, none⟩ v) a n z := by
  intro i hi
  obtain ⟨b, off, h1, h2⟩ := h i hi
  refine ⟨b, off, h1, ?_⟩
  have hne : b ≠ g := hx _ h1
  rw [World.cell?_setCell_other _ _ _ _ (fun e => hne (congrArg Addr.block e).symm)]
  exact h2

/-- The clones of the first k chunks. -/
def Cloned (g len k : Nat) (L : Nat → Nat) (Z : Nat → Nat → Int) (A : Nat → Option Addr) (C : Nat → Nat) (w : World) : Prop :=
  w.rowIs g 24 len (fun j => if j < k then .slice (A j) (L j) (C j) else .slice none 0 0) ∧
  ∀ j, j < k → IsBytes w (A j) (L j) (Z j) ∧ (∀ x, A j = some x → g < x.block ∧ x.block < w.heap.size) ∧ (A j = none → L j = 0 ∧ C j = 0) ∧ L j ≤ C j

theorem cloned_step {g len k : Nat} {L : Nat → Nat} {Z : Nat → Nat → Int} {A : Nat → Option Addr} {C : Nat → Nat} {w w2 : World} {a2 : Option Addr} {c2 : Nat} (h : Cloned g len k L Z A C w) (hb : Below w.heap.size w w2)
    (hz : IsBytes w2 a2 (L k) (Z k)) (hx : ∀ x, a2 = some x → w.heap.size ≤ x.block ∧ x.block < w2.heap.size) (hn : a2 = none → L k = 0 ∧ c2 = 0) (hc : L k ≤ c2) :
    Cloned g len (k + 1) L Z (fun j => if j = k then a2 else A j) (fun j => if j = k then c2 else C j) (w2.setCell ⟨g, k, none⟩ (.slice a2 (L k) c2)) := by
  obtain ⟨hr, hj⟩ := h
  have hgl := hr.lt
  refine ⟨?_, ?_⟩
  · refine ((hr.of_block (hb.block g hgl)).set k _).congr (fun j hjl => ?_)
    by_cases h1 : j = k
    · subst h1; simp
    · by_cases h2 : j < k
      · rw [if_neg h1, if_pos h2, if_pos (by omega)]; simp only [if_neg h1]
      · rw [if_neg h1, if_neg h2, if_neg (by omega)]
  · intro j hjk
    have hsz : (w2.setCell ⟨g, k, none⟩ (.slice a2 (L k) c2)).heap.size = w2.heap.size := by simp [World.setCell]
    by_cases h1 : j = k
    · subst h1
      simp only [if_true]
      exact ⟨hz.setCell (fun x e => by have := hx x e; omega), fun x e => by have := hx x e; rw [hsz]; omega, hn, hc⟩
    · simp only [if_neg h1]
      obtain ⟨p1, p2, p3, p4⟩ := hj j (by omega)
      refine ⟨(p1.below hb).setCell (fun x e => by have := p2 x e; omega), fun x e => ?_, p3, p4⟩
      have := p2 x e
      have := hb.size
      rw [hsz]; omega

set_option maxHeartbeats 800000 in
theorem bytesKeeps_any (a : Option Addr) (len cap : Nat) (A : Nat → Option Addr) (L C : Nat → Nat) (Z : Nat → Nat → Int) (w : World) (hP : IsChunks w a len A L C Z) (hl : len ≤ maxLen) (hL : ∀ i, i < len → L i ≤ maxLen) :
    Calls Tryd.prog 5 #[.slice a len cap] w fun e w' => w' = w ∧ (e = .returned (.bool false) ∨ (e = .returned (.bool true) ∧ len ≤ 1048576 ∧ ∀ i, i < len → L i ≤ 1048576)) := by
  unfold maxLen at hl hL
  have HX : Hid (∀ i, i < len → L i ≤ 2 ^ 63 - 1) := hL
  clear hL
  by_cases g2 : 1048576 < len
  · go_enter Tryd.func5, Tryd.ntmps5
    go_wp2
    go_ret
    exact ⟨rfl, Or.inl rfl⟩
  go_enter Tryd.func5, Tryd.ntmps5
  go_wp2
  go_loop [3, 4] (fun t i => ∃ (k : Nat) (T : Int), k ≤ len ∧ i = .int .i64 k ∧ t = .int .i64 T ∧ 0 ≤ T ∧ T ≤ 1048576 ∧ Hid (∀ j, j < k → L j ≤ 1048576)) (fun _ i => len - (intOf i).toNat)
  case atStart => exact ⟨0, _, Nat.zero_le _, rfl, rfl, by omega, by omega, fun j hj => by omega⟩
  case round =>
    obtain ⟨k, T, hk, rfl, rfl, t0, t1, HJ⟩ := hrel
    by_cases hlt : k < len
    · obtain ⟨b, off, rfl, c0, _⟩ := hP k hlt
      have hx := HX.out k hlt
      clear hP HX
      generalize hpx : L k = px at *
      have HPX : Hid (L k = px) := hpx
      clear hpx
      by_cases g4 : 1048576 < px
      · go_wp2
        go_ret
        exact ⟨rfl, Or.inl rfl⟩
      · by_cases g5 : 1048576 < T + px
        · go_wp2
          go_ret
          exact ⟨rfl, Or.inl rfl⟩
        · go_wp2
          go_round
          case rel => exact ⟨k + 1, _, by omega, by go_num, rfl, by omega, by omega, fun j hj => by
            by_cases hjk : j < k
            · exact HJ.out j hjk
            · obtain rfl : j = k := by omega
              rw [HPX.out]; omega⟩
          case measure => simp [intOf]; omega
    · go_wp2
      go_ret
      exact ⟨rfl, Or.inr ⟨rfl, by omega, fun i hi => HJ.out i (by omega)⟩⟩

set_option maxHeartbeats 400000 in
theorem chunks_nil (n c : Nat) (w : World) : Calls Tryd.prog 6 #[.slice none n c] w fun e w' => e = .returned (.slice none 0 0) ∧ w' = w := by
  have hn := fun (w : World) (a : Option Addr) (n c : Nat) => Lib.run_eql_slice_nil (P := Tryd.prog) w 22 24 a n c 0 0 Tryd.underlying22
  go_enter Tryd.func6, Tryd.ntmps6
  go_wp2
  go_ret
  exact ⟨rfl, rfl⟩

set_option maxHeartbeats 800000 in
theorem chunks_some (x : Addr) (len cap : Nat) (A : Nat → Option Addr) (L C : Nat → Nat) (Z : Nat → Nat → Int) (w : World) (hP : IsChunks w (some x) len A L C Z) (hl : len ≤ 1048576) (hL : ∀ i, i < len → L i ≤ 1048576) (hN : ∀ i, i < len → A i = none → L i = 0) :
    Calls Tryd.prog 6 #[.slice (some x) len cap] w fun e w' => ∃ g A' C', e = .returned (.slice (some ⟨g, 0, none⟩) len len) ∧ Cloned g len len L Z A' C' w' ∧ Below w.heap.size w w' := by
  have hn := fun (w : World) (a : Option Addr) (n c : Nat) => Lib.run_eql_slice_nil (P := Tryd.prog) w 22 24 a n c 0 0 Tryd.underlying22
  have hmk := run_make_row' (P := Tryd.prog) 22 24 (.slice none 0 0) 24 Tryd.underlying22 info24 rfl .i64 .i64 len (by omega) (by omega)
  have HP : Hid (IsChunks w (some x) len A L C Z) := hP
  have HL : Hid (∀ i, i < len → L i ≤ 1048576) := hL
  have HN : Hid (∀ i, i < len → A i = none → L i = 0) := hN
  clear hP hL hN
  go_enter Tryd.func6, Tryd.ntmps6
  go_wp2
  clear hmk
  go_loopw [4] (fun i wr => ∃ (k : Nat) (A' : Nat → Option Addr) (C' : Nat → Nat), k ≤ len ∧ i = .int .i64 k ∧ Cloned w.heap.size len k L Z A' C' wr ∧ Below w.heap.size w wr) (fun i _ => len - (intOf i).toNat)
  case atStart => exact ⟨0, fun _ => none, fun _ => 0, Nat.zero_le _, rfl, ⟨by simpa using World.rowIs_made w (.slice none 0 0) len 24, fun j hj => by omega⟩, (Below.refl _ _).alloc (Nat.le_refl _) _⟩
  case round =>
    obtain ⟨k, A', C', hk, rfl, hcl, hb⟩ := hrel
    by_cases hlt : k < len
    · obtain ⟨b, off, hx, c0, hz⟩ := HP.out.below hb k hlt
      obtain rfl : x = ⟨b, off, none⟩ := by simpa using hx
      have HZ : Hid (IsBytes wr (A k) (L k) (Z k)) := hz
      clear hx hz
      go_wp2_with fail
      refine (clone_at (A k) (L k) (C k) (Z k) _ HZ.out (HL.out k hlt) (HN.out k hlt)).mono ?_
      rintro e w2 ⟨a2, c2, rfl, hz2, hx2, hn2, hc2, hb2⟩
      have hr2 := hcl.1.of_block (hb2.block _ hcl.1.lt)
      have d1 := hr2.cell hlt
      have d2 := hr2.frozen k
      rw [if_neg (by omega)] at d1
      have R : Hid (Cloned w.heap.size len (k + 1) L Z (fun j => if j = k then a2 else A' j) (fun j => if j = k then c2 else C' j) (w2.setCell ⟨w.heap.size, k, none⟩ (.slice a2 (L k) c2))) := cloned_step hcl hb2 hz2 hx2 hn2 hc2
      have HB : Hid (Below w.heap.size w w2) := hb.trans (hb2.mono hb.size)
      clear hz2 hx2 hn2 hc2 hb2 hr2 hcl HZ hb
      go_wp2
      go_roundw
      case rel => exact ⟨k + 1, _, _, by omega, by go_num, R.out, HB.out.setCell (Nat.le_refl _) _⟩
      case measure => simp [intOf]; omega
    · obtain rfl : len = k := by omega
      go_wp2
      go_ret
      exact ⟨w.heap.size, A', C', rfl, hcl, hb⟩

/-- The clones, whatever came in. -/
theorem chunks_any (a : Option Addr) (len cap : Nat) (A : Nat → Option Addr) (L C : Nat → Nat) (Z : Nat → Nat → Int) (w : World) (hP : IsChunks w a len A L C Z) (hl : len ≤ 1048576) (hL : ∀ i, i < len → L i ≤ 1048576) (hN : ∀ i, i < len → A i = none → L i = 0) (hnil : a = none → len = 0) :
    Calls Tryd.prog 6 #[.slice a len cap] w fun e w' => ∃ a' c' A' C', e = .returned (.slice a' len c') ∧ IsChunks w' a' len A' L C' Z ∧ (∀ i, i < len → (∀ x, A' i = some x → x.block < w'.heap.size) ∧ (A' i = none → L i = 0 ∧ C' i = 0) ∧ L i ≤ C' i) ∧ Below w.heap.size w w' := by
  cases a with
  | none =>
    obtain rfl := hnil rfl
    refine (chunks_nil 0 cap w).mono ?_
    rintro e w' ⟨rfl, rfl⟩
    exact ⟨_, _, A, C, rfl, fun i hi => by omega, fun i hi => by omega, Below.refl _ _⟩
  | some x =>
    refine (chunks_some x len cap A L C Z w hP hl hL hN).mono ?_
    rintro e w' ⟨g, A', C', rfl, hc, hb⟩
    refine ⟨_, _, A', C', rfl, fun i hi => ⟨g, 0, rfl, ?_, (hc.2 i hi).1⟩, fun i hi => ⟨fun x e => ((hc.2 i hi).2.1 x e).2, (hc.2 i hi).2.2.1, (hc.2 i hi).2.2.2⟩, hb⟩
    have := hc.1.cell hi
    rw [if_pos hi] at this
    rw [Nat.zero_add]; exact this
end Go.Proofs.Qxb6605686aDoor
