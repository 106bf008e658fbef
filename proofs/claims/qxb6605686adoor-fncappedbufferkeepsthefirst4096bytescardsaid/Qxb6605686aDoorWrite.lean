import Derived.Test.Qxb6605686aDoorBase
namespace Go.Proofs.Qxb6605686aDoor
open Go.RowKit
set_option linter.unusedVariables false

theorem size5 : (Tryd.prog.info? 5).map (·.size) = some 1 := by kernel_rfl

set_option maxHeartbeats 400000 in
theorem write_nil (b : Nat) (bs : List Value) (w : World) (h : Buf b bs w) :
    Calls Tryd.prog 16 #[.pointer (some ⟨b, 0, none⟩), .slice none 0 0] w fun e w' => e = .returned (.tuple #[.int .i64 0, .nilIface]) ∧ Buf b bs w' ∧ Below b w w' := by
  have hcp : ∀ d dLen dCap W, (Builtin.copy_ #[24, 24] 3 #[.slice d dLen dCap, .slice none 0 0]).run Tryd.prog W = .ok (goInt 0) W := fun d dLen dCap W => run_copy_none W 24 24 3 5 d none dLen dCap 0 0 Tryd.underlying24 size5 (by simp)
  obtain ⟨_, v, lr, hbk, hown, hne⟩ := id h
  have c2 : w.cell? ⟨b, 2, none⟩ = some (.int .i8 lr) := hbk.c2
  have f2 : w.frozen? ⟨b, 2, none⟩ = false := hbk.f 2
  obtain ⟨ao, l, cap, hv, hlc, hcap⟩ : ∃ ao l cap, v = .slice ao l cap ∧ l ≤ cap ∧ cap ≤ maxLen := by
    rcases hown.2 with ⟨hv, h0⟩ | ⟨g, cap, cur, hv, hBg, hg, hnc, hcm, hcs, htk⟩
    · exact ⟨none, 0, 0, hv, Nat.le_refl _, by unfold maxLen; omega⟩
    · exact ⟨some ⟨g, 0, none⟩, bs.length, cap, hv, hnc, hcm⟩
  subst hv
  have t1 := hbk.set2 (.int .i8 0)
  have c0 : (w.setCell ⟨b, 2, none⟩ (.int .i8 0)).cell? ⟨b, 0, none⟩ = some (.slice ao l cap) := t1.c0
  have f0 : (w.setCell ⟨b, 2, none⟩ (.int .i8 0)).frozen? ⟨b, 0, none⟩ = false := t1.f 0
  have t2 := t1.set0 (.slice ao (l + 0) cap)
  have d0 : ((w.setCell ⟨b, 2, none⟩ (.int .i8 0)).setCell ⟨b, 0, none⟩ (.slice ao l cap)).cell? ⟨b, 0, none⟩ = some (.slice ao l cap) := t2.c0
  have HB : Hid (Buf b bs ((w.setCell ⟨b, 2, none⟩ (.int .i8 0)).setCell ⟨b, 0, none⟩ (.slice ao l cap))) :=
    ⟨Nat.le_refl _, _, 0, t2, (hown.kept (Lib.grownBy_setCell w b 2 _) (Or.inr hne)).kept (Lib.grownBy_setCell _ b 0 _) (Or.inr hne), hne⟩
  clear t1 t2 hown hne hbk h
  by_cases hcl : cap = l
  · subst hcl
    go_enter Tryd.func16, Tryd.ntmps16
    go_wp2_with fail
    refine (Buffer_tryGrow_room_at b 0 ao cap cap 0 _ c0 f0 hlc hcap (Nat.zero_le _)).mono ?_
    rintro e w' ⟨rfl, rfl⟩
    go_wp2
    go_ret2
    exact ⟨rfl, HB.out, ((Below.refl _ _).setCell (p := ⟨b, 2, none⟩) (Nat.le_refl _) _).setCell (p := ⟨b, 0, none⟩) (Nat.le_refl _) _⟩
  · go_enter Tryd.func16, Tryd.ntmps16
    go_wp2_with fail
    refine (Buffer_tryGrow_room_at b 0 ao l cap 0 _ c0 f0 hlc hcap (Nat.zero_le _)).mono ?_
    rintro e w' ⟨rfl, rfl⟩
    go_wp2
    go_ret2
    exact ⟨rfl, HB.out, ((Below.refl _ _).setCell (p := ⟨b, 2, none⟩) (Nat.le_refl _) _).setCell (p := ⟨b, 0, none⟩) (Nat.le_refl _) _⟩

/-- The slice at 'a' reads as the list bs. -/
def Reads (w : World) (a : Option Addr) (bs : List Value) : Prop := ∀ j v, bs[j]? = some v → ∃ b off, a = some ⟨b, off, none⟩ ∧ w.cell? ⟨b, off + j, none⟩ = some v

theorem Reads.below {w w' : World} {a : Option Addr} {bs : List Value} (h : Reads w a bs) (hb : Below w.heap.size w w') : Reads w' a bs := by
  intro j v hj
  obtain ⟨b, off, h1, h2⟩ := h j v hj
  exact ⟨b, off, h1, (hb.cell (p := ⟨b, _, none⟩) (lt_cell h2)).trans h2⟩

/-- Every cell a byte. -/
def AllU8 (bs : List Value) : Prop := ∀ v ∈ bs, ∃ x, v = .int .u8 x
/-- The byte at j. -/
def num (bs : List Value) (j : Nat) : Int := match bs[j]? with
  | some (.int _ x) => x
  | _ => 0

theorem num_spec {bs : List Value} (h : AllU8 bs) {j : Nat} (hj : j < bs.length) : bs[j]? = some (.int .u8 (num bs j)) := by
  obtain ⟨x, hx⟩ := h bs[j] (List.getElem_mem hj)
  have e : bs[j]? = some (.int .u8 x) := by rw [List.getElem?_eq_getElem hj, hx]
  rw [e]
  unfold num
  rw [e]

theorem Reads.bytes {w : World} {a : Option Addr} {bs : List Value} (h : Reads w a bs) (hu : AllU8 bs) : IsBytes w a bs.length (num bs) := fun i hi => h i _ (num_spec hu hi)

theorem AllU8.oneCell {bs : List Value} (h : AllU8 bs) : ∀ v ∈ bs, v.oneCell' = true := by
  intro v hv
  obtain ⟨x, rfl⟩ := h v hv
  rfl
theorem AllU8.take {bs : List Value} (h : AllU8 bs) (n : Nat) : AllU8 (bs.take n) := fun v hv => h v (List.mem_of_mem_take hv)
theorem AllU8.append {xs bs : List Value} (h : AllU8 xs) (k : AllU8 bs) : AllU8 (xs ++ bs) := fun v hv => (List.mem_append.1 hv).elim (h v) (k v)
theorem allU8_cells (n : Nat) (z : Nat → Int) : AllU8 (cells n z) := by
  intro v hv
  obtain ⟨i, _, rfl⟩ := List.mem_map.1 hv
  exact ⟨_, rfl⟩
theorem IsBytes.reads {w : World} {a : Option Addr} {n : Nat} {z : Nat → Int} (h : IsBytes w a n z) : Reads w a (cells n z) := by
  intro j v hj
  have hlt : j < n := by
    have := (List.getElem?_eq_some_iff.1 hj).1
    rwa [cells_length] at this
  rw [cells_get n z j hlt] at hj
  cases hj
  exact h j hlt

set_option maxHeartbeats 400000 in
/-- What the buffer keeps, as a slice. -/
theorem bytes_any (b : Nat) (bs : List Value) (w : World) (h : Buf b bs w) :
    Calls Tryd.prog 14 #[.pointer (some ⟨b, 0, none⟩)] w fun e w' => ∃ a c, e = .returned (.slice a bs.length c) ∧ Reads w a bs ∧ ∃ n, w' = w.drewN n := by
  obtain ⟨_, lr, ⟨rfl, hbk⟩ | ⟨g, cap, cur, hbk, _, hg, hlc, hcm, hcs, htk, _⟩⟩ := h.cases
  · have c0 : w.cell? ⟨b, 0, none⟩ = some (.slice none 0 0) := hbk.c0
    have c1 : w.cell? ⟨b, 1, none⟩ = some (.int .i64 0) := hbk.c1
    clear hbk h
    go_enter Tryd.func14, Tryd.ntmps14
    go_wp2
    go_quiet (fail)
    go_wp2
    go_ret
    exact ⟨_, _, rfl, fun j v hj => (by simp at hj), nq, rfl⟩
  · have hR : Hid (Reads w (some ⟨g, 0, none⟩) bs) := by
      intro j v hj
      refine ⟨g, 0, rfl, ?_⟩
      have hlt : j < bs.length := (List.getElem?_eq_some_iff.1 hj).1
      rw [← htk, List.getElem?_take_of_lt hlt] at hj
      rw [Nat.zero_add]
      simp [World.cell?, hg]
      simpa using hj
    have c0 : w.cell? ⟨b, 0, none⟩ = some (.slice (some ⟨g, 0, none⟩) bs.length cap) := hbk.c0
    have c1 : w.cell? ⟨b, 1, none⟩ = some (.int .i64 0) := hbk.c1
    unfold maxLen at hcm
    clear hbk h htk
    go_enter Tryd.func14, Tryd.ntmps14
    go_wp2
    go_quiet (fail)
    go_wp2
    go_ret
    exact ⟨_, _, rfl, hR.out, nq, rfl⟩

set_option maxHeartbeats 400000 in
theorem kept_any (b : Nat) (bs : List Value) (w : World) (h : Buf b bs w) :
    Calls Tryd.prog 10 #[.pointer (some ⟨b, 0, none⟩)] w fun e w' => ∃ a c, e = .returned (.slice a bs.length c) ∧ Reads w a bs ∧ ∃ n, w' = w.drewN n := by
  go_enter Tryd.func10, Tryd.ntmps10
  go_wp2_with fail
  refine (bytes_any b bs _ h).mono ?_
  rintro e w' ⟨a, c, rfl, hr, n, rfl⟩
  go_wp2
  go_ret
  exact ⟨a, c, rfl, hr, n, rfl⟩

/-- The first 4096. -/
def cap4 (l : List Value) : List Value := l.take 4096

end Go.Proofs.Qxb6605686aDoor
