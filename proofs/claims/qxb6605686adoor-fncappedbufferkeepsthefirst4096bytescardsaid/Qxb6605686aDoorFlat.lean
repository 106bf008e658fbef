import Derived.Test.Qxb6605686aDoorChunks
namespace Go.Proofs.Qxb6605686aDoor
open Go.RowKit
set_option linter.unusedVariables false

/-- The first k chunks laid end to end. -/
def flat (L : Nat → Nat) (Z : Nat → Nat → Int) : Nat → List Value
  | 0 => []
  | k + 1 => flat L Z k ++ cells (L k) (Z k)

theorem allU8_flat (L : Nat → Nat) (Z : Nat → Nat → Int) : ∀ k, AllU8 (flat L Z k)
  | 0 => fun v hv => by cases hv
  | k + 1 => (allU8_flat L Z k).append (allU8_cells _ _)

theorem cells_succ (m : Nat) (z : Nat → Int) : cells (m + 1) z = cells m z ++ [.int .u8 (z m)] := by
  simp [cells, List.range_succ]
theorem cells_zero (z : Nat → Int) : cells 0 z = [] := rfl

theorem cap4_cap4 (xs ys : List Value) : cap4 (cap4 xs ++ ys) = cap4 (xs ++ ys) := by
  unfold cap4
  by_cases h : xs.length ≤ 4096
  · rw [List.take_of_length_le h]
  · have hx : 4096 ≤ xs.length := by omega
    rw [List.take_append, List.take_append, List.length_take, Nat.min_eq_left hx, List.take_take, Nat.sub_self, Nat.sub_eq_zero_of_le hx]
    simp

theorem cap4_snoc_lt (xs : List Value) (v : Value) (h : (cap4 xs).length < 4096) : cap4 (xs ++ [v]) = cap4 xs ++ [v] := by
  unfold cap4 at *
  rw [List.length_take] at h
  have hx : xs.length < 4096 := by omega
  rw [List.take_of_length_le (by omega : xs.length ≤ 4096), List.take_of_length_le (by rw [List.length_append]; simp; omega)]
theorem cap4_snoc_ge (xs : List Value) (v : Value) (h : ¬ (cap4 xs).length < 4096) : cap4 (xs ++ [v]) = cap4 xs := by
  unfold cap4 at *
  rw [List.length_take] at h
  rw [List.take_append_of_le_length (by omega)]

/-- A slice of the call's own that owns xs, not nil. -/
def Own (B : Nat) (w : World) (v : Value) (xs : List Value) : Prop := ∃ g n c, v = .slice (some ⟨g, 0, none⟩) n c ∧ w.ownsRow B 5 1 (.slice (some ⟨g, 0, none⟩) n c) n xs

theorem own_new (w : World) : Own w.heap.size (w.alloc (.cells #[] 5)) (.slice (some ⟨w.heap.size, 0, none⟩) 0 0) [] :=
  ⟨_, _, _, rfl, rfl, .inr ⟨w.heap.size, 0, #[], rfl, Nat.le_refl _, Deep.blk_alloc_new _ _, Nat.le_refl _, by unfold maxLen; omega, rfl, rfl⟩⟩

theorem own_grown {B n : Nat} {w : World} {v : Value} {xs : List Value} (h : w.ownsRow B 5 1 v (n + 1) xs) : Own B w v xs := by
  rcases h.2 with ⟨_, h0⟩ | ⟨g, cap, cur, hv, r⟩
  · omega
  · subst hv
    exact ⟨g, n + 1, cap, rfl, h⟩

theorem own_len {B g n c : Nat} {w : World} {xs : List Value} (h : w.ownsRow B 5 1 (.slice (some ⟨g, 0, none⟩) n c) n xs) : xs.length = n := by
  have := h.1; omega

theorem own_reads {B g n c : Nat} {w : World} {xs : List Value} (h : w.ownsRow B 5 1 (.slice (some ⟨g, 0, none⟩) n c) n xs) : Reads w (some ⟨g, 0, none⟩) xs := by
  rcases h.2 with ⟨hv, _⟩ | ⟨g', cap, cur, hv, _, hg, hnc, _, hcs, htk⟩
  · cases hv
  · cases hv
    intro j v hj
    refine ⟨g, 0, rfl, ?_⟩
    rw [Nat.zero_add]
    have hlt : j < xs.length := (List.getElem?_eq_some_iff.1 hj).1
    have hl := h.1
    rw [← htk, List.getElem?_take_of_lt (by omega)] at hj
    simp [World.cell?, hg]
    simpa using hj

theorem own_base {B g n c : Nat} {w : World} {xs : List Value} (h : w.ownsRow B 5 1 (.slice (some ⟨g, 0, none⟩) n c) n xs) : B ≤ g := by
  rcases h.2 with ⟨hv, _⟩ | ⟨g', cap, cur, hv, hB, _⟩
  · cases hv
  · cases hv; exact hB

theorem own_lt {B g n c : Nat} {w : World} {xs : List Value} (h : w.ownsRow B 5 1 (.slice (some ⟨g, 0, none⟩) n c) n xs) : g < w.heap.size := by
  rcases h.2 with ⟨hv, _⟩ | ⟨g', cap, cur, hv, _, hg, _⟩
  · cases hv
  · cases hv
    exact (Array.getElem?_eq_some_iff.1 hg).1

/-- Behind one append. -/
theorem own_step {B g n c : Nat} {w w2 w0 : World} {xs : List Value} {v' b : Value} {o : Obj} (h : w.ownsRow B 5 1 (.slice (some ⟨g, 0, none⟩) n c) n xs) (hb : Below B w0 w) (hB : B ≤ w0.heap.size) (ho : w2.ownsRow B 5 1 v' (n + 1) (xs ++ [b])) (hg : (w.alloc o).grownBy w2 (Value.slice (some ⟨g, 0, none⟩) n c).ownBlock) :
    Own B w2 v' (xs ++ [b]) ∧ Below B w0 w2 :=
  ⟨own_grown ho, (hb.alloc (Nat.le_trans hB hb.size) o).grown hg (by have := hb.size; simp; omega) (fun k e => by simp [Value.ownBlock] at e; subst e; exact own_base h)⟩

theorem make0 (w : World) : (Instr.makeSlice 24 (.int .i64 0) (.int .i64 0)).run Tryd.prog w = .ok (.slice (some ⟨w.heap.size, 0, none⟩) 0 0) (w.alloc (.cells #[] 5)) := by kernel_rfl

/-- The chunk k as the walk meets it, in a later world. -/
theorem chunk_at {w : World} {a : Option Addr} {len : Nat} {A : Nat → Option Addr} {L C : Nat → Nat} {Z : Nat → Nat → Int} (h : IsChunks w a len A L C Z) {k : Nat} (hk : k < len) : ∃ b off, a = some ⟨b, off, none⟩ ∧ w.cell? ⟨b, off + k, none⟩ = some (.slice (A k) (L k) (C k)) ∧ IsBytes w (A k) (L k) (Z k) := h k hk

theorem zzWrite_n (b n c : Nat) (bs : List Value) (z : Nat → Int) (a : Option Addr) (w : World) (h : Buf b bs w) (hu : AllU8 bs) (hr : IsBytes w a n z) (hx : ∀ x, a = some x → x.block < b) (hnil : a = none → n = 0 ∧ c = 0) (hl : bs.length ≤ 4096) (hn : n ≤ 1048576) (hcc : n ≤ c) :
    Calls Tryd.prog 8 #[.pointer (some ⟨b, 0, none⟩), .slice a n c] w fun e w' => e = .returned (.tuple #[.int .i64 n, .bool true]) ∧ Buf b (cap4 (bs ++ cells n z)) w' ∧ Below b w w' := by
  have := zzWrite_any b bs (cells n z) a c w h hu hr.reads (allU8_cells n z) (fun x e => Nat.ne_of_lt (hx x e)) (fun e => by obtain ⟨rfl, rfl⟩ := hnil e; exact ⟨rfl, rfl⟩) hl (by rw [cells_length]; exact hn) (by rw [cells_length]; exact hcc)
  rw [cells_length] at this
  exact this

/-- Two slices that read as one list. -/
theorem same_reads (a1 a2 : Option Addr) (bs : List Value) (n c1 c2 : Nat) (w : World) (h1 : Reads w a1 bs) (h2 : Reads w a2 bs) (hu : AllU8 bs) (hb : bs.length = n) (hn : n ≤ 1048576) :
    Calls Tryd.prog 9 #[.slice a1 n c1, .slice a2 n c2] w fun e w' => e = .returned (.bool true) ∧ ∃ k, w' = w.drewN k := by
  subst hb
  exact same_any a1 a2 _ c1 c2 (num bs) w (h1.bytes hu) (h2.bytes hu) hn
end Go.Proofs.Qxb6605686aDoor
