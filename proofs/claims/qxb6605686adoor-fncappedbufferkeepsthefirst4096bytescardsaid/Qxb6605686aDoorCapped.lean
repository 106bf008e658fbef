import Derived.Test.Qxb6605686aDoorWrite
import Derived.Deep.RegionWith
namespace Go.Proofs.Qxb6605686aDoor
open Go.RowKit
set_option linter.unusedVariables false

theorem cap4_append (bs cs : List Value) (h : bs.length ≤ 4096) : cap4 (bs ++ cs) = bs ++ cs.take (4096 - bs.length) := by
  unfold cap4
  rw [List.take_append, List.take_of_length_le h]
theorem cap4_length (l : List Value) : (cap4 l).length ≤ 4096 := by
  unfold cap4; rw [List.length_take]; omega
theorem cap4_full (bs cs : List Value) (h : bs.length = 4096) : cap4 (bs ++ cs) = bs := by
  rw [cap4_append bs cs (by omega), h]; simp
theorem AllU8.cap4 {l : List Value} (h : AllU8 l) : AllU8 (cap4 l) := h.take 4096

theorem add_mk (b off n : Nat) : (⟨b, off, none⟩ : Addr).add n = ⟨b, off + n, none⟩ := by
  unfold Addr.add
  split
  · rename_i h; rw [h]; rfl
  · rfl

theorem below_of_drewN {b k : Nat} {w w' : World} (h : Below b (w.drewN k) w') : Below b w w' := ⟨h.os, h.tape, h.output, h.size, h.block⟩

/-- The write below the cap, in the walk's own form. -/
theorem write_some (b : Nat) (bs cs : List Value) (x : Addr) (c l m : Nat) (w : World) (h : Buf b bs w) (hu : AllU8 bs) (hr : Reads w (some x) cs) (hc : AllU8 cs) (hx : x.block ≠ b) (hl : bs.length = l) (hm : cs.length = m) (h4 : l ≤ 4096) (k : Nat) :
    Calls Tryd.prog 16 #[.pointer (some ⟨b, 0, none⟩), .slice (some x) (min (m : Int) (4096 - (l : Int))).toNat c] (w.drewN k) fun e w' => e = .returned (.tuple #[.int .i64 (min (m : Int) (4096 - (l : Int))).toNat, .nilIface]) ∧ Buf b (cap4 (bs ++ cs)) w' ∧ Below b w w' := by
  have hlen : (cs.take (4096 - bs.length)).length = (min (m : Int) (4096 - (l : Int))).toNat := by rw [List.length_take]; omega
  refine (Buffer_Write_at 38 (fun _ => none) b b 0 bs (cs.take (4096 - bs.length)) x _ c (w.drewN k) h (Nat.le_of_lt h.lt) hu.oneCell hlen hx ?_ (hc.take _).oneCell (by omega)).mono ?_
  · intro j v hj
    have hj' : cs[j]? = some v := by
      have hlt := (List.getElem?_eq_some_iff.1 hj).1
      rw [List.length_take] at hlt
      rwa [List.getElem?_take_of_lt (by omega)] at hj
    obtain ⟨b', off, e, hcell⟩ := hr j v hj'
    cases e
    rw [add_mk]
    exact hcell
  · rintro e w' ⟨rfl, hb, hbel, _⟩
    refine ⟨rfl, ?_, below_of_drewN hbel⟩
    rw [cap4_append bs cs (by omega)]
    exact hb

set_option maxRecDepth 100000 in
set_option maxHeartbeats 400000 in
theorem capped_room (b : Nat) (bs cs : List Value) (x : Addr) (c l m : Nat) (w : World) (h : Buf b bs w) (hu : AllU8 bs) (hr : Reads w (some x) cs) (hc : AllU8 cs) (hx : x.block ≠ b) (hbl : bs.length = l) (hcl : cs.length = m) (hl : l < 4096) (hn : m ≤ 1048576) (hcc : m ≤ c) :
    Calls Tryd.prog 13 #[.pointer (some ⟨b, 0, none⟩), .slice (some x) m c] w fun e w' => e = .returned (.tuple #[.int .i64 m, .nilIface]) ∧ Buf b (cap4 (bs ++ cs)) w' ∧ Below b w w' := by
  have HW : Hid (∀ k, Calls Tryd.prog 16 #[.pointer (some ⟨b, 0, none⟩), .slice (some x) (min (m : Int) (4096 - (l : Int))).toNat c] (w.drewN k) fun e w' => e = .returned (.tuple #[.int .i64 (min (m : Int) (4096 - (l : Int))).toNat, .nilIface]) ∧ Buf b (cap4 (bs ++ cs)) w' ∧ Below b w w') :=
    fun k => write_some b bs cs x c _ _ w h hu hr hc hx hbl hcl (by omega) k
  have hlen := Buffer_Len_at 38 (fun _ => none) b b 0 bs w h
  rw [hbl] at hlen
  have HL : Hid (Calls Tryd.prog 15 #[.pointer (some ⟨b, 0, none⟩)] w fun e w' => e = .returned (.int .i64 l) ∧ ∃ n, w' = w.drewN n) := hlen
  clear hlen hu hr hc h hbl hcl
  go_enter Tryd.func13, Tryd.ntmps13
  go_wp2_with fail
  refine HL.out.mono ?_
  rintro e w' ⟨rfl, n, rfl⟩
  go_wp2_with fail
  go_region_with (go_at_call 16; refine (HW.out _).mono ?_; rintro e w' ⟨rfl, hb, hbel⟩)
  go_wp2
  go_ret2
  exact ⟨rfl, hb, hbel⟩

set_option maxRecDepth 100000 in
set_option maxHeartbeats 400000 in
theorem capped_nil (b : Nat) (bs : List Value) (w : World) (h : Buf b bs w) (hl : bs.length < 4096) :
    Calls Tryd.prog 13 #[.pointer (some ⟨b, 0, none⟩), .slice none 0 0] w fun e w' => e = .returned (.tuple #[.int .i64 0, .nilIface]) ∧ Buf b bs w' ∧ Below b w w' := by
  have HW : Hid (∀ k, Calls Tryd.prog 16 #[.pointer (some ⟨b, 0, none⟩), .slice none 0 0] (w.drewN k) fun e w' => e = .returned (.tuple #[.int .i64 0, .nilIface]) ∧ Buf b bs w' ∧ Below b w w') :=
    fun k => (write_nil b bs (w.drewN k) h).mono fun e w' ⟨h1, h2, h3⟩ => ⟨h1, h2, below_of_drewN h3⟩
  go_enter Tryd.func13, Tryd.ntmps13
  go_wp2_with fail
  refine (Buffer_Len_at 38 (fun _ => none) b b 0 bs _ h).mono ?_
  rintro e w' ⟨rfl, n, rfl⟩
  clear h
  generalize bs.length = l at *
  have hmn : min (0 : Int) (4096 - (l : Int)) = 0 := by omega
  go_wp2_with fail
  go_region_with (go_at_call 16; refine (HW.out _).mono ?_; rintro e w' ⟨rfl, hb, hbel⟩)
  go_wp2
  go_ret2
  exact ⟨rfl, hb, hbel⟩

set_option maxRecDepth 100000 in
set_option maxHeartbeats 400000 in
theorem capped_full (b : Nat) (bs : List Value) (a : Option Addr) (n c : Nat) (w : World) (h : Buf b bs w) (hl : bs.length = 4096) :
    Calls Tryd.prog 13 #[.pointer (some ⟨b, 0, none⟩), .slice a n c] w fun e w' => e = .returned (.tuple #[.int .i64 n, .nilIface]) ∧ Buf b bs w' ∧ Below b w w' := by
  go_enter Tryd.func13, Tryd.ntmps13
  go_wp2_with fail
  refine (Buffer_Len_at 38 (fun _ => none) b b 0 bs _ h).mono ?_
  rintro e w' ⟨rfl, k, rfl⟩
  rw [hl]
  clear hl
  go_wp2
  go_ret2
  exact ⟨rfl, h, below_drewN (Below.refl _ _) _⟩

/-- 'Write' of the capped buffer, whatever the slice. -/
theorem capped_any (b : Nat) (bs cs : List Value) (a : Option Addr) (c : Nat) (w : World) (h : Buf b bs w) (hu : AllU8 bs) (hr : Reads w a cs) (hc : AllU8 cs) (hx : ∀ x, a = some x → x.block ≠ b) (hnil : a = none → cs = [] ∧ c = 0) (hl : bs.length ≤ 4096) (hn : cs.length ≤ 1048576) (hcc : cs.length ≤ c) :
    Calls Tryd.prog 13 #[.pointer (some ⟨b, 0, none⟩), .slice a cs.length c] w fun e w' => e = .returned (.tuple #[.int .i64 cs.length, .nilIface]) ∧ Buf b (cap4 (bs ++ cs)) w' ∧ Below b w w' := by
  by_cases hf : bs.length = 4096
  · rw [cap4_full bs cs hf]
    exact capped_full b bs a _ c w h hf
  · cases a with
    | some x => exact capped_room b bs cs x c _ _ w h hu hr hc (hx x rfl) rfl rfl (by omega) hn hcc
    | none =>
      obtain ⟨rfl, rfl⟩ := hnil rfl
      have e : cap4 (bs ++ []) = bs := by rw [cap4_append bs [] hl]; simp
      rw [e]
      exact capped_nil b bs w h (by omega)

set_option maxRecDepth 100000 in
set_option maxHeartbeats 400000 in
theorem zzWrite_any (b : Nat) (bs cs : List Value) (a : Option Addr) (c : Nat) (w : World) (h : Buf b bs w) (hu : AllU8 bs) (hr : Reads w a cs) (hc : AllU8 cs) (hx : ∀ x, a = some x → x.block ≠ b) (hnil : a = none → cs = [] ∧ c = 0) (hl : bs.length ≤ 4096) (hn : cs.length ≤ 1048576) (hcc : cs.length ≤ c) :
    Calls Tryd.prog 8 #[.pointer (some ⟨b, 0, none⟩), .slice a cs.length c] w fun e w' => e = .returned (.tuple #[.int .i64 cs.length, .bool true]) ∧ Buf b (cap4 (bs ++ cs)) w' ∧ Below b w w' := by
  go_enter Tryd.func8, Tryd.ntmps8
  go_wp2_with fail
  refine (capped_any b bs cs a c _ h hu hr hc hx hnil hl hn hcc).mono ?_
  rintro e w' ⟨rfl, hb, hbel⟩
  go_wp2
  go_quiet (fail)
  go_wp2
  go_ret2
  exact ⟨rfl, hb, below_drewN hbel _⟩
end Go.Proofs.Qxb6605686aDoor
