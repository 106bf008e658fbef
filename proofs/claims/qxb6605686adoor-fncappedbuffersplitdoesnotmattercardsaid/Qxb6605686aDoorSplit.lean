import Derived.Test.Qxb6605686aDoorCapped
namespace Go.Proofs.Qxb6605686aDoor
open Go.RowKit
set_option linter.unusedVariables false

set_option maxHeartbeats 400000 in
theorem bytesSplit_any (a1 a2 : Option Addr) (n1 n2 c1 c2 : Nat) (w : World) (h1 : n1 ≤ maxLen) (h2 : n2 ≤ maxLen) :
    Calls Tryd.prog 11 #[.slice a1 n1 c1, .slice a2 n2 c2] w fun e w' => w' = w ∧ (e = .returned (.bool false) ∨ (e = .returned (.bool true) ∧ n1 + n2 ≤ 1048576)) := by
  unfold maxLen at h1 h2
  by_cases g1 : 1048576 < n1
  · go_enter Tryd.func11, Tryd.ntmps11
    go_wp2
    go_ret
    exact ⟨rfl, Or.inl rfl⟩
  by_cases g2 : 1048576 < n2
  · go_enter Tryd.func11, Tryd.ntmps11
    go_wp2
    go_ret
    exact ⟨rfl, Or.inl rfl⟩
  by_cases g3 : 1048576 < n1 + n2
  · go_enter Tryd.func11, Tryd.ntmps11
    go_wp2
    go_ret
    exact ⟨rfl, Or.inl rfl⟩
  · go_enter Tryd.func11, Tryd.ntmps11
    go_wp2
    go_ret
    exact ⟨rfl, Or.inr ⟨rfl, by omega⟩⟩

/-- 'ZZcappedWrite' at a slice of n bytes. -/
theorem zzWrite_n (b n c : Nat) (bs : List Value) (z : Nat → Int) (a : Option Addr) (w : World) (h : Buf b bs w) (hu : AllU8 bs) (hr : IsBytes w a n z) (hx : ∀ x, a = some x → x.block < b) (hnil : a = none → n = 0 ∧ c = 0) (hl : bs.length ≤ 4096) (hn : n ≤ 1048576) (hcc : n ≤ c) :
    Calls Tryd.prog 8 #[.pointer (some ⟨b, 0, none⟩), .slice a n c] w fun e w' => e = .returned (.tuple #[.int .i64 n, .bool true]) ∧ Buf b (cap4 (bs ++ cells n z)) w' ∧ Below b w w' := by
  have := zzWrite_any b bs (cells n z) a c w h hu hr.reads (allU8_cells n z) (fun x e => Nat.ne_of_lt (hx x e)) (fun e => by obtain ⟨rfl, rfl⟩ := hnil e; exact ⟨rfl, rfl⟩) hl (by rw [cells_length]; exact hn) (by rw [cells_length]; exact hcc)
  rw [cells_length] at this
  exact this

/-- Two slices that read as one list. -/
theorem same_reads (a1 a2 : Option Addr) (bs : List Value) (n c1 c2 : Nat) (w : World) (h1 : Reads w a1 bs) (h2 : Reads w a2 bs) (hu : AllU8 bs) (hb : bs.length = n) (hn : n ≤ 1048576) :
    Calls Tryd.prog 9 #[.slice a1 n c1, .slice a2 n c2] w fun e w' => e = .returned (.bool true) ∧ ∃ k, w' = w.drewN k := by
  subst hb
  exact same_any a1 a2 _ c1 c2 (num bs) w (h1.bytes hu) (h2.bytes hu) hn

theorem cap4_cap4 (xs ys : List Value) : cap4 (cap4 xs ++ ys) = cap4 (xs ++ ys) := by
  unfold cap4
  by_cases h : xs.length ≤ 4096
  · rw [List.take_of_length_le h]
  · have hx : 4096 ≤ xs.length := by omega
    rw [List.take_append, List.take_append, List.length_take, Nat.min_eq_left hx, List.take_take, Nat.sub_self, Nat.sub_eq_zero_of_le hx]
    simp

/-- The two laid end to end. -/
def joinZ (n : Nat) (za zb : Nat → Int) (j : Nat) : Int := if j < n then za j else zb (j - n)
theorem joinZ_at (n k : Nat) (za zb : Nat → Int) : joinZ n za zb (n + k) = zb k := by
  unfold joinZ; rw [if_neg (by omega), Nat.add_sub_cancel_left]
theorem cells_join (n m : Nat) (za zb : Nat → Int) : cells (n + m) (joinZ n za zb) = cells n za ++ cells m zb := by
  apply List.ext_getElem?
  intro j
  by_cases h1 : j < n
  · rw [cells_get _ _ _ (by omega), List.getElem?_append_left (by rw [cells_length]; exact h1), cells_get _ _ _ h1, joinZ, if_pos h1]
  · rw [List.getElem?_append_right (by rw [cells_length]; omega), cells_length]
    by_cases h2 : j < n + m
    · rw [cells_get _ _ _ h2, cells_get _ _ _ (by omega), joinZ, if_neg h1]
    · rw [List.getElem?_eq_none (by rw [cells_length]; omega), List.getElem?_eq_none (by rw [cells_length]; omega)]

theorem rowIs_bytes {w : World} {g n : Nat} {z : Nat → Int} (h : w.rowIs g 5 n (fun i => .int .u8 (z i))) : IsBytes w (some ⟨g, 0, none⟩) n z := fun i hi => ⟨g, 0, rfl, by rw [Nat.zero_add]; exact h.cell hi⟩

set_option maxRecDepth 100000 in
set_option maxHeartbeats 4000000 in
theorem split_any (a1 a2 : Option Addr) (n1 n2 c1 c2 : Nat) (za zb : Nat → Int) (w : World) (hz1 : IsBytes w a1 n1 za) (hz2 : IsBytes w a2 n2 zb) (hn1 : a1 = none → n1 = 0) (hn2 : a2 = none → n2 = 0) (hl1 : n1 ≤ maxLen) (hl2 : n2 ≤ maxLen) :
    Calls Tryd.prog 4 #[.slice a1 n1 c1, .slice a2 n2 c2] w fun e w' => e = .returned (.bool true) ∧ Below w.heap.size w w' := by
  have HZ1 : Hid (IsBytes w a1 n1 za) := hz1
  have HZ2 : Hid (IsBytes w a2 n2 zb) := hz2
  have HN1 : Hid (a1 = none → n1 = 0) := hn1
  have HN2 : Hid (a2 = none → n2 = 0) := hn2
  clear hz1 hz2 hn1 hn2
  go_enter Tryd.func4, Tryd.ntmps4
  go_wp2_with fail
  refine (bytesSplit_any a1 a2 n1 n2 c1 c2 _ hl1 hl2).mono ?_
  rintro e w' ⟨rfl, rfl | ⟨rfl, hlen⟩⟩
  · go_wp2
    go_ret
    exact ⟨rfl, Below.refl _ _⟩
  clear hl1 hl2
  have k1 : n1 ≤ 1048576 := by omega
  have k2 : n2 ≤ 1048576 := by omega
  go_wp2_with fail
  refine (clone_any a1 n1 c1 za _ HZ1.out k1 HN1.out).mono ?_
  rintro e w1 ⟨b1, d1, rfl, y1, x1, x2, x3, B1⟩
  have Y1 : Hid (IsBytes w1 b1 n1 za) := y1
  have X1 : Hid (∀ x, b1 = some x → x.block < w1.heap.size) := x1
  have X2 : Hid (b1 = none → n1 = 0 ∧ d1 = 0) := x2
  have Z2 : Hid (IsBytes w1 a2 n2 zb) := HZ2.out.below B1
  clear y1 x1 x2 HZ1 HZ2 HN1
  go_wp2_with fail
  refine (clone_any a2 n2 c2 zb _ Z2.out k2 HN2.out).mono ?_
  rintro e w2 ⟨b2, d2, rfl, y2, u1, u2, u3, B2⟩
  have Y2 : Hid (IsBytes w2 b2 n2 zb) := y2
  have U1 : Hid (∀ x, b2 = some x → x.block < w2.heap.size) := u1
  have U2 : Hid (b2 = none → n2 = 0 ∧ d2 = 0) := u2
  have Y1' : Hid (IsBytes w2 b1 n1 za) := Y1.out.below B2
  have X1' : Hid (∀ x, b1 = some x → x.block < w2.heap.size) := fun x hx => Nat.lt_of_lt_of_le (X1.out x hx) B2.size
  have BB2 : Below w'.heap.size w' w2 := B1.trans (B2.mono B1.size)
  clear y2 u1 u2 Z2 HN2 Y1 X1 B1 B2
  have hmk := fun w => run_make_row' (P := Tryd.prog) 24 5 (.int .u8 0) 1 Tryd.underlying24 info5 rfl .i64 .i64 (n1 + n2) (by omega) (by omega) w
  simp only [Int.natCast_add] at hmk
  go_wp2
  clear hmk
  go_loopw [6] (fun i wr => ∃ k : Nat, k ≤ n1 ∧ i = .int .i64 k ∧ wr.rowIs w2.heap.size 5 (n1 + n2) (fun j => if j < k then .int .u8 (za j) else .int .u8 0) ∧ Below w2.heap.size w2 wr) (fun i _ => n1 - (intOf i).toNat)
  case atStart => exact ⟨0, Nat.zero_le _, rfl, by simpa using World.rowIs_made w2 (.int .u8 0) (n1 + n2) 5, (Below.refl _ _).alloc (Nat.le_refl _) _⟩
  case round =>
    obtain ⟨k, hk, rfl, hr, hb⟩ := hrel
    have HR : Hid (wr.rowIs w2.heap.size 5 (n1 + n2) (fun j => if j < k then .int .u8 (za j) else .int .u8 0)) := hr
    clear hr
    by_cases hlt : k < n1
    · obtain ⟨b, off, rfl, c0⟩ := Y1'.out.below hb k hlt
      have g1 := HR.out.cell (show k < n1 + n2 by omega)
      have g2 := HR.out.frozen k
      rw [if_neg (by omega)] at g1
      have hlt2 : k < n1 + n2 := by omega
      go_wp2
      go_roundw
      case rel =>
        refine ⟨k + 1, by omega, by go_num, (HR.out.set k _).congr (fun j hj => ?_), hb.setCell (Nat.le_refl _) _⟩
        by_cases h1 : j = k
        · subst h1; simp
        · by_cases h2 : j < k
          · rw [if_neg h1, if_pos h2, if_pos (by omega)]
          · rw [if_neg h1, if_neg h2, if_neg (by omega)]
      case measure => simp [intOf]; omega
    · obtain rfl : n1 = k := by omega
      obtain ⟨w3, rfl⟩ : ∃ wo : World, wo = wr := ⟨_, rfl⟩
      go_wp2
      clear hlt hk
      go_loopw [7] (fun i wr => ∃ k : Nat, k ≤ n2 ∧ i = .int .i64 k ∧ wr.rowIs w2.heap.size 5 (n1 + n2) (fun j => if j < n1 + k then .int .u8 (joinZ n1 za zb j) else .int .u8 0) ∧ Below w2.heap.size w2 wr) (fun i _ => n2 - (intOf i).toNat)
      case atStart => exact ⟨0, Nat.zero_le _, rfl, HR.out.congr (fun j hj => by
        by_cases h1 : j < n1
        · simp [h1, joinZ]
        · simp [h1]), hb⟩
      case round =>
        clear HR hb
        obtain ⟨k, hk, rfl, hr, hb⟩ := hrel
        have HR : Hid (wr.rowIs w2.heap.size 5 (n1 + n2) (fun j => if j < n1 + k then .int .u8 (joinZ n1 za zb j) else .int .u8 0)) := hr
        clear hr
        by_cases hlt : k < n2
        · obtain ⟨b, off, rfl, c0⟩ := Y2.out.below hb k hlt
          have g1 := HR.out.cell (show n1 + k < n1 + n2 by omega)
          have g2 := HR.out.frozen (n1 + k)
          rw [if_neg (by omega)] at g1
          have hlt2 : n1 + k < n1 + n2 := by omega
          go_wp2
          go_roundw
          case rel =>
            refine ⟨k + 1, by omega, by go_num, (HR.out.set (n1 + k) _).congr (fun j hj => ?_), hb.setCell (Nat.le_refl _) _⟩
            by_cases h1 : j = n1 + k
            · subst h1; rw [if_pos rfl, if_pos (by omega), joinZ_at]
            · by_cases h2 : j < n1 + k
              · rw [if_neg h1, if_pos h2, if_pos (by omega)]
              · rw [if_neg h1, if_neg h2, if_neg (by omega)]
          case measure => simp [intOf]; omega
        · obtain rfl : n2 = k := by omega
          obtain ⟨w4, rfl⟩ : ∃ wo : World, wo = wr := ⟨_, rfl⟩
          clear hlt hk
          have RW : Hid (IsBytes w4 (some ⟨w2.heap.size, 0, none⟩) (n1 + n2) (joinZ n1 za zb)) := rowIs_bytes (HR.out.congr (fun j hj => by rw [if_pos hj]))
          have hg : w2.heap.size < w4.heap.size := HR.out.lt
          have R1 : Hid (IsBytes w4 b1 n1 za) := Y1'.out.below hb
          have R2 : Hid (IsBytes w4 b2 n2 zb) := Y2.out.below hb
          have T1 : Hid (∀ x, b1 = some x → x.block < w4.heap.size) := fun x hx => Nat.lt_of_lt_of_le (X1'.out x hx) hb.size
          have T2 : Hid (∀ x, b2 = some x → x.block < w4.heap.size) := fun x hx => Nat.lt_of_lt_of_le (U1.out x hx) hb.size
          have BB4 : Below w'.heap.size w' w4 := BB2.trans (hb.mono BB2.size)
          generalize w2.heap.size = gw at *
          clear HR hb Y1' Y2 X1' U1 BB2
          -- the first buffer
          go_wp2_with fail
          refine (new_any _).mono ?_
          rintro e w5 ⟨p1, rfl, hp1, V1, B5⟩
          have HP1 : Hid (p1 = w4.heap.size) := hp1
          have B5' : Below p1 w4 w5 := by rw [hp1]; exact B5
          clear hp1
          go_wp2_with fail
          refine (zzWrite_n p1 n1 d1 [] za b1 _ V1 (fun v hv => by cases hv) (R1.out.below B5) (fun x hx => by rw [HP1.out]; exact T1.out x hx) X2.out (by simp) k1 x3).mono ?_
          rintro e w6 ⟨rfl, V2, B6⟩
          have B6' : Below w4.heap.size w4 w6 := by rw [← HP1.out]; exact B5'.trans B6
          rw [List.nil_append] at V2
          go_wp2_with fail
          refine (zzWrite_n p1 n2 d2 _ zb b2 _ V2 ((allU8_cells _ _).cap4) (R2.out.below B6') (fun x hx => by rw [HP1.out]; exact T2.out x hx) U2.out (cap4_length _) k2 u3).mono ?_
          rintro e w7 ⟨rfl, V3, B7⟩
          rw [cap4_cap4, ← cells_join] at V3
          have B7' : Below w4.heap.size w4 w7 := by rw [← HP1.out]; exact (B5'.trans B6).trans B7
          have RW7 : Hid (IsBytes w7 (some ⟨gw, 0, none⟩) (n1 + n2) (joinZ n1 za zb)) := RW.out.below B7'
          have BB7 : Below w'.heap.size w' w7 := BB4.trans (B7'.mono BB4.size)
          have hg7 : gw < w7.heap.size := Nat.lt_of_lt_of_le hg B7'.size
          clear V1 V2 B5 B5' B6 B6' B7 B7' RW R1 R2 T1 T2 BB4 hg X2 U2
          -- the second buffer
          go_wp2_with fail
          refine (new_any _).mono ?_
          rintro e w8 ⟨p2, rfl, hp2, V4, B8⟩
          have HP2 : Hid (p2 = w7.heap.size) := hp2
          have B8' : Below p2 w7 w8 := by rw [hp2]; exact B8
          clear hp2
          have hnn : n1 + n2 ≤ 1048576 := hlen
          have WR : Hid (Calls Tryd.prog 8 #[.pointer (some ⟨p2, 0, none⟩), .slice (some ⟨gw, 0, none⟩) (n1 + n2) (n1 + n2)] w8 fun e w' => e = .returned (.tuple #[.int .i64 ((n1 + n2 : Nat) : Int), .bool true]) ∧ Buf p2 (cap4 ([] ++ cells (n1 + n2) (joinZ n1 za zb))) w' ∧ Below p2 w8 w') :=
            zzWrite_n p2 (n1 + n2) (n1 + n2) [] (joinZ n1 za zb) (some ⟨gw, 0, none⟩) _ V4 (fun v hv => by cases hv) (RW7.out.below B8) (fun x hx => by cases hx; rw [HP2.out]; exact hg7) (fun h => by cases h) (by simp) hnn (Nat.le_refl _)
          go_wp2_with fail
          refine WR.out.mono ?_
          rintro e w9 ⟨rfl, V5, B9⟩
          rw [List.nil_append] at V5
          have B9' : Below w7.heap.size w7 w9 := by rw [← HP2.out]; exact B8'.trans B9
          have V6 := V3.old B9'
          have BB9 : Below w'.heap.size w' w9 := BB7.trans (B9'.mono BB7.size)
          clear V3 V4 B8 B8' B9 B9' RW7 BB7 hg7 WR
          have hbl : (cap4 (cells (n1 + n2) (joinZ n1 za zb))).length = min 4096 (n1 + n2) := by unfold cap4; rw [List.length_take, cells_length]
          have hub : AllU8 (cap4 (cells (n1 + n2) (joinZ n1 za zb))) := (allU8_cells _ _).cap4
          generalize cap4 (cells (n1 + n2) (joinZ n1 za zb)) = bs at *
          by_cases hbig : 4096 < n1 + n2
          · have hL : bs.length = 4096 := by omega
            have HL : Hid (bs.length = 4096) := hL
            have HU : Hid (AllU8 bs) := hub
            have K1 : Hid (∀ wx, Buf p1 bs wx → Calls Tryd.prog 10 #[.pointer (some ⟨p1, 0, none⟩)] wx fun e w' => ∃ a c, e = .returned (.slice a 4096 c) ∧ Reads wx a bs ∧ ∃ n, w' = wx.drewN n) := fun wx h => by have := kept_any p1 bs wx h; rw [HL.out] at this; exact this
            have K2 : Hid (∀ wx, Buf p2 bs wx → Calls Tryd.prog 10 #[.pointer (some ⟨p2, 0, none⟩)] wx fun e w' => ∃ a c, e = .returned (.slice a 4096 c) ∧ Reads wx a bs ∧ ∃ n, w' = wx.drewN n) := fun wx h => by have := kept_any p2 bs wx h; rw [HL.out] at this; exact this
            clear hbl hL hub
            go_wp2_with fail
            refine (K1.out _ V6).mono ?_
            rintro e wx ⟨q1, e1, rfl, hr1, m1, rfl⟩
            go_wp2_with fail
            refine (K2.out _ (V5.drewN m1)).mono ?_
            rintro e wx ⟨q2, e2, rfl, hr2, m2, rfl⟩
            have HQ1 : Hid (Reads w9 q1 bs) := hr1
            have HQ2 : Hid (Reads w9 q2 bs) := hr2
            clear hr1 hr2 V5 V6 K1 K2
            go_wp2_with fail
            refine (same_reads q1 q2 bs 4096 e1 e2 _ (by exact HQ1.out) (by exact HQ2.out) HU.out HL.out (by omega)).mono ?_
            rintro e wx ⟨rfl, m3, rfl⟩
            go_wp2
            go_ret
            exact ⟨rfl, below_drewN BB9 _⟩
          · have hL : bs.length = n1 + n2 := by omega
            have HL : Hid (bs.length = (n1 + n2)) := hL
            have HU : Hid (AllU8 bs) := hub
            have K1 : Hid (∀ wx, Buf p1 bs wx → Calls Tryd.prog 10 #[.pointer (some ⟨p1, 0, none⟩)] wx fun e w' => ∃ a c, e = .returned (.slice a (n1 + n2) c) ∧ Reads wx a bs ∧ ∃ n, w' = wx.drewN n) := fun wx h => by have := kept_any p1 bs wx h; rw [HL.out] at this; exact this
            have K2 : Hid (∀ wx, Buf p2 bs wx → Calls Tryd.prog 10 #[.pointer (some ⟨p2, 0, none⟩)] wx fun e w' => ∃ a c, e = .returned (.slice a (n1 + n2) c) ∧ Reads wx a bs ∧ ∃ n, w' = wx.drewN n) := fun wx h => by have := kept_any p2 bs wx h; rw [HL.out] at this; exact this
            clear hbl hL hub
            go_wp2_with fail
            refine (K1.out _ V6).mono ?_
            rintro e wx ⟨q1, e1, rfl, hr1, m1, rfl⟩
            go_wp2_with fail
            refine (K2.out _ (V5.drewN m1)).mono ?_
            rintro e wx ⟨q2, e2, rfl, hr2, m2, rfl⟩
            have HQ1 : Hid (Reads w9 q1 bs) := hr1
            have HQ2 : Hid (Reads w9 q2 bs) := hr2
            clear hr1 hr2 V5 V6 K1 K2
            go_wp2_with fail
            refine (same_reads q1 q2 bs (n1 + n2) e1 e2 _ (by exact HQ1.out) (by exact HQ2.out) HU.out HL.out hnn).mono ?_
            rintro e wx ⟨rfl, m3, rfl⟩
            go_wp2
            go_ret
            exact ⟨rfl, below_drewN BB9 _⟩
end Go.Proofs.Qxb6605686aDoor
