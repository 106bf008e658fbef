import Derived.Test.Qxb6608906aBytes
namespace Go.Proofs.Qxb6608906a
open Go.RowKit
set_option linter.unusedVariables false

theorem run_next (A : Nat → Int) (v : Int) (k : Nat) : Chg.run A v (k + 1) = after none (Chg.run A v k) (A k) := rfl

theorem IsPats.beside {w w' : World} {a : Option Addr} {len cb : Nat} {PL : Nat → Bool} {SZ : Nat → Int} {PX : Nat → ByteArray} (h : IsPats w a len PL SZ PX) {w0 : World} (h0 : IsPats w0 a len PL SZ PX) (hc : w0.heap.size ≤ cb) (hs : w0.heap.size ≤ w.heap.size) (hb : Beside cb w w') : IsPats w' a len PL SZ PX := by
  intro i hi
  obtain ⟨b, off, h1, h2, h3, h4⟩ := h i hi
  obtain ⟨b', off', h1', h2', _⟩ := h0 i hi
  have e := h1.symm.trans h1'
  simp only [Option.some.injEq, Addr.mk.injEq] at e
  have hl' := lt_cell h2'
  have hl := lt_cell h2
  have hn : b ≠ cb := by omega
  exact ⟨b, off, h1, (hb.cell hl hn).trans h2, (hb.cell hl hn).trans h3, (hb.cell hl hn).trans h4⟩

theorem model_A (name : ByteArray) (a : Option Addr) (len cap fr to : Nat) (PL : Nat → Bool) (SZ : Nat → Int) (PX : Nat → ByteArray) (A : Nat → Int) (hA : ∀ i, A i = amtOf name (PL i) (SZ i) (PX i)) (w : World)
    (hP : IsPats w a len PL SZ PX) (hs : name.size ≤ 1048576) (hl : len ≤ 1048576) (h1 : fr ≤ to) (h2 : to ≤ len) (hX : ∀ i, i < len → (PX i).size ≤ maxLen) (hS : ∀ i, i < len → 0 ≤ SZ i) :
    Calls Try.prog 11 #[.string name, .slice a len cap, .int .i64 fr, .int .i64 to] w fun e w' => e = .returned (.int .i64 (Chg.sum (fun i => A (fr + i)) (to - fr))) ∧ Below w.heap.size w w' := by
  have e : Chg.sum (fun i => amtOf name (PL (fr + i)) (SZ (fr + i)) (PX (fr + i))) (to - fr) = Chg.sum (fun i => A (fr + i)) (to - fr) := Chg.sum_congr (fun i _ => by rw [hA])
  have := model_any name a len cap fr to PL SZ PX w hP hs hl h1 h2 hX hS
  rw [e] at this
  exact this

theorem model_0 (name : ByteArray) (a : Option Addr) (len cap to : Nat) (PL : Nat → Bool) (SZ : Nat → Int) (PX : Nat → ByteArray) (A : Nat → Int) (hA : ∀ i, A i = amtOf name (PL i) (SZ i) (PX i)) (w : World)
    (hP : IsPats w a len PL SZ PX) (hs : name.size ≤ 1048576) (hl : len ≤ 1048576) (h2 : to ≤ len) (hX : ∀ i, i < len → (PX i).size ≤ maxLen) (hS : ∀ i, i < len → 0 ≤ SZ i) :
    Calls Try.prog 11 #[.string name, .slice a len cap, .int .i64 0, .int .i64 to] w fun e w' => e = .returned (.int .i64 (Chg.sum A to)) ∧ Below w.heap.size w w' := by
  have e : Chg.sum (fun i => A (0 + i)) (to - 0) = Chg.sum A to := Chg.sum_congr (fun i _ => by rw [Nat.zero_add])
  have := model_A name a len cap 0 to PL SZ PX A hA w hP hs hl (Nat.zero_le _) h2 hX hS
  rw [e] at this
  exact this

set_option maxRecDepth 100000 in
set_option maxHeartbeats 4000000 in
theorem split_any (name : ByteArray) (work : Int) (a : Option Addr) (len cap : Nat) (cut : Int) (PL : Nat → Bool) (SZ : Nat → Int) (PX : Nat → ByteArray) (w : World)
    (hP : IsPats w a len PL SZ PX) (hs : name.size ≤ maxLen) (hl : len ≤ maxLen) (hX : ∀ i, i < len → (PX i).size ≤ maxLen) :
    Calls Try.prog 6 #[.string name, .int .i64 work, .slice a len cap, .int .i64 cut] w fun e w' => e = .returned (.bool true) ∧ Below w.heap.size w w' := by
  have HX : Hid (∀ i, i < len → (PX i).size ≤ maxLen) := hX
  have HP : Hid (IsPats w a len PL SZ PX) := hP
  go_enter Try.func6, Try.ntmps6
  go_wp2_with fail
  refine (bytesCut name work cut a len cap PL SZ PX _ hP hs hl hX).mono ?_
  rintro e w' ⟨rfl, rfl | ⟨rfl, hn, hlen, hX1⟩⟩
  · go_wp2
    go_ret
    exact ⟨rfl, Below.refl _ _⟩
  have HX1 : Hid (∀ i, i < len → (PX i).size ≤ 1048576) := hX1
  clear hs hl hX hP hX1
  go_wp2
  go_loop [9, 10] (fun t i => ∃ (k : Nat) (T : Int), k ≤ len ∧ i = .int .i64 k ∧ t = .int .i64 T ∧ 0 ≤ T ∧ T ≤ 1048576) (fun _ i => len - (intOf i).toNat)
  case atStart => exact ⟨0, _, Nat.zero_le _, rfl, rfl, by omega, by omega⟩
  case round =>
    obtain ⟨k, T, hk, rfl, rfl, t0, t1⟩ := hrel
    by_cases hlt : k < len
    · obtain ⟨b, off, rfl, c0, c1, c2⟩ := HP.out k hlt
      have hx := HX1.out k hlt
      clear HP HX HX1
      generalize PX k = px at *
      by_cases g5 : 1048576 < T + (40 + px.size)
      · go_wp2
        go_ret
        exact ⟨rfl, Below.refl _ _⟩
      · go_wp2
        go_round
        case rel => exact ⟨k + 1, _, by omega, by go_num, rfl, by omega, by omega⟩
        case measure => simp [intOf]; omega
    · by_cases g1 : 0 ≤ work ∧ work ≤ 20000000
      · obtain ⟨g1, g1'⟩ := g1
        by_cases g2 : 0 ≤ cut ∧ cut ≤ len
        · obtain ⟨g2, g2'⟩ := g2
          obtain ⟨c, rfl⟩ : ∃ c : Nat, cut = c := ⟨cut.toNat, by omega⟩
          go_wp2
          clear t0 t1
          go_loop [11] (fun i => ∃ k : Nat, k ≤ len ∧ i = .int .i64 k ∧ Hid (∀ j, j < k → 0 ≤ SZ j)) (fun i => len - (intOf i).toNat)
          case atStart => exact ⟨0, Nat.zero_le _, rfl, fun j hj => by omega⟩
          case round =>
            clear hk hlt
            obtain ⟨k2, hk, rfl, HJ⟩ := hrel
            by_cases hlt : k2 < len
            · obtain ⟨b, off, rfl, c0, c1, c2⟩ := HP.out k2 hlt
              clear HP HX HX1
              by_cases hz : SZ k2 < 0
              · go_wp2
                go_ret
                exact ⟨rfl, Below.refl _ _⟩
              · go_wp2
                go_round
                case rel => exact ⟨k2 + 1, by omega, by go_num, fun j hj => by
                  by_cases hjk : j < k2
                  · exact HJ.out j hjk
                  · obtain rfl : j = k2 := by omega
                    omega⟩
                case measure => simp [intOf]; omega
            · have HS : Hid (∀ i, i < len → 0 ≤ SZ i) := fun i hi => HJ.out i (by omega)
              clear HJ
              have HOk : Hid (Chg.Ok (fun i => amtOf name (PL i) (SZ i) (PX i)) len) := fun i hi => Chg.amt_ok _ _ _ _ (HS.out _ hi) (by omega)
              generalize HA : (fun i => amtOf name (PL i) (SZ i) (PX i)) = A at HOk
              have HA' : Hid (∀ i, A i = amtOf name (PL i) (SZ i) (PX i)) := fun i => by rw [← HA]
              clear HA
              go_wp2_with fail
              refine (newPlain_any name work _).mono ?_
              rintro e w1 ⟨cb1, rfl, e1, V1, B1⟩
              go_wp2_with fail
              refine (newPlain_any name work _).mono ?_
              rintro e w2 ⟨cb2, rfl, e2, V2, B2⟩
              go_wp2_with fail
              refine (newPlain_any name 0 _).mono ?_
              rintro e w3 ⟨cb3, rfl, e3, V3, B3⟩
              go_wp2
              clear hk hlt
              have L2 : w'.heap.size ≤ cb2 := Nat.le_trans B1.size e2
              have L3 : w'.heap.size ≤ cb3 := Nat.le_trans B1.size (Nat.le_trans B2.size e3)
              have n12 : cb1 ≠ cb2 := Nat.ne_of_lt (Nat.lt_of_lt_of_le V1.lt e2)
              have n23 : cb2 ≠ cb3 := Nat.ne_of_lt (Nat.lt_of_lt_of_le V2.lt e3)
              have n13 : cb1 ≠ cb3 := Nat.ne_of_lt (Nat.lt_of_lt_of_le V1.lt (Nat.le_trans B2.size e3))
              have D1 := (V1.below B2).below B3
              have D2 := V2.below B3
              have P3 : Hid (IsPats w3 a len PL SZ PX) := ((HP.out.below B1).below B2).below B3
              have BB : Below w'.heap.size w' w3 := (B1.trans (B2.mono B1.size)).trans (B3.mono (Nat.le_trans B1.size B2.size))
              clear B1 B2 B3 V1 V2 e2 e3
              go_loopw [15] (fun i wr => ∃ k : Nat, k ≤ len ∧ i = .int .i64 k ∧ Cov wr cb1 name none (Chg.run A work k) ∧ Beside cb1 w3 wr) (fun i _ => len - (intOf i).toNat)
              case atStart => exact ⟨0, Nat.zero_le _, rfl, D1, Beside.refl _ _⟩
              case round =>
                obtain ⟨k3, hk, rfl, hcov, hb⟩ := hrel
                by_cases hlt : k3 < len
                · have HPr : Hid (IsPats wr a len PL SZ PX) := P3.out.beside HP.out e1 BB.size hb
                  obtain ⟨b, off, rfl, c0, c1, c2⟩ := HPr.out k3 hlt
                  go_wp2_with fail
                  refine (one_any cb1 name (PX k3) none (PL k3) (Chg.run A work k3) (SZ k3) _ hcov hn (HX.out k3 hlt) (HS.out k3 hlt) (Chg.run_bd (HOk.out.less hk) g1 g1').1).mono ?_
                  rintro e w4 ⟨rfl, hcov', hb'⟩
                  go_wp2
                  go_roundw
                  case rel => exact ⟨k3 + 1, by omega, by go_num, by rw [run_next, HA'.out]; exact hcov', hb.trans hb'⟩
                  case measure => simp [intOf]; omega
                · obtain rfl : len = k3 := by omega
                  obtain ⟨w4, rfl⟩ : ∃ wo : World, wo = wr := ⟨_, rfl⟩
                  go_wp2
                  have E1 := hcov
                  have E2 := D2.beside hb n12.symm
                  have E3 := V3.beside hb n13.symm
                  have P4 : Hid (IsPats w4 a len PL SZ PX) := P3.out.beside HP.out e1 BB.size hb
                  have BB4 : Below w'.heap.size w' w4 := BB.trans (hb.below e1 BB.size)
                  clear hb hcov D1 D2 V3 P3 BB hk hlt
                  go_loopw [16] (fun i wr => ∃ k : Nat, k ≤ c ∧ i = .int .i64 k ∧ Cov wr cb2 name none (Chg.run A work k) ∧ Beside cb2 w4 wr) (fun i _ => c - (intOf i).toNat)
                  case atStart => exact ⟨0, Nat.zero_le _, rfl, E2, Beside.refl _ _⟩
                  case round =>
                    obtain ⟨k4, hk, rfl, hcov, hb⟩ := hrel
                    by_cases hlt : k4 < c
                    · have hlt2 : k4 < len := by omega
                      have HPr : Hid (IsPats wr a len PL SZ PX) := P4.out.beside HP.out L2 BB4.size hb
                      obtain ⟨b, off, rfl, c0, c1, c2⟩ := HPr.out k4 hlt2
                      go_wp2_with fail
                      refine (one_any cb2 name (PX k4) none (PL k4) (Chg.run A work k4) (SZ k4) _ hcov hn (HX.out k4 hlt2) (HS.out k4 hlt2) (Chg.run_bd (HOk.out.less (Nat.le_of_lt hlt2)) g1 g1').1).mono ?_
                      rintro e w5 ⟨rfl, hcov', hb'⟩
                      go_wp2
                      go_roundw
                      case rel => exact ⟨k4 + 1, by omega, by go_num, by rw [run_next, HA'.out]; exact hcov', hb.trans hb'⟩
                      case measure => simp [intOf]; omega
                    · obtain rfl : c = k4 := by omega
                      obtain ⟨w5, rfl⟩ : ∃ wo : World, wo = wr := ⟨_, rfl⟩
                      go_wp2
                      have F1 := E1.beside hb n12
                      have F2 := hcov
                      have F3 := E3.beside hb n23.symm
                      have P5 : Hid (IsPats w5 a len PL SZ PX) := P4.out.beside HP.out L2 BB4.size hb
                      have BB5 : Below w'.heap.size w' w5 := BB4.trans (hb.below L2 BB4.size)
                      clear hb hcov E1 E2 E3 P4 BB4 hk hlt
                      have HOkT : Hid (Chg.Ok (fun i => A (c + i)) (len - c)) := fun i hi => HOk.out (c + i) (by omega)
                      go_loopw [17] (fun i wr => ∃ k : Nat, k ≤ len - c ∧ i = .int .i64 ((c + k : Nat) : Int) ∧ Cov wr cb3 name none (Chg.run (fun i => A (c + i)) 0 k) ∧ Beside cb3 w5 wr) (fun i _ => len - (intOf i).toNat)
                      case atStart => exact ⟨0, Nat.zero_le _, rfl, F3, Beside.refl _ _⟩
                      case round =>
                        obtain ⟨k5, hk, rfl, hcov, hb⟩ := hrel
                        by_cases hlt : k5 < len - c
                        · have hlt2 : c + k5 < len := by omega
                          have HPr : Hid (IsPats wr a len PL SZ PX) := P5.out.beside HP.out L3 BB5.size hb
                          obtain ⟨b, off, rfl, c0, c1, c2⟩ := HPr.out (c + k5) hlt2
                          go_wp2_with fail
                          refine (one_any cb3 name (PX (c + k5)) none (PL (c + k5)) (Chg.run (fun i => A (c + i)) 0 k5) (SZ (c + k5)) _ hcov hn (HX.out _ hlt2) (HS.out _ hlt2) (Chg.run_bd (HOkT.out.less hk) (by omega) (by omega)).1).mono ?_
                          rintro e w6 ⟨rfl, hcov', hb'⟩
                          go_wp2
                          go_roundw
                          case rel => exact ⟨k5 + 1, by omega, by go_num, by rw [run_next, HA'.out]; exact hcov', hb.trans hb'⟩
                          case measure => simp [intOf]; omega
                        · obtain rfl : k5 = len - c := by omega
                          obtain ⟨w6, rfl⟩ : ∃ wo : World, wo = wr := ⟨_, rfl⟩
                          have G1 := F1.beside hb n13
                          have G2 := F2.beside hb n23
                          have G3 := hcov
                          have P6 : Hid (IsPats w6 a len PL SZ PX) := P5.out.beside HP.out L3 BB5.size hb
                          have BB6 : Below w'.heap.size w' w6 := BB5.trans (hb.below L3 BB5.size)
                          have HsW := Chg.sum_split A c (len - c)
                          rw [Nat.add_sub_cancel' (by omega : c ≤ len)] at HsW
                          have RW := Chg.run_ruled (v := work) HOk.out
                          have RH := Chg.run_ruled (v := work) (HOk.out.less (show c ≤ len by omega))
                          have RT := Chg.run_ruled (v := 0) HOkT.out
                          have SH := Chg.sum_nonneg (HOk.out.less (show c ≤ len by omega))
                          have ST := Chg.sum_nonneg HOkT.out
                          have RBH := Chg.run_bd (v := work) (HOk.out.less (show c ≤ len by omega)) g1 g1'
                          have RBT := Chg.run_bd (v := 0) HOkT.out (by omega) (by omega)
                          rw [HsW] at RW
                          have CL := Chg.cut_law RH RT RW SH.1 ST.1 g1 g1'
                          clear HsW hb hcov F1 F2 F3 P5 BB5 hk RW
                          have hcl : c ≤ len := by omega
                          have K1 := CL.1
                          have K2 := CL.2.1
                          have K3 := CL.2.2
                          clear CL
                          have M1 := fun wx (hx : IsPats wx a len PL SZ PX) => model_0 name a len cap c PL SZ PX A HA'.out wx hx hn hlen hcl HX.out HS.out
                          have M2 := fun wx (hx : IsPats wx a len PL SZ PX) => model_A name a len cap c len PL SZ PX A HA'.out wx hx hn hlen hcl (Nat.le_refl _) HX.out HS.out
                          have HM1 := show Hid (∀ wx, IsPats wx a len PL SZ PX → _) from M1
                          have HM2 := show Hid (∀ wx, IsPats wx a len PL SZ PX → _) from M2
                          clear M1 M2
                          generalize Chg.run A work len = wW at *
                          generalize Chg.run A work c = wH at *
                          generalize Chg.run (fun i => A (c + i)) 0 (len - c) = wT at *
                          generalize Chg.sum A c = sH at *
                          generalize Chg.sum (fun i => A (c + i)) (len - c) = sT at *
                          have sH1 := SH.1
                          have sH2 : sH ≤ 100000000000000 := by omega
                          have sT1 := ST.1
                          have sT2 : sT ≤ 100000000000000 := by omega
                          have wH1 := RBH.1
                          have wH2 := RBH.2
                          have wT1 := RBT.1
                          have wT2 := RBT.2
                          clear SH ST RBH RBT
                          have HRH : Hid (Chg.ruled work sH wH) := RH
                          have HRT : Hid (Chg.ruled 0 sT wT) := RT
                          have HK : Hid ((10000000 < wW ↔ 10000000 < wH + wT) ∧ (10000000 < wW → wW ≤ 20000000) ∧ (¬ 10000000 < wW → wW = wH + wT)) := ⟨K1, K2, K3⟩
                          clear RH RT K1 K2 K3 HOk HOkT HA'
                          go_wp2_with fail
                          refine (covWork_any cb1 name none wW _ G1).mono ?_
                          rintro e wx ⟨rfl, rfl⟩
                          go_wp2_with fail
                          refine (covWork_any cb2 name none wH _ G2).mono ?_
                          rintro e wx ⟨rfl, rfl⟩
                          go_wp2_with fail
                          refine (covWork_any cb3 name none wT _ G3).mono ?_
                          rintro e wx ⟨rfl, rfl⟩
                          go_wp2_with fail
                          refine (HM1.out _ P6.out).mono ?_
                          rintro e w7 ⟨rfl, B7⟩
                          have P7 := P6.out.below B7
                          have BB7 := BB6.trans (B7.mono BB6.size)
                          replace G1 := G1.below B7
                          replace G2 := G2.below B7
                          replace G3 := G3.below B7
                          clear B7 BB6 P6 HM1
                          go_wp2_with fail
                          refine (HM2.out _ P7).mono ?_
                          rintro e w8 ⟨rfl, B8⟩
                          have BB8 := BB7.trans (B8.mono BB7.size)
                          replace G1 := G1.below B8
                          replace G2 := G2.below B8
                          replace G3 := G3.below B8
                          clear B8 BB7 P7 HM2 HP
                          go_wp2_with fail
                          refine (ruled_any work sH wH _ HRH.out g1 g1' sH1 sH2).mono ?_
                          rintro e wx ⟨rfl, rfl⟩
                          go_wp2_with fail
                          refine (ruled_any 0 sT wT _ HRT.out (by omega) (by omega) sT1 sT2).mono ?_
                          rintro e wx ⟨rfl, rfl⟩
                          have oH : overB wH = decide (10000000 < wH) := rfl
                          have oT : overB wT = decide (10000000 < wT) := rfl
                          go_wp2_with fail
                          refine (covOver_any cb2 name none wH _ G2).mono ?_
                          rintro e wx ⟨rfl, rfl⟩
                          go_wp2_with fail
                          refine (covOver_any cb3 name none wT _ G3).mono ?_
                          rintro e wx ⟨rfl, rfl⟩
                          have oW : overB wW = decide (10000000 < wH + wT) := decide_eq_decide.2 HK.out.1
                          by_cases ov : 10000000 < wH + wT
                          · have u1 := HK.out.1.2 ov
                            have u2 := HK.out.2.1 u1
                            go_wp2_with fail
                            refine (covOver_any cb1 name none wW _ G1).mono ?_
                            rintro e wx ⟨rfl, rfl⟩
                            go_wp2
                            go_ret
                            exact ⟨rfl, BB8⟩
                          · have u1 : wW = wH + wT := by have k1 := HK.out.1; have k2 := HK.out.2.2; omega
                            subst u1
                            go_wp2_with fail
                            refine (covOver_any cb1 name none (wH + wT) _ G1).mono ?_
                            rintro e wx ⟨rfl, rfl⟩
                            go_wp2
                            go_ret
                            exact ⟨retb (by simp), BB8⟩
        · by_cases g3 : cut < 0
          · go_wp2
            go_ret
            exact ⟨rfl, Below.refl _ _⟩
          · have g4 : (len : Int) < cut := by omega
            go_wp2
            go_ret
            exact ⟨rfl, Below.refl _ _⟩
      · by_cases g3 : work < 0
        · go_wp2
          go_ret
          exact ⟨rfl, Below.refl _ _⟩
        · have g4 : 20000000 < work := by omega
          go_wp2
          go_ret
          exact ⟨rfl, Below.refl _ _⟩
end Go.Proofs.Qxb6608906a
