import Derived.Test.Qxb6608906aSplit
namespace Go.Proofs.Qxb6608906a
open Go.RowKit
set_option linter.unusedVariables false

/-- The work behind n charges, of a plain coverage or of a pattern's. -/
def runP (pt : Option Addr) (A : Nat → Int) (v : Int) (n : Nat) : Int := match pt with
  | none => Chg.run A v n
  | some _ => v

theorem runP_zero (pt : Option Addr) (A : Nat → Int) (v : Int) : runP pt A v 0 = v := by cases pt <;> rfl
theorem runP_next (pt : Option Addr) (A : Nat → Int) (v : Int) (k : Nat) : runP pt A v (k + 1) = after pt (runP pt A v k) (A k) := by cases pt <;> rfl
theorem runP_bd {pt : Option Addr} {A : Nat → Int} {v : Int} {n : Nat} (h : Chg.Ok A n) (h0 : 0 ≤ v) (h1 : v ≤ 20000000) : 0 ≤ runP pt A v n := by
  cases pt
  · exact (Chg.run_bd h h0 h1).1
  · exact h0
theorem runP_back (pt : Option Addr) (A : Nat → Int) (v : Int) (len j : Nat) (h : j < len) :
    runP pt (fun i => A (len - 1 - i)) v (len - j) = after pt (runP pt (fun i => A (len - 1 - i)) v (len - (j + 1))) (A j) := by
  have e : len - j = len - (j + 1) + 1 := by omega
  rw [e, runP_next]
  have e2 : len - 1 - (len - (j + 1)) = j := by omega
  simp only [e2]
theorem back_ok {A : Nat → Int} {n : Nat} (h : Chg.Ok A n) : Chg.Ok (fun i => A (n - 1 - i)) n := fun i hi => h _ (by omega)

theorem ruled_0 (v : Int) : Chg.ruled v 0 v := ⟨fun _ => rfl, fun _ => ⟨fun _ => by omega, fun _ => by omega⟩⟩

set_option maxRecDepth 100000 in
set_option maxHeartbeats 4000000 in
theorem all_any (name : ByteArray) (isP : Bool) (work : Int) (a : Option Addr) (len cap : Nat) (PL : Nat → Bool) (SZ : Nat → Int) (PX : Nat → ByteArray) (w : World)
    (hP : IsPats w a len PL SZ PX) (hs : name.size ≤ maxLen) (hl : len ≤ maxLen) (hX : ∀ i, i < len → (PX i).size ≤ maxLen) :
    Calls Try.prog 5 #[.string name, .bool isP, .int .i64 work, .slice a len cap] w fun e w' => e = .returned (.bool true) ∧ Below w.heap.size w w' := by
  have HX : Hid (∀ i, i < len → (PX i).size ≤ maxLen) := hX
  have HP : Hid (IsPats w a len PL SZ PX) := hP
  go_enter Try.func5, Try.ntmps5
  go_wp2_with fail
  refine (bytesAll name isP work a len cap PL SZ PX _ hP hs hl hX).mono ?_
  rintro e w' ⟨rfl, rfl | ⟨rfl, hn, hlen, hX1⟩⟩
  · go_wp2
    go_ret
    exact ⟨rfl, Below.refl _ _⟩
  have HX1 : Hid (∀ i, i < len → (PX i).size ≤ 1048576) := hX1
  clear hs hl hX hP hX1
  go_wp2
  go_loop [9, 10] (fun t i => ∃ (k : Nat) (T : Int), k ≤ len ∧ i = .int .i64 k ∧ t = .int .i64 T ∧ 0 ≤ T ∧ T ≤ 1048576) (fun _ i => len - (intOf i).toNat)
  case atStart => exact ⟨0, _, Nat.zero_le _, rfl, rfl, by omega, by omega⟩
  case round =>
    obtain ⟨k, T, hk, rfl, rfl, t0, t1⟩ := hrel
    by_cases hlt : k < len
    · obtain ⟨b, off, rfl, c0, c1, c2⟩ := HP.out k hlt
      have hx := HX1.out k hlt
      clear HP HX HX1
      generalize PX k = px at *
      by_cases g5 : 1048576 < T + (40 + px.size)
      · go_wp2
        go_ret
        exact ⟨rfl, Below.refl _ _⟩
      · go_wp2
        go_round
        case rel => exact ⟨k + 1, _, by omega, by go_num, rfl, by omega, by omega⟩
        case measure => simp [intOf]; omega
    · by_cases g1 : 0 ≤ work ∧ work ≤ 20000000
      · obtain ⟨g1, g1'⟩ := g1
        go_wp2
        clear t0 t1
        go_loop [11] (fun i => ∃ k : Nat, k ≤ len ∧ i = .int .i64 k ∧ Hid (∀ j, j < k → 0 ≤ SZ j)) (fun i => len - (intOf i).toNat)
        case atStart => exact ⟨0, Nat.zero_le _, rfl, fun j hj => by omega⟩
        case round =>
          clear hk hlt
          obtain ⟨k2, hk, rfl, HJ⟩ := hrel
          by_cases hlt : k2 < len
          · obtain ⟨b, off, rfl, c0, c1, c2⟩ := HP.out k2 hlt
            clear HP HX HX1
            by_cases hz : SZ k2 < 0
            · go_wp2
              go_ret
              exact ⟨rfl, Below.refl _ _⟩
            · go_wp2
              go_round
              case rel => exact ⟨k2 + 1, by omega, by go_num, fun j hj => by
                by_cases hjk : j < k2
                · exact HJ.out j hjk
                · obtain rfl : j = k2 := by omega
                  omega⟩
              case measure => simp [intOf]; omega
          · have HS : Hid (∀ i, i < len → 0 ≤ SZ i) := fun i hi => HJ.out i (by omega)
            clear HJ
            have HOk : Hid (Chg.Ok (fun i => amtOf name (PL i) (SZ i) (PX i)) len) := fun i hi => Chg.amt_ok _ _ _ _ (HS.out _ hi) (by omega)
            generalize HA : (fun i => amtOf name (PL i) (SZ i) (PX i)) = A at HOk
            have HA' : Hid (∀ i, A i = amtOf name (PL i) (SZ i) (PX i)) := fun i => by rw [← HA]
            clear HA
            go_wp2_with fail
            refine (newAny_any name isP work _).mono ?_
            rintro e w1 ⟨cb1, pt1, rfl, q1, e1, V1, B1⟩
            have Q1 : Hid (pt1 = none ↔ isP = false) := q1
            clear q1
            go_wp2_with fail
            refine (newAny_any name isP work _).mono ?_
            rintro e w2 ⟨cb2, pt2, rfl, q2, e2, V2, B2⟩
            have Q2 : Hid (pt2 = none ↔ isP = false) := q2
            clear q2
            go_wp2
            clear hk hlt
            have L2 : w'.heap.size ≤ cb2 := Nat.le_trans B1.size e2
            have n12 : cb1 ≠ cb2 := Nat.ne_of_lt (Nat.lt_of_lt_of_le V1.lt e2)
            have D1 := V1.below B2
            have P2 : Hid (IsPats w2 a len PL SZ PX) := (HP.out.below B1).below B2
            have BB : Below w'.heap.size w' w2 := B1.trans (B2.mono B1.size)
            clear B1 B2 V1 e2
            go_loopw [14] (fun i wr => ∃ k : Nat, k ≤ len ∧ i = .int .i64 k ∧ Cov wr cb1 name pt1 (runP pt1 A work k) ∧ Beside cb1 w2 wr) (fun i _ => len - (intOf i).toNat)
            case atStart => exact ⟨0, Nat.zero_le _, rfl, by rw [runP_zero]; exact D1, Beside.refl _ _⟩
            case round =>
              obtain ⟨k3, hk, rfl, hcov, hb⟩ := hrel
              by_cases hlt : k3 < len
              · have HPr : Hid (IsPats wr a len PL SZ PX) := P2.out.beside HP.out e1 BB.size hb
                obtain ⟨b, off, rfl, c0, c1, c2⟩ := HPr.out k3 hlt
                go_wp2_with fail
                refine (one_any cb1 name (PX k3) pt1 (PL k3) (runP pt1 A work k3) (SZ k3) _ hcov hn (HX.out k3 hlt) (HS.out k3 hlt) (runP_bd (HOk.out.less hk) g1 g1')).mono ?_
                rintro e w4 ⟨rfl, hcov', hb'⟩
                go_wp2
                go_roundw
                case rel => exact ⟨k3 + 1, by omega, by go_num, by rw [runP_next, HA'.out]; exact hcov', hb.trans hb'⟩
                case measure => simp [intOf]; omega
              · obtain rfl : len = k3 := by omega
                obtain ⟨w4, rfl⟩ : ∃ wo : World, wo = wr := ⟨_, rfl⟩
                go_wp2
                have E1 := hcov
                have E2 := V2.beside hb n12.symm
                have P4 : Hid (IsPats w4 a len PL SZ PX) := P2.out.beside HP.out e1 BB.size hb
                have BB4 : Below w'.heap.size w' w4 := BB.trans (hb.below e1 BB.size)
                clear hb hcov D1 V2 P2 BB hk hlt
                go_loopw [15] (fun i wr => ∃ j : Nat, j ≤ len ∧ i = .int .i64 ((j : Int) - 1) ∧ Cov wr cb2 name pt2 (runP pt2 (fun i => A (len - 1 - i)) work (len - j)) ∧ Beside cb2 w4 wr) (fun i _ => (intOf i + 1).toNat)
                case atStart => exact ⟨len, Nat.le_refl _, rfl, by rw [Nat.sub_self, runP_zero]; exact E2, Beside.refl _ _⟩
                case round =>
                  obtain ⟨j, hj, hi, hcov, hb⟩ := hrel
                  cases j with
                  | succ j =>
                    rw [show (((j + 1 : Nat) : Int) - 1) = (j : Int) by omega] at hi
                    subst hi
                    have hlt : j < len := by omega
                    have HPr : Hid (IsPats wr a len PL SZ PX) := P4.out.beside HP.out L2 BB4.size hb
                    obtain ⟨b, off, rfl, c0, c1, c2⟩ := HPr.out j hlt
                    go_wp2_with fail
                    refine (one_any cb2 name (PX j) pt2 (PL j) (runP pt2 (fun i => A (len - 1 - i)) work (len - (j + 1))) (SZ j) _ hcov hn (HX.out j hlt) (HS.out j hlt) (runP_bd ((back_ok HOk.out).less (Nat.sub_le _ _)) g1 g1')).mono ?_
                    rintro e w5 ⟨rfl, hcov', hb'⟩
                    go_wp2
                    go_roundw
                    case rel => exact ⟨j, by omega, by go_num, by rw [runP_back _ _ _ _ _ hlt, HA'.out]; exact hcov', hb.trans hb'⟩
                    case measure => simp [intOf]
                  | zero =>
                    rw [show (((0 : Nat) : Int) - 1) = -1 from rfl] at hi
                    subst hi
                    obtain ⟨w5, rfl⟩ : ∃ wo : World, wo = wr := ⟨_, rfl⟩
                    have F1 := E1.beside hb n12
                    have F2 := hcov
                    rw [Nat.sub_zero] at F2
                    have P5 : Hid (IsPats w5 a len PL SZ PX) := P4.out.beside HP.out L2 BB4.size hb
                    have BB5 : Below w'.heap.size w' w5 := BB4.trans (hb.below L2 BB4.size)
                    clear hb hcov E1 E2 P4 BB4 hj
                    cases isP with
                    | false =>
                      obtain rfl := Q1.out.2 rfl
                      obtain rfl := Q2.out.2 rfl
                      have RF := Chg.run_ruled (v := work) HOk.out
                      have RB := Chg.run_ruled (v := work) (back_ok HOk.out)
                      rw [Chg.sum_back] at RB
                      have S0 := Chg.sum_nonneg HOk.out
                      have M1 := model_0 name a len cap len PL SZ PX A HA'.out w5 P5.out hn hlen (Nat.le_refl _) HX.out HS.out
                      have O1 := Chg.over_law RF S0.1
                      have O2 := Chg.over_law RB S0.1
                      simp only [runP] at F1 F2
                      generalize Chg.run A work len = wf at *
                      generalize Chg.run (fun i => A (len - 1 - i)) work len = wb at *
                      generalize Chg.sum A len = s at *
                      have s1 := S0.1
                      have s2 : s ≤ 100000000000000 := by omega
                      have HM : Hid (Calls Try.prog 11 #[.string name, .slice a len cap, .int .i64 0, .int .i64 len] w5 fun e w' => e = .returned (.int .i64 s) ∧ Below w5.heap.size w5 w') := M1
                      have HF : Hid (Chg.ruled work s wf) := RF
                      have HB : Hid (Chg.ruled work s wb) := RB
                      have o1 : overB wf = decide (10000000 < work + s) := decide_eq_decide.2 O1
                      have o2 : overB wb = decide (10000000 < work + s) := decide_eq_decide.2 O2
                      clear M1 S0 RF RB O1 O2 HA' HOk HS HX HX1 HP P5 Q1 Q2
                      go_wp2_with fail
                      refine HM.out.mono ?_
                      rintro e w6 ⟨rfl, B6⟩
                      have BB6 := BB5.trans (B6.mono BB5.size)
                      replace F1 := F1.below B6
                      replace F2 := F2.below B6
                      clear B6 BB5 HM
                      go_wp2_with fail
                      refine (covWork_any cb1 name none wf _ F1).mono ?_
                      rintro e wx ⟨rfl, rfl⟩
                      go_wp2_with fail
                      refine (covWork_any cb2 name none wb _ F2).mono ?_
                      rintro e wx ⟨rfl, rfl⟩
                      go_wp2_with fail
                      refine (covOver_any cb1 name none wf _ F1).mono ?_
                      rintro e wx ⟨rfl, rfl⟩
                      go_wp2_with fail
                      refine (covOver_any cb2 name none wb _ F2).mono ?_
                      rintro e wx ⟨rfl, rfl⟩
                      go_wp2_with fail
                      refine (ruled_any work s wf _ HF.out g1 g1' s1 s2).mono ?_
                      rintro e wx ⟨rfl, rfl⟩
                      go_wp2_with fail
                      refine (ruled_any work s wb _ HB.out g1 g1' s1 s2).mono ?_
                      rintro e wx ⟨rfl, rfl⟩
                      go_wp2
                      go_ret
                      exact ⟨rfl, BB6⟩
                    | true =>
                      obtain ⟨x1, rfl⟩ : ∃ x, pt1 = some x := by
                        cases pt1 with
                        | none => exact absurd (Q1.out.1 rfl) (by simp)
                        | some x => exact ⟨x, rfl⟩
                      obtain ⟨x2, rfl⟩ : ∃ x, pt2 = some x := by
                        cases pt2 with
                        | none => exact absurd (Q2.out.1 rfl) (by simp)
                        | some x => exact ⟨x, rfl⟩
                      simp only [runP] at F1 F2
                      have HF : Hid (Chg.ruled work 0 work) := ruled_0 work
                      have o1 : overB work = decide (10000000 < work) := rfl
                      clear HA' HOk HS HX HX1 HP P5 Q1 Q2
                      go_wp2_with fail
                      refine (covWork_any cb1 name _ work _ F1).mono ?_
                      rintro e wx ⟨rfl, rfl⟩
                      go_wp2_with fail
                      refine (covWork_any cb2 name _ work _ F2).mono ?_
                      rintro e wx ⟨rfl, rfl⟩
                      go_wp2_with fail
                      refine (covOver_any cb1 name _ work _ F1).mono ?_
                      rintro e wx ⟨rfl, rfl⟩
                      go_wp2_with fail
                      refine (covOver_any cb2 name _ work _ F2).mono ?_
                      rintro e wx ⟨rfl, rfl⟩
                      go_wp2_with fail
                      refine (ruled_any work 0 work _ HF.out g1 g1' (by omega) (by omega)).mono ?_
                      rintro e wx ⟨rfl, rfl⟩
                      go_wp2_with fail
                      refine (ruled_any work 0 work _ HF.out g1 g1' (by omega) (by omega)).mono ?_
                      rintro e wx ⟨rfl, rfl⟩
                      go_wp2
                      go_ret
                      exact ⟨rfl, BB5⟩
      · by_cases g3 : work < 0
        · go_wp2
          go_ret
          exact ⟨rfl, Below.refl _ _⟩
        · have g4 : 20000000 < work := by omega
          go_wp2
          go_ret
          exact ⟨rfl, Below.refl _ _⟩
end Go.Proofs.Qxb6608906a
