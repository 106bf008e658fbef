import Derived.Test.Qxb6605686aDoorFlat
namespace Go.Proofs.Qxb6605686aDoor
open Go.RowKit
set_option linter.unusedVariables false

set_option maxRecDepth 100000 in
set_option maxHeartbeats 4000000 in
theorem keeps_any (a : Option Addr) (len cap : Nat) (A : Nat → Option Addr) (L C : Nat → Nat) (Z : Nat → Nat → Int) (w : World) (hP : IsChunks w a len A L C Z) (hl : len ≤ maxLen) (hL : ∀ i, i < len → L i ≤ maxLen) (hN : ∀ i, i < len → A i = none → L i = 0) (hnil : a = none → len = 0) :
    Calls Tryd.prog 3 #[.slice a len cap] w fun e w' => e = .returned (.bool true) ∧ Below w.heap.size w w' := by
  have HP : Hid (IsChunks w a len A L C Z) := hP
  have HN : Hid (∀ i, i < len → A i = none → L i = 0) := hN
  have HNil : Hid (a = none → len = 0) := hnil
  clear hN hnil
  go_enter Tryd.func3, Tryd.ntmps3
  go_wp2_with fail
  refine (bytesKeeps_any a len cap A L C Z _ hP hl hL).mono ?_
  rintro e w' ⟨rfl, rfl | ⟨rfl, hlen, hL1⟩⟩
  · go_wp2
    go_ret
    exact ⟨rfl, Below.refl _ _⟩
  have HL : Hid (∀ i, i < len → L i ≤ 1048576) := hL1
  clear hP hl hL hL1
  by_cases g1 : 65536 < len
  · go_wp2
    go_ret
    exact ⟨rfl, Below.refl _ _⟩
  by_cases g2 : 1048576 < 24 * len
  · go_wp2
    go_ret
    exact ⟨rfl, Below.refl _ _⟩
  go_wp2
  go_loop [3, 4] (fun t i => ∃ (k : Nat) (T : Int), k ≤ len ∧ i = .int .i64 k ∧ t = .int .i64 T ∧ 0 ≤ T ∧ T ≤ 1048576) (fun _ i => len - (intOf i).toNat)
  case atStart => exact ⟨0, _, Nat.zero_le _, rfl, rfl, by omega, by omega⟩
  case round =>
    obtain ⟨k, T, hk, rfl, rfl, t0, t1⟩ := hrel
    by_cases hlt : k < len
    · obtain ⟨b, off, rfl, c0, _⟩ := chunk_at HP.out hlt
      have hx := HL.out k hlt
      clear HP HL HN HNil
      generalize L k = px at *
      by_cases g5 : 1048576 < T + px
      · go_wp2
        go_ret
        exact ⟨rfl, Below.refl _ _⟩
      · go_wp2
        go_round
        case rel => exact ⟨k + 1, _, by omega, by go_num, rfl, by omega, by omega⟩
        case measure => simp [intOf]; omega
    · have hmk := make0
      go_wp2_with fail
      refine (chunks_any a len cap A L C Z _ HP.out hlen HL.out HN.out HNil.out).mono ?_
      rintro e w1 ⟨a', c', A', C', rfl, hP1, hQ1, B1⟩
      have HP1 : Hid (IsChunks w1 a' len A' L C' Z) := hP1
      have HQ1 : Hid (∀ i, i < len → (∀ x, A' i = some x → x.block < w1.heap.size) ∧ (A' i = none → L i = 0 ∧ C' i = 0) ∧ L i ≤ C' i) := hQ1
      clear hP1 hQ1 HP HN HNil hk hlt t0 t1
      go_wp2
      clear hmk
      go_loopw [5, 6] (fun v i wr => ∃ k : Nat, k ≤ len ∧ i = .int .i64 k ∧ Own w1.heap.size wr v (cap4 (flat L Z k)) ∧ Below w1.heap.size w1 wr) (fun _ i _ => len - (intOf i).toNat)
      case atStart => exact ⟨0, Nat.zero_le _, rfl, own_new w1, (Below.refl _ _).alloc (Nat.le_refl _) _⟩
      case round =>
        obtain ⟨k6, hk, rfl, ⟨g, n, c, rfl, hown⟩, hb⟩ := hrel
        have HO : Hid (wr.ownsRow w1.heap.size 5 1 (.slice (some ⟨g, 0, none⟩) n c) n (cap4 (flat L Z k6))) := hown
        clear hown
        by_cases hlt : k6 < len
        · obtain ⟨b, off, rfl, c0, -⟩ := chunk_at (HP1.out.below hb) hlt
          have hz1 : IsBytes w1 (A' k6) (L k6) (Z k6) := by obtain ⟨_, _, _, _, h⟩ := chunk_at HP1.out hlt; exact h
          have hlk := HL.out k6 hlt
          have HF : Hid (flat L Z (k6 + 1) = flat L Z k6 ++ cells (L k6) (Z k6)) := rfl
          generalize A' k6 = ak at c0 hz1
          generalize C' k6 = ck at c0
          generalize L k6 = lk at c0 hz1 hlk HF
          generalize Z k6 = zk at hz1 HF
          have HZ1 : Hid (IsBytes w1 ak lk zk) := hz1
          clear hz1
          obtain ⟨wo, rfl⟩ : ∃ wo : World, wo = wr := ⟨_, rfl⟩
          go_wp2
          go_loopw [5, 8] (fun v j wr => ∃ m : Nat, m ≤ lk ∧ j = .int .i64 m ∧ Own w1.heap.size wr v (cap4 (flat L Z k6 ++ cells m zk)) ∧ Below w1.heap.size w1 wr) (fun _ j _ => lk - (intOf j).toNat)
          case atStart => exact ⟨0, Nat.zero_le _, rfl, by rw [cells_zero, List.append_nil]; exact ⟨g, n, c, rfl, HO.out⟩, hb⟩
          case round =>
            clear HO hb c0
            obtain ⟨m, hm, rfl, ⟨g2, n2, c2, rfl, hown⟩, hb⟩ := hrel
            have HO : Hid (wr.ownsRow w1.heap.size 5 1 (.slice (some ⟨g2, 0, none⟩) n2 c2) n2 (cap4 (flat L Z k6 ++ cells m zk))) := hown
            have hn2 : n2 ≤ 4096 := by have := own_len hown; have := cap4_length (flat L Z k6 ++ cells m zk); omega
            clear hown
            by_cases hlt2 : m < lk
            · obtain ⟨b3, off3, rfl, d0⟩ := HZ1.out.below hb m hlt2
              by_cases h4 : n2 < 4096
              · obtain ⟨i0, hi, hz0, hz1, hz2⟩ := info_parts info5
                have HI : Hid (Tryd.prog.info? 5 = some i0) := hi
                clear hi
                go_wp2_with (at_builtin; refine wpList_append_own _ rfl _ _ 24 rfl w1.heap.size 5 i0 (.int .u8 0) 1 1 Tryd.underlying24 HI.out hz0 hz1 hz2 rfl (by decide) _ _ _ rfl (HO.out.alloc _) ⟨wr.heap.size, 0, none⟩ 1 1 [.int .u8 (zk m)] rfl rfl ?c1 ?c2 ?c3 ?c4 ?c5 ?_)
                case c1 =>
                  intro j u hj
                  match j, hj with
                  | 0, hj => simp at hj; subst hj; simp [Addr.add]
                case c2 => intro u hu; simp at hu; subst hu; rfl
                case c3 => unfold maxLen; omega
                case c4 => omega
                case c5 => have := hb.size; simp; omega
                intro v' w3 hown' hgrow hne
                have R := own_step HO.out hb (Nat.le_refl _) hown' hgrow
                rw [← cap4_snoc_lt _ _ (by rw [own_len HO.out]; exact h4), List.append_assoc, ← cells_succ] at R
                have HR : Hid (Own w1.heap.size w3 v' (cap4 (flat L Z k6 ++ cells (m + 1) zk)) ∧ Below w1.heap.size w1 w3) := R
                clear R hown' hgrow hne HO hb d0 HI hz0 hz1 hz2
                go_wp2
                go_roundw
                case rel => exact ⟨m + 1, by omega, by go_num, HR.out.1, HR.out.2⟩
                case measure => simp [intOf]; omega
              · go_wp2
                go_roundw
                case rel => exact ⟨m + 1, by omega, by go_num, by rw [cells_succ, ← List.append_assoc, cap4_snoc_ge _ _ (by rw [own_len HO.out]; exact h4)]; exact ⟨g2, n2, c2, rfl, HO.out⟩, hb⟩
                case measure => simp [intOf]; omega
            · obtain rfl : lk = m := by omega
              go_wp2
              go_roundw
              case rel => exact ⟨k6 + 1, by omega, by go_num, by rw [HF.out]; exact ⟨g2, n2, c2, rfl, HO.out⟩, hb⟩
              case measure => simp [intOf]; omega
        · obtain rfl : len = k6 := by omega
          obtain ⟨w2, rfl⟩ : ∃ wo : World, wo = wr := ⟨_, rfl⟩
          have hP2 : Hid (IsChunks w2 a' len A' L C' Z) := HP1.out.below hb
          have hQ2 : Hid (∀ i, i < len → (∀ x, A' i = some x → x.block < w2.heap.size) ∧ (A' i = none → L i = 0 ∧ C' i = 0) ∧ L i ≤ C' i) := fun i hi => ⟨fun x e => Nat.lt_of_lt_of_le ((HQ1.out i hi).1 x e) hb.size, (HQ1.out i hi).2⟩
          have BB2 : Below w'.heap.size w' w2 := B1.trans (hb.mono B1.size)
          have HW : Hid (Reads w2 (some ⟨g, 0, none⟩) (cap4 (flat L Z len))) := own_reads HO.out
          have HLn : Hid ((cap4 (flat L Z len)).length = n) := own_len HO.out
          have hn4 : n ≤ 4096 := by have := HLn.out; have := cap4_length (flat L Z len); omega
          clear HP1 HQ1 hb B1 HO hk
          go_wp2_with fail
          refine (new_any _).mono ?_
          rintro e w3 ⟨p, rfl, hp, V3, B3⟩
          have HPp : Hid (p = w2.heap.size) := hp
          have B3' : Below p w2 w3 := by rw [hp]; exact B3
          clear hp B3 hlt
          go_wp2
          go_loopw [10] (fun i wr => ∃ k : Nat, k ≤ len ∧ i = .int .i64 k ∧ Buf p (cap4 (flat L Z k)) wr ∧ Below p w2 wr) (fun i _ => len - (intOf i).toNat)
          case atStart => exact ⟨0, Nat.zero_le _, rfl, V3, B3'⟩
          case round =>
            clear V3 B3'
            obtain ⟨k9, hk, rfl, hbuf, hb⟩ := hrel
            have hb2 : Below w2.heap.size w2 wr := by rw [← HPp.out]; exact hb
            by_cases hlt : k9 < len
            · obtain ⟨b, off, rfl, c0, hz⟩ := chunk_at (hP2.out.below hb2) hlt
              have HZ : Hid (IsBytes wr (A' k9) (L k9) (Z k9)) := hz
              clear hz
              go_wp2_with fail
              refine (zzWrite_n p (L k9) (C' k9) (cap4 (flat L Z k9)) (Z k9) (A' k9) _ hbuf ((allU8_flat L Z k9).cap4) HZ.out (fun x e => by rw [HPp.out]; exact (hQ2.out k9 hlt).1 x e) (hQ2.out k9 hlt).2.1 (cap4_length _) (HL.out k9 hlt) (hQ2.out k9 hlt).2.2).mono ?_
              rintro e w4 ⟨rfl, hbuf', hb'⟩
              rw [cap4_cap4] at hbuf'
              have HB' : Hid (Buf p (cap4 (flat L Z (k9 + 1))) w4) := hbuf'
              have hb4 : Below p w2 w4 := hb.trans hb'
              have c0' : w4.cell? ⟨b, off + k9, none⟩ = some (.slice (A' k9) (L k9) (C' k9)) := by
                have hlt' : b < w2.heap.size := by
                  obtain ⟨b2, off2, e2, h2, _⟩ := chunk_at hP2.out hlt
                  have := lt_cell h2
                  simp at e2
                  omega
                rw [hb4.cell (p := ⟨b, off + k9, none⟩) (by rw [HPp.out]; exact hlt'), ← hb.cell (p := ⟨b, off + k9, none⟩) (by rw [HPp.out]; exact hlt')]
                exact c0
              clear hbuf hbuf' hb hb' hb2 HZ c0
              go_wp2
              go_roundw
              case rel => exact ⟨k9 + 1, by omega, by go_num, HB'.out, hb4⟩
              case measure => simp [intOf]; omega
            · obtain rfl : len = k9 := by omega
              obtain ⟨w5, rfl⟩ : ∃ wo : World, wo = wr := ⟨_, rfl⟩
              have HW5 : Hid (Reads w5 (some ⟨g, 0, none⟩) (cap4 (flat L Z len))) := HW.out.below hb2
              have BB5 : Below w'.heap.size w' w5 := BB2.trans (hb2.mono BB2.size)
              have HU : Hid (AllU8 (cap4 (flat L Z len))) := (allU8_flat L Z len).cap4
              have K1 : Hid (Calls Tryd.prog 10 #[.pointer (some ⟨p, 0, none⟩)] w5 fun e w' => ∃ a c, e = .returned (.slice a n c) ∧ Reads w5 a (cap4 (flat L Z len)) ∧ ∃ n, w' = w5.drewN n) := by have := kept_any p _ w5 hbuf; rw [HLn.out] at this; exact this
              clear hb hb2 hbuf hP2 hQ2 HW BB2
              go_wp2_with fail
              refine K1.out.mono ?_
              rintro e wx ⟨q1, e1, rfl, hr1, m1, rfl⟩
              have HQ : Hid (Reads w5 q1 (cap4 (flat L Z len))) := hr1
              clear hr1
              go_wp2_with fail
              refine (same_reads q1 (some ⟨g, 0, none⟩) (cap4 (flat L Z len)) n e1 c _ (by exact HQ.out) (by exact HW5.out) HU.out HLn.out (by omega)).mono ?_
              rintro e wx ⟨rfl, m2, rfl⟩
              go_wp2
              go_ret
              exact ⟨rfl, below_drewN BB5 _⟩
end Go.Proofs.Qxb6605686aDoor
