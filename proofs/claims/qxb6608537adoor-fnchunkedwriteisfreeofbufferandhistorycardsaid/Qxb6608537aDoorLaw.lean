import Derived.Test.Qxb6608537aDoorLaw0
namespace Go.Proofs.Qxb6608537aDoor
open Go.RowKit
set_option linter.unusedVariables false

def BytesQ (L : Nat) (C : List Value) (w : World) (e : Ending) (w' : World) : Prop := ∃ a cap, e = .returned (.slice a L cap) ∧ OutB C w' a cap ∧ Below w.heap.size w w'
theorem done_bytesQ {L B b : Nat} {C : List Value} {w : World} (hL : L = C.length) (h : Done B b C w) : Calls Tryd.prog 14 #[.pointer (some ⟨b, 0, none⟩)] w fun e w' => BytesQ L C w e w' := by
  subst hL; exact done_bytes h

set_option maxRecDepth 100000 in
set_option maxHeartbeats 8000000 in
theorem law_any (a : Option Addr) (len cap : Nat) (ta : Nat → Option Addr) (tl tc : Nat → Nat) (bs : Nat → Nat → Int) (zA zB : Int) (w : World) (hl : len ≤ maxLen) (h : Pieces w a len ta tl tc bs) (h5 : w.cell? ⟨5, 15, none⟩ = some (.int .u8 4)) :
    Calls Tryd.prog 5 #[.slice a len cap, .int .i64 zA, .int .i64 zB] w fun e w' => e = .returned (.bool true) ∧ Below w.heap.size w w' := by
  have HP := hideIt h
  have H5 := hideIt h5
  have H10 := hideIt (guard2_any a len cap ta tl tc bs (.int .i64 zA) (.int .i64 zB) w hl h)
  clear h h5
  unfold maxLen at hl
  go_enter Tryd.func5, Tryd.ntmps5
  by_cases h4 : len ≤ 4096
  · have h4i : (len : Int) ≤ 4096 := by omega
    go_wp2_with (go_at_call 10; refine H10.out.mono ?_; rintro e w' ⟨⟨r, rfl, hr⟩, hw⟩; obtain rfl := hw.symm; clear hw; have HR := hideIt hr; clear hr; cases r)
    all_goals first | (go_ret; exact ⟨rfl, Below.refl _ _⟩) | skip
    have HALL := hideIt (HR.out trivial)
    clear HR H10
    go_loop [7, 8] (fun z i => ∃ (k : Nat), k ≤ len ∧ i = .int .i64 k ∧ z = .int .i64 (sumL tl k : Nat) ∧ sumL tl k ≤ 524288) (fun _ i => len - (intOf i).toNat)
    case atStart => exact ⟨0, Nat.zero_le _, rfl, rfl, by simp [sumL]⟩
    case round =>
      obtain ⟨k, hk, rfl, rfl, hsum⟩ := hrel
      by_cases hlt : k < len
      · rcases HP.out with h0 | ⟨b', off, rfl, hss⟩
        · omega
        · obtain ⟨hc, h1, h2, _⟩ := hss k hlt
          have hk2 := HALL.out k hlt
          have hki : (k : Int) < (len : Int) := by omega
          unfold maxLen at h2
          clear hss HP HALL
          by_cases hbig : sumL tl k + tl k ≤ 524288
          · have hbi : (sumL tl k : Int) + (tl k : Int) ≤ 524288 := by omega
            go_wp2
            go_round
            case rel => exact ⟨k + 1, by omega, by go_num, by simp only [sumL]; go_num, by simp only [sumL]; omega⟩
            case measure => simp [intOf]; omega
          · have hbi : ¬ (sumL tl k : Int) + (tl k : Int) ≤ 524288 := by omega
            go_wp2
            go_ret
            exact ⟨rfl, Below.refl _ _⟩
      · obtain rfl : len = k := by omega
        by_cases hAB : zA ≤ 65536 ∧ zB ≤ 65536
        · obtain ⟨hA, hB⟩ := hAB
          have H11 := hideIt (newchunked_any zA w hA)
          go_wp2_with (go_at_call 11; refine H11.out.mono ?_; rintro e w1 ⟨b, X, g, size, gc, rfl, q1, q2, q3, q4, q5⟩; have HF := hideIt (fresh_stand q1 q2 q3 q4 q5); clear q1 q2 q3 q4 q5)
          obtain ⟨K, hK⟩ : ∃ K, K = w1.heap.size := ⟨_, rfl⟩
          obtain ⟨W1, hW1⟩ : ∃ W1, W1 = w1.alloc (.cells #[.pointer (some ⟨X, 0, none⟩)] 33) := ⟨_, rfl⟩
          rw [← hK, ← hW1] at HF
          rw [← hK, ← hW1]
          clear hK hW1 H11
          go_loopw [11] (fun i wr => ∃ (k : Nat), k ≤ len ∧ i = .int .i64 k ∧ Stand w.heap.size K b X g size (cat (pieceL tl bs) k) wr ∧ Below w.heap.size w wr) (fun i _ => len - (intOf i).toNat)
          case atStart => exact ⟨0, Nat.zero_le _, rfl, HF.out⟩
          case round =>
            obtain ⟨k, hk, rfl, hst, hbel⟩ := hrel
            have HS := hideIt hst
            have HB := hideIt hbel
            have HC : Hid ((cat (pieceL tl bs) k).length ≤ 10995116277) := by
              have h1 := cat_bound2 tl bs k (fun i hi => HALL.out i (by omega))
              have h2 : k * 1048588 ≤ 4096 * 1048588 := Nat.mul_le_mul_right _ (by omega)
              show _ ≤ _
              omega
            clear hst hbel
            by_cases hlt : k < len
            · rcases HP.out with h0 | ⟨b', off, rfl, hss⟩
              · omega
              · obtain ⟨hc, h1, h2, hby⟩ := hss k hlt
                have c1 : wr.cell? ⟨K, 0, none⟩ = some (.pointer (some ⟨X, 0, none⟩)) := HS.out.cell
                have c2 : wr.cell? ⟨b', off + k, none⟩ = some (.slice (ta k) (tl k) (tc k)) := (HB.out.cell (block_lt_of_cell hc)).trans hc
                have hk2 := HALL.out k hlt
                have H12 : Hid (∀ wx, Sm wr wx → Calls Tryd.prog 12 #[.agg #[.pointer (some ⟨X, 0, none⟩)], .slice (ta k) (tl k) (tc k)] wx fun e w' => e = .returned (.tuple #[.int .i64 (tl k), .nilIface]) ∧ Stand w.heap.size K b X g size (cat (pieceL tl bs) (k + 1)) w' ∧ Below w.heap.size w w') := by
                  rintro wx ⟨q, rfl⟩
                  have hb0 : Below w.heap.size w (wr.drewN q) := ⟨HB.out.os, HB.out.tape, HB.out.output, HB.out.size, HB.out.block⟩
                  refine (write_at (w := w) (wr := wr.drewN q) (tl := tl) (tc := tc) (bs := bs) (k := k) HS.out hby hb0 (Nat.le_refl _) h1 h2 hk2 HC.out H5.out).mono ?_
                  rintro e w' ⟨rfl, e1, e2⟩
                  exact ⟨rfl, e1, hb0.trans e2⟩
                have HCC := hideIt hc
                have hki : (k : Int) < (len : Int) := by omega
                unfold maxLen at h2
                clear hss HP HALL hby hc
                go_wp2
                go_region_held3 (fun w' => w'.cell? ⟨K, 0, none⟩ = some (.pointer (some ⟨X, 0, none⟩)) ∧ w'.cell? ⟨b', off + k, none⟩ = some (.slice (ta k) (tl k) (tc k))) (first | exact ⟨c1, c2⟩ | assumption | exact ⟨HS'.out.cell, c3⟩)
                  ((first
                    | (go_at_call 12; refine (H12.out _ (by first | assumption | exact Sm.refl _ | exact Sm.drew (Sm.refl _) | exact Sm.drewN (Sm.refl _) _)).mono ?_; rintro e w' ⟨rfl, hst', hbel'⟩; have HS' := hideIt hst'; have HB' := hideIt hbel'; have c3 : w'.cell? ⟨b', off + k, none⟩ = some (.slice (ta k) (tl k) (tc k)) := (hbel'.cell (block_lt_of_cell HCC.out)).trans HCC.out; clear hst' hbel')))
                go_wp2
                go_roundw
                case rel => exact ⟨k + 1, by omega, by go_num, HS'.out, HB'.out⟩
                case measure => simp [intOf]; omega
            · obtain rfl : len = k := by omega
              obtain ⟨wl, hwl⟩ : ∃ x : World, x = wr := ⟨_, rfl⟩
              subst hwl
              obtain ⟨L, hL⟩ : ∃ L, L = (cat (pieceL tl bs) len).length := ⟨_, rfl⟩
              have c1 : wl.cell? ⟨K, 0, none⟩ = some (.pointer (some ⟨X, 0, none⟩)) := HS.out.cell
              have H13 := hideIt (stand_flush HS.out HC.out)
              have H14 : Hid (∀ w2, Done w.heap.size b (cat (pieceL tl bs) len) w2 → Calls Tryd.prog 14 #[.pointer (some ⟨b, 0, none⟩)] w2 fun e w' => BytesQ L (cat (pieceL tl bs) len) w2 e w') := fun w2 h => done_bytesQ hL h
              have HL := hideIt hL
              have hLb : L ≤ 10995116277 := by rw [hL]; exact HC.out
              clear hL HS HF
              go_wp2_with (first
                | (go_at_call 13; refine H13.out.mono ?_; rintro e w2 ⟨rfl, hd, hb2⟩; have HD := hideIt hd; have HB2 := hideIt (HB.out.trans hb2); clear hd hb2)
                | (go_at_call 14; refine (H14.out _ HD.out).mono ?_; rintro e w3 ⟨aa, capA, rfl, ho, hb3⟩; have HO := hideIt ho; have HB3 := hideIt (HB2.out.trans (hb3.mono HB2.out.size)); clear ho hb3))
              have hcapA : L ≤ capA := by rw [HL.out]; exact HO.out.1
              have hcapM : capA ≤ 2 ^ 63 - 1 := HO.out.2.1
              clear H13 H14 HB HB2 HD HC c1
              go_loopw [15, 16] (fun ps i wr => ∃ (k q : Nat), k ≤ len ∧ i = .int .i64 k ∧ ps = .int .i64 q ∧ q = (cat (pieceL tl bs) k).length ∧ Below w3.heap.size w3 wr) (fun _ i _ => len - (intOf i).toNat)
              case atStart => exact ⟨0, 0, Nat.zero_le _, rfl, rfl, rfl, Below.refl _ _⟩
              case round =>
                obtain ⟨k, q, hk, rfl, rfl, hq, hbel⟩ := hrel
                have HBr := hideIt hbel
                have HBw : Hid (Below w.heap.size w wr) := HB3.out.trans (hbel.mono HB3.out.size)
                have HQ := hideIt hq
                clear hbel hq
                by_cases hlt : k < len
                · rcases HP.out with h0 | ⟨b', off, rfl, hss⟩
                  · omega
                  · obtain ⟨hc, h1, h2, hby⟩ := hss k hlt
                    have c2 : wr.cell? ⟨b', off + k, none⟩ = some (.slice (ta k) (tl k) (tc k)) := (HBw.out.cell (block_lt_of_cell hc)).trans hc
                    have hk2 := HALL.out k hlt
                    have H11 := hideIt (newchunked_any zB wr hB)
                    have HBY := hideIt hby
                    have HW1 := hideIt h1
                    have HW2 := hideIt h2
                    obtain ⟨M, hM⟩ : ∃ M, M = (enc (pieceL tl bs k)).length := ⟨_, rfl⟩
                    have hle : q + M ≤ L := by rw [HQ.out, hM, HL.out]; exact cat_le _ hlt
                    have hnext : q + M = (cat (pieceL tl bs) (k + 1)).length := by rw [HQ.out, hM, cat, List.length_append]
                    have hrow : M ≠ 0 → ∃ r, aa = some ⟨r, 0, none⟩ ∧ ∀ W, Below w3.heap.size w3 W → Byts W (some ⟨r, q, none⟩) M (fun j => zOf ((enc (pieceL tl bs k)).getD j .nilIface)) := by
                      intro h0
                      obtain ⟨r, hr, _⟩ := part_byts (fun i => pieceL_u8 tl bs i) hlt HO.out (Below.refl _ _) (by rw [← hM]; exact h0)
                      refine ⟨r, hr, fun W hW => ?_⟩
                      obtain ⟨r', hr', hb'⟩ := part_byts (fun i => pieceL_u8 tl bs i) hlt HO.out hW (by rw [← hM]; exact h0)
                      rw [hr] at hr'
                      cases hr'
                      rw [HQ.out, hM]; exact hb'
                    obtain ⟨a2, hsl, ha2⟩ := slice_part aa L capA q M hle hcapA (fun h0 => by obtain ⟨r, hr, _⟩ := hrow h0; exact ⟨r, hr⟩)
                    have HA2 : Hid (∀ W, Below w3.heap.size w3 W → Byts W a2 M (fun j => zOf ((enc (pieceL tl bs k)).getD j .nilIface))) := by
                      intro W hW
                      by_cases h0 : M = 0
                      · exact Or.inl h0
                      · obtain ⟨r, hr, hb'⟩ := hrow h0
                        obtain ⟨r', hr', rfl⟩ := ha2 h0
                        rw [hr] at hr'
                        cases hr'
                        exact hb' W hW
                    have H13 : Hid (∀ K4 b4 X4 g4 s4 w4, Stand wr.heap.size K4 b4 X4 g4 s4 (enc (pieceL tl bs k)) w4 → _) := fun K4 b4 X4 g4 s4 w4 h => stand_flush h (by rw [← hM]; omega)
                    have H14 : Hid (∀ b4 w4, Done wr.heap.size b4 (enc (pieceL tl bs k)) w4 → Calls Tryd.prog 14 #[.pointer (some ⟨b4, 0, none⟩)] w4 fun e w' => BytesQ M (enc (pieceL tl bs k)) w4 e w') := fun b4 w4 h => done_bytesQ hM h
                    have H15 := hideIt (fun W => hexdigits_any (tl k) W (by omega))
                    have HUP : Hid (∀ W, Below wr.heap.size wr W → Below w3.heap.size w3 W) := fun W h => HBr.out.trans (h.mono HBr.out.size)
                    have H16 : Hid (∀ ao co W, OutB (enc (pieceL tl bs k)) W ao co → Below wr.heap.size wr W → Calls Tryd.prog 16 #[.slice a2 M (capA - q), .slice ao M co] W fun e w' => e = .returned (.bool true) ∧ Below wr.heap.size wr w') := by
                      intro ao co W h1 h2
                      have hob := own_byts (enc_u8 (pieceL_u8 tl bs k)) h1
                      rw [← hM] at hob
                      refine (same_any a2 ao M (capA - q) co _ W (by omega) (HA2.out W (HUP.out W h2)) hob).mono ?_
                      rintro e w' ⟨rfl, n, rfl⟩
                      exact ⟨rfl, h2.os, h2.tape, h2.output, h2.size, h2.block⟩
                    have HNX := hideIt hnext
                    have HME := hideIt hM
                    have hki : (k : Int) < (len : Int) := by omega
                    have hsub : ¬ (L : Int) - (q : Int) < (M : Int) := by omega
                    unfold maxLen at h2
                    clear hss HP HALL hby hc hrow ha2 HA2 hnext hM
                    by_cases h0 : tl k = 0
                    · have hM0 : M = 0 := by
                        rw [HME.out, List.eq_nil_of_length_eq_zero ((pieceL_len tl bs k).trans h0)]; rfl
                      subst hM0
                      simp only [Int.natCast_zero, Int.add_zero] at hsl
                      have h0i : ¬ (0 : Int) < (tl k : Int) := by omega
                      have H0 := hideIt h0
                      clear h0
                      go_wp2_with (first
                        | (go_at_call 11; refine H11.out.mono ?_; rintro e w4 ⟨b4, X4, g4, s4, gc4, rfl, q1, q2, q3, q4, q5⟩; have HF := hideIt (one_write (w := w) (tl := tl) (tc := tc) (bs := bs) (k := k) q1 q2 q3 q4 q5 HBY.out HBw.out HW1.out HW2.out hk2 H5.out); clear q1 q2 q3 q4 q5)
                        | (go_at_call 12; refine HF.out.mono ?_; rintro e w5 ⟨rfl, s1, s2⟩; have HS5 := hideIt s1; have HB5 := hideIt s2; have c5 := s1.cell; clear s1 s2)
                        | (go_at_call 13; refine (H13.out _ _ _ _ _ _ HS5.out).mono ?_; rintro e w6 ⟨rfl, hd, hb6⟩; have HD6 := hideIt hd; have HB6 := hideIt (HB5.out.trans hb6); clear hd hb6)
                        | (go_at_call 14; refine (H14.out _ _ HD6.out).mono ?_; rintro e w7 ⟨ao, co, rfl, ho7, hb7⟩; have HO7 := hideIt ho7; have HB7 := hideIt (HB6.out.trans (hb7.mono HB6.out.size)); clear ho7 hb7)
                        | (go_at_call 15; refine (H15.out _).mono ?_; rintro e w8 ⟨rfl, hw⟩; obtain rfl := hw.symm; clear hw)
                        | (go_at_call 16; refine (H16.out _ _ _ HO7.out HB7.out).mono ?_; rintro e w9 ⟨rfl, hb9⟩; have HB9 := hideIt hb9; clear hb9))
                      go_roundw
                      case rel => exact ⟨k + 1, q, by omega, by go_num, by go_num, HNX.out, HUP.out _ HB9.out⟩
                      case measure => simp [intOf]; omega
                    · have hM2 : (tl k : Int) + (hexN (tl k) : Int) + 4 = (M : Int) := by
                        rw [HME.out, enc_len (by intro e; have := pieceL_len tl bs k; rw [e] at this; simp at this; omega), pieceL_len]; omega
                      have h9 := hexN_bound 8 (tl k) (by omega)
                      have h0i : (0 : Int) < (tl k : Int) := by omega
                      go_wp2_with (first
                        | (go_at_call 11; refine H11.out.mono ?_; rintro e w4 ⟨b4, X4, g4, s4, gc4, rfl, q1, q2, q3, q4, q5⟩; have HF := hideIt (one_write (w := w) (tl := tl) (tc := tc) (bs := bs) (k := k) q1 q2 q3 q4 q5 HBY.out HBw.out HW1.out HW2.out hk2 H5.out); clear q1 q2 q3 q4 q5)
                        | (go_at_call 12; refine HF.out.mono ?_; rintro e w5 ⟨rfl, s1, s2⟩; have HS5 := hideIt s1; have HB5 := hideIt s2; have c5 := s1.cell; clear s1 s2)
                        | (go_at_call 13; refine (H13.out _ _ _ _ _ _ HS5.out).mono ?_; rintro e w6 ⟨rfl, hd, hb6⟩; have HD6 := hideIt hd; have HB6 := hideIt (HB5.out.trans hb6); clear hd hb6)
                        | (go_at_call 14; refine (H14.out _ _ HD6.out).mono ?_; rintro e w7 ⟨ao, co, rfl, ho7, hb7⟩; have HO7 := hideIt ho7; have HB7 := hideIt (HB6.out.trans (hb7.mono HB6.out.size)); clear ho7 hb7)
                        | (go_at_call 15; refine (H15.out _).mono ?_; rintro e w8 ⟨rfl, hw⟩; obtain rfl := hw.symm; clear hw)
                        | (go_at_call 16; refine (H16.out _ _ _ HO7.out HB7.out).mono ?_; rintro e w9 ⟨rfl, hb9⟩; have HB9 := hideIt hb9; clear hb9))
                      go_roundw
                      case rel => exact ⟨k + 1, q + M, by omega, by go_num, by go_num, HNX.out, HUP.out _ HB9.out⟩
                      case measure => simp [intOf]; omega
                · obtain rfl : len = k := by omega
                  obtain rfl : L = q := by rw [HQ.out, HL.out]
                  go_wp2
                  go_ret
                  exact ⟨by simp, HBw.out⟩
        · have hAB' : ¬ zA ≤ 65536 ∨ ¬ zB ≤ 65536 := by omega
          rcases hAB' with hA | hA
          · go_wp2
            go_ret
            exact ⟨rfl, Below.refl _ _⟩
          · go_wp2
            all_goals (go_ret; exact ⟨rfl, Below.refl _ _⟩)
  · have h4i : ¬ (len : Int) ≤ 4096 := by omega
    go_wp2_with (go_at_call 10; refine H10.out.mono ?_; rintro e w' ⟨⟨r, rfl, hr⟩, hw⟩; obtain rfl := hw.symm; clear hw; have HR := hideIt hr; clear hr; cases r)
    all_goals (go_ret; exact ⟨rfl, Below.refl _ _⟩)
end Go.Proofs.Qxb6608537aDoor
