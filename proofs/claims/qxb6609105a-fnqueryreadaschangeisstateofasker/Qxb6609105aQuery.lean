import Derived.Test.Qxb6609105aSlices
namespace Go.Proofs.Qxb6609105a
open Go.RowKit
set_option linter.unusedVariables false

theorem IsNums.up {w w' : World} {a : Option Addr} {len : Nat} (h : IsNums w a len) (hb : Below w.heap.size w w') : IsNums w' a len := by
  rcases h with h | ⟨b, off, zs, rfl, hz⟩
  · exact Or.inl h
  · exact Or.inr ⟨b, off, zs, rfl, fun i hi => (hb.cell (p := ⟨b, off + i, none⟩) (block_lt_of_cell (hz i hi))).trans (hz i hi)⟩

set_option maxRecDepth 100000 in
set_option maxHeartbeats 4000000 in
theorem query_walk (a0 a1 : ByteArray) (pa : Option Addr) (plen pcap : Nat) (a3 : Int) (la : Option Addr) (llen lcap : Nat) (a5 : ByteArray) (w : World) (w0 : a0.size ≤ maxLen) (w1 : a1.size ≤ maxLen) (w5 : a5.size ≤ maxLen) (wp : plen ≤ maxLen) (wl : llen ≤ maxLen) (hss : IsStrs w pa plen) (hns : IsNums w la llen) :
    Calls Try.prog 6 #[.string a0, .string a1, .slice pa plen pcap, .int .u64 a3, .slice la llen lcap, .string a5] w fun e w' => e = .returned (.bool true) ∧ Below w.heap.size w w' := by
  have HB := hideIt (bytesQ_any a0 a1 pa plen pcap (.int .u64 a3) la llen lcap a5 w w0 w1 w5 wp wl hss)
  have HS := hideIt hss
  have HN := hideIt hns
  clear hss hns
  unfold maxLen at w0 w1 w5 wp wl
  go_enter Try.func6, Try.ntmps6
  go_wp2_with (go_at_call 23; refine HB.out.mono ?_; rintro e w' ⟨⟨r, rfl⟩, hw⟩; obtain rfl := hw.symm; clear hw)
  all_goals first | (go_ret; exact ⟨rfl, Below.refl _ _⟩) | skip
  have hp : plen ≤ 16384 := by omega
  have hl : llen ≤ 16384 := by omega
  clear HB
  go_loop [13, 14] (fun z i => ∃ (k : Nat) (q : Int), k ≤ plen ∧ i = .int .i64 k ∧ z = .int .i64 q) (fun _ i => plen - (intOf i).toNat)
  case atStart => exact ⟨0, _, Nat.zero_le _, rfl, rfl⟩
  case round =>
    obtain ⟨k, q, hk, rfl, rfl⟩ := hrel
    by_cases hlt : k < plen
    · rcases HS.out with h0 | ⟨b', off, ss, rfl, hss⟩
      · omega
      · obtain ⟨hc, hsz⟩ := hss k hlt
        unfold maxLen at hsz
        clear hss HS HN
        go_wp2
        all_goals first | (go_ret; exact ⟨rfl, Below.refl _ _⟩) | skip
        go_round
        case rel => exact ⟨k + 1, _, by omega, by go_num, rfl⟩
        case measure => simp [intOf]; omega
    · go_wp2_with fail
      refine (cloneS_any pa plen pcap w hp HS.out).mono ?_
      rintro e v1 ⟨⟨x1, n1, c1, rfl⟩, hb1⟩
      have HN1 := hideIt (HN.out.up hb1)
      have HB1 := hideIt hb1
      clear hb1 HS HN
      go_wp2_with fail
      refine (cloneU_any la llen lcap v1 hl HN1.out).mono ?_
      rintro e v2 ⟨⟨x2, n2, c2, rfl⟩, hb2⟩
      have HB2 : Hid (Below w.heap.size w v2) := HB1.out.trans (hb2.mono HB1.out.size)
      clear hb2 HN1 HB1
      go_wp2_with fail
      refine (newtx_any a5 a1 a3 x1 n1 c1 x2 n2 c2 v2).mono ?_
      rintro e v3 ⟨rfl, hb3⟩
      have HB3 : Hid (Below w.heap.size w v3) := HB2.out.trans (hb3.mono HB2.out.size)
      have hz3 := HB3.out.size
      clear hb3 HB2
      go_wp2_with fail
      refine (zzquery_any a5 a1 a3 x1 n1 c1 x2 n2 c2 _).mono ?_
      rintro e v4 ⟨rfl, hb4⟩
      have HB4 : Hid (Below w.heap.size w v4) := (HB3.out.alloc hz3 _).trans (hb4.mono (by simp <;> omega))
      clear hb4 HB3 hz3
      go_wp2_with fail
      refine (chof_is (isMsg_q a5 a1 a3 x1 n1 c1 x2 n2 c2) (.inr (.inr ⟨rfl, rfl, rfl, rfl, rfl, rfl, rfl⟩)) v4).mono ?_
      rintro e v5 ⟨rfl, hb5⟩
      have HB5 : Hid (Below w.heap.size w v5) := HB4.out.trans (hb5.mono HB4.out.size)
      have hz5 := HB5.out.size
      clear hb5 HB4
      go_wp2_with (refine wpList_load_row rfl 66 _ rfl v5.heap.size rfl 66 _ (0, 0) _ (heap_alloc_new v5 _) Try.underlying66 rfl Try.size66 ?_)
      refine (chfields_any _ _ _ _ _ _ _ _ _).mono ?_
      rintro e v6 ⟨rfl, hb6⟩
      have HB6 : Hid (Below w.heap.size w v6) := (HB5.out.alloc hz5 _).trans (hb6.mono (by simp <;> omega))
      clear hb6 HB5 hz5
      go_wp2
      go_ret
      exact ⟨rfl, HB6.out⟩
end Go.Proofs.Qxb6609105a
