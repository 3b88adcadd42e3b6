import Derived.Test.Qxb6608537aDoorBuf3
namespace Go.Proofs.Qxb6608537aDoor
open Go.RowKit
set_option linter.unusedVariables false

set_option maxRecDepth 100000 in
set_option maxHeartbeats 4000000 in
theorem bwritestr_any (b : Nat) (ro : Option Nat) (bs cs : List Value) (s : ByteArray) (n : Nat) (w : World) (h : Buf w b ro bs) (hcsE : cs = Lib.byteCells s.data.toList) (hsn : s.size = n) (hn1 : 1 ≤ n) (hlim : bs.length + n ≤ 140737488355328) :
    Calls Tryd.prog 74 #[.pointer (some ⟨b, 0, none⟩), .string s] w fun e w' => e = .returned (.tuple #[.int .i64 n, .nilIface]) ∧ BufPost w b ro (bs ++ cs) w' := by
  obtain ⟨h1, lr, h⟩ := h
  have hn : cs.length = n := by rw [hcsE, Lib.byteCells_length, ← Lib.size_eq, hsn]
  have h1c : ∀ v ∈ cs, v.oneCell' = true := by rw [hcsE]; exact Lib.byteCells_one _
  have HP : Hid (∀ r cap2 cells w1, Roomy w b ro bs n r cap2 cells w1 → ∃ wF, (Builtin.copy_ #[30, 9] 3 #[.slice (some ⟨r, bs.length, none⟩) n (cap2 - bs.length), .string s]).run Tryd.prog w1 = .ok (goInt n) wF ∧ BufPost w b ro (bs ++ cs) wF) := by
    intro r cap2 cells w1 hR
    refine ⟨_, ?_, write_end hR hn h1 h1c⟩
    obtain ⟨q1, q2, q3, q4, q5, q6, q7, q8, q9⟩ := hR
    have := Lib.run_copy_row_string (P := Tryd.prog) w1 30 9 3 5 r bs.length n (cap2 - bs.length) s cells 5 Tryd.underlying30 Tryd.size5 q2 (by omega) (by omega)
    rw [hsn] at this
    rw [hn, hcsE]; exact this
  have hbW : b < w.heap.size := by
    rcases h with ⟨_, _, hb⟩ | ⟨r, cap, cur, _, _, hb, _⟩ <;> exact Lib.lt_of_heap hb
  have HSE := hideIt hcsE
  clear hcsE
  have HN : Hid (n ≤ 140737488355328) := by show n ≤ _; omega
  rcases h with ⟨rfl, rfl, hb⟩ | ⟨r, cap, cur, rfl, hrb, hb, hr, hcs, hlc, hcm, htk⟩
  · -- nil: a new row
    have d2 : w.cell? ⟨b, 2, none⟩ = some (.int .i8 lr) := by rw [Lib.cell_of_heap hb]; rfl
    have f2 : w.frozen? ⟨b, 2, none⟩ = false := Lib.frozen_of_heap hb 2
    have hb2 := set2 hb
    have c0 : (w.setCell ⟨b, 2, none⟩ (.int .i8 0)).cell? ⟨b, 0, none⟩ = some (.slice none 0 0) := by rw [Lib.cell_of_heap hb2]; rfl
    have HT := hideIt (Tryd.Buffer_tryGrow_none b _ 0 0 n _ c0 (Nat.le_refl _) (Nat.zero_le _) (by omega))
    have HG : Hid (Calls Tryd.prog 76 #[.pointer (some ⟨b, 0, none⟩), .int .i64 n] (w.setCell ⟨b, 2, none⟩ (.int .i8 0)) fun e w' => e = .returned (.int .i64 0) ∧ GrewTo (w.setCell ⟨b, 2, none⟩ (.int .i8 0)) b 0 n 0 [] w') := by
      by_cases h64 : n ≤ 64
      · exact grow_small b n 0 _ hb2 hn1 h64
      · exact grow_big b n 0 _ hb2 (by omega) HN.out
    clear hb hb2 c0
    go_enter Tryd.func74, Tryd.ntmps74
    go_wp2_with (first
      | (go_at_call 75; refine HT.out.mono ?_; rintro e w' ⟨rfl, hw⟩; obtain rfl := hw.symm; clear hw)
      | (go_at_call 76; refine HG.out.mono ?_; rintro e w1 ⟨rfl, hw⟩; have HW := hideIt hw; clear hw; refine Hid.out ?_))
    refine hideIt ?_
    obtain ⟨r, cap2, cells, hR⟩ := roomy_of_grew (ro := none) (bs := []) hbW HW.out
    obtain ⟨wF, hcp, hpost⟩ := HP.out r cap2 cells w1 hR
    have HR := hideIt hpost
    have c0 : w1.cell? ⟨b, 0, none⟩ = some (.slice (some ⟨r, 0, none⟩) n cap2) := by rw [Lib.cell_of_heap hR.1]; simp
    have hle : n ≤ cap2 := by have := hR.2.2.2.2.1; simpa using this
    have hmx : cap2 ≤ maxLen := hR.2.2.2.2.2.1
    unfold maxLen at hmx
    simp only [List.length_nil, Nat.sub_zero] at hcp
    clear hR hpost
    go_wp2
    go_ret2
    exact ⟨rfl, HR.out⟩
  · have hl := h1
    have d2 : w.cell? ⟨b, 2, none⟩ = some (.int .i8 lr) := by rw [Lib.cell_of_heap hb]; rfl
    have f2 : w.frozen? ⟨b, 2, none⟩ = false := Lib.frozen_of_heap hb 2
    have hb2 := set2 hb
    have c0 : (w.setCell ⟨b, 2, none⟩ (.int .i8 0)).cell? ⟨b, 0, none⟩ = some (.slice (some ⟨r, 0, none⟩) bs.length cap) := by rw [Lib.cell_of_heap hb2]; rfl
    have f0 : (w.setCell ⟨b, 2, none⟩ (.int .i8 0)).frozen? ⟨b, 0, none⟩ = false := Lib.frozen_of_heap hb2 0
    have hr2 : (w.setCell ⟨b, 2, none⟩ (.int .i8 0)).heap[r]? = some (.cells cur 5 (0, 0)) := by rw [Go.heap_setCell_other _ _ _ _ (by simpa using hrb)]; exact hr
    have hcm' := hcm
    unfold maxLen at hcm'
    by_cases hroom : n ≤ cap - bs.length
    · have HT := hideIt (Tryd.Buffer_tryGrow_room b _ bs.length cap n _ c0 f0 hlc hcm hroom)
      obtain ⟨w1, hw1⟩ : ∃ w1, w1 = (w.setCell ⟨b, 2, none⟩ (.int .i8 0)).setCell ⟨b, 0, none⟩ (.slice (some ⟨r, 0, none⟩) (bs.length + n) cap) := ⟨_, rfl⟩
      rw [← hw1] at HT
      have hR : Roomy w b (some r) bs n r cap cur w1 := by
        refine ⟨?_, ?_, hcs, htk, by omega, hcm, ?_, Or.inl rfl, hrb⟩
        · rw [hw1, Go.heap_setCell_same _ b 0 _ _ _ hb2]; rfl
        · rw [hw1, Go.heap_setCell_other _ _ _ _ (by simpa using hrb)]; exact hr2
        · rw [hw1]; exact Lib.grownBy_setB (Lib.grownBy_setCell w b 2 _) 0 _
      obtain ⟨wF, hcp, hpost⟩ := HP.out r cap cur w1 hR
      have HR := hideIt hpost
      have c1 : w1.cell? ⟨b, 0, none⟩ = some (.slice (some ⟨r, 0, none⟩) (bs.length + n) cap) := by rw [Lib.cell_of_heap hR.1]; rfl
      obtain ⟨l, hL⟩ : ∃ l, l = bs.length := ⟨_, rfl⟩
      rw [← hL] at HT hcp c1 hlc hroom hlim
      clear hR hpost hb hb2 c0 f0 hr2 hL hw1 hr htk
      go_enter Tryd.func74, Tryd.ntmps74
      go_wp2_with (go_at_call 75; refine HT.out.mono ?_; rintro e w' ⟨rfl, hw⟩; obtain rfl := hw.symm; clear hw)
      go_ret2
      exact ⟨rfl, HR.out⟩
    · have HT := hideIt (Tryd.Buffer_tryGrow_none b _ bs.length cap n _ c0 hlc hcm (by omega))
      have hone : ∀ v ∈ cur.toList.take bs.length, v.oneCell' = true := by rw [htk]; exact h1
      have hgr := grow_row b r bs.length cap n 0 cur _ hb2 hr2 hlc hcm hcs hone hn1 (by omega) hlim
      rw [htk] at hgr
      have HG := hideIt hgr
      have HRO : Hid (∀ w1, GrewTo (w.setCell ⟨b, 2, none⟩ (.int .i8 0)) b bs.length n 0 bs w1 → ∃ r' cap2 wF, (Builtin.copy_ #[30, 9] 3 #[.slice (some ⟨r', bs.length, none⟩) n (cap2 - bs.length), .string s]).run Tryd.prog w1 = .ok (goInt n) wF ∧ BufPost w b (some r) (bs ++ cs) wF ∧ w1.cell? ⟨b, 0, none⟩ = some (.slice (some ⟨r', 0, none⟩) (bs.length + n) cap2) ∧ bs.length + n ≤ cap2 ∧ cap2 ≤ maxLen) := by
        intro w1 hw
        obtain ⟨r', cap2, cells, hR⟩ := roomy_of_grew (ro := some r) (bs := bs) hbW hw
        obtain ⟨wF, hcp, hpost⟩ := HP.out r' cap2 cells w1 hR
        exact ⟨r', cap2, wF, hcp, hpost, by rw [Lib.cell_of_heap hR.1]; rfl, hR.2.2.2.2.1, hR.2.2.2.2.2.1⟩
      obtain ⟨l, hL⟩ : ∃ l, l = bs.length := ⟨_, rfl⟩
      rw [← hL] at HG HRO hlc hroom hlim
      clear hb hb2 c0 f0 hr2 hL hr htk hgr hone
      go_enter Tryd.func74, Tryd.ntmps74
      go_wp2_with (first
        | (go_at_call 75; refine HT.out.mono ?_; rintro e w' ⟨rfl, hw⟩; obtain rfl := hw.symm; clear hw)
        | (go_at_call 76; refine HG.out.mono ?_; rintro e w1 ⟨rfl, hw⟩; have HW := hideIt hw; clear hw; refine Hid.out ?_))
      refine hideIt ?_
      obtain ⟨r', cap2, wF, hcp, hpost, c0, hle, hmx⟩ := HRO.out w1 HW.out
      have HR := hideIt hpost
      unfold maxLen at hmx
      clear hpost
      go_wp2
      go_ret2
      exact ⟨rfl, HR.out⟩
end Go.Proofs.Qxb6608537aDoor
