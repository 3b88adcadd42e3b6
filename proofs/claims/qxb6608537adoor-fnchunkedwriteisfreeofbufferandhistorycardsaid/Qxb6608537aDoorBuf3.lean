import Derived.Test.Qxb6608537aDoorBuf2
namespace Go.Proofs.Qxb6608537aDoor
open Go.RowKit
set_option linter.unusedVariables false

/-- A bytes.Buffer at block b, its row ro, that holds bs. -/
def Buf (w : World) (b : Nat) (ro : Option Nat) (bs : List Value) : Prop :=
  (∀ v ∈ bs, v.oneCell' = true) ∧ ∃ lr : Int,
   (ro = none ∧ bs = [] ∧ w.heap[b]? = some (.cells #[.slice none 0 0, .int .i64 0, .int .i8 lr] 46 (0, 0))) ∨
   (∃ r cap cur, ro = some r ∧ r ≠ b ∧ w.heap[b]? = some (.cells #[.slice (some ⟨r, 0, none⟩) bs.length cap, .int .i64 0, .int .i8 lr] 46 (0, 0)) ∧ w.heap[r]? = some (.cells cur 5 (0, 0)) ∧ cur.size = cap ∧ bs.length ≤ cap ∧ cap ≤ maxLen ∧ cur.toList.take bs.length = bs)

/-- Behind a write. -/
def BufPost (w : World) (b : Nat) (ro : Option Nat) (bs : List Value) (w' : World) : Prop :=
  ∃ ro', Buf w' b ro' bs ∧ (ro' = ro ∨ ro' = some w.heap.size) ∧ w'.os = w.os ∧ w'.tape = w.tape ∧ w'.output = w.output ∧ w.heap.size ≤ w'.heap.size ∧ ∀ k, k < w.heap.size → k ≠ b → some k ≠ ro → w'.heap[k]? = w.heap[k]?

/-- Behind the growing: the row r is long enough. -/
def Roomy (w : World) (b : Nat) (ro : Option Nat) (bs : List Value) (n r cap2 : Nat) (cells : Array Value) (w1 : World) : Prop :=
  w1.heap[b]? = some (.cells #[.slice (some ⟨r, 0, none⟩) (bs.length + n) cap2, .int .i64 0, .int .i8 0] 46 (0, 0)) ∧ w1.heap[r]? = some (.cells cells 5 (0, 0)) ∧ cells.size = cap2 ∧ cells.toList.take bs.length = bs ∧ bs.length + n ≤ cap2 ∧ cap2 ≤ maxLen ∧ w.grownBy w1 (some b) ∧ (some r = ro ∨ r = w.heap.size) ∧ r ≠ b

theorem write_end {w w1 : World} {b n r cap2 : Nat} {ro : Option Nat} {bs cs : List Value} {cells : Array Value} (h : Roomy w b ro bs n r cap2 cells w1) (hn : cs.length = n) (h1 : ∀ v ∈ bs, v.oneCell' = true) (h1c : ∀ v ∈ cs, v.oneCell' = true) :
    BufPost w b ro (bs ++ cs) (w1.setRow r (cells.toList.take bs.length ++ cs ++ cells.toList.drop (bs.length + cs.length)).toArray) := by
  obtain ⟨q1, q2, q3, q4, q5, q6, q7, q8, q9⟩ := h
  have hl : (bs ++ cs).length = bs.length + n := by rw [List.length_append, hn]
  have hlt : cells.toList.length = cap2 := by rw [← q3]; simp
  refine ⟨some r, ⟨?_, 0, Or.inr ⟨r, cap2, _, rfl, q9, ?_, setRow_heap w1 r cells _ 5 (0, 0) q2, ?_, ?_, q6, ?_⟩⟩, ?_, q7.os, q7.tape, q7.output, ?_, ?_⟩
  · intro v hv
    rcases List.mem_append.1 hv with hv | hv
    · exact h1 v hv
    · exact h1c v hv
  · rw [setRow_other w1 r b _ (Ne.symm q9), hl]; exact q1
  · simp [List.length_append, List.length_take, List.length_drop, q3]; omega
  · rw [hl]; exact q5
  · rw [q4]
    exact List.take_left
  · rcases q8 with h | h
    · exact Or.inl h
    · exact Or.inr (by rw [h])
  · have := q7.size; simpa [World.setRow] using this
  · intro k hk hkb hkr
    have hkr' : k ≠ r := by
      rintro rfl
      rcases q8 with h | h
      · exact hkr h
      · omega
    rw [setRow_other w1 r k _ hkr']
    exact q7.block k hk (by simpa using hkb)

theorem set2 {w : World} {b : Nat} {v : Value} {lr : Int} (h : w.heap[b]? = some (.cells #[v, .int .i64 0, .int .i8 lr] 46 (0, 0))) : (w.setCell ⟨b, 2, none⟩ (.int .i8 0)).heap[b]? = some (.cells #[v, .int .i64 0, .int .i8 0] 46 (0, 0)) := by
  rw [Go.heap_setCell_same w b 2 _ _ _ h]; rfl

theorem roomy_of_grew {w w1 : World} {b n : Nat} {ro : Option Nat} {bs : List Value} (hb : b < w.heap.size) (h : GrewTo (w.setCell ⟨b, 2, none⟩ (.int .i8 0)) b bs.length n 0 bs w1) : ∃ r cap2 cells, Roomy w b ro bs n r cap2 cells w1 := by
  obtain ⟨cap2, cells, q1, q2, q3, q4, q5, q6, q7⟩ := h
  have hs : (w.setCell ⟨b, 2, none⟩ (.int .i8 0)).heap.size = w.heap.size := by simp [World.setCell]
  rw [hs] at q1 q2
  refine ⟨w.heap.size, cap2, cells, q1, q2, q3, q4, q5, q6, ?_, Or.inr rfl, by omega⟩
  refine ⟨q7.os, q7.tape, q7.output, by rw [← hs]; exact q7.size, fun k hk hkb => ?_⟩
  rw [q7.block k (by rw [hs]; exact hk) hkb, Go.heap_setCell_other _ _ _ _ (by simpa using hkb)]

/-- A write's source. -/
theorem src_grew {w w1 : World} {b : Nat} (hg : w.grownBy w1 (some b)) {cs : List Value} {a : Addr} (hab : a.block ≠ b) (hsrc : ∀ j v, cs[j]? = some v → w.cell? (a.add j) = some v) : ∀ j v, cs[j]? = some v → w1.cell? (a.add j) = some v := by
  intro j v hj
  have h := hsrc j v hj
  have hb : (a.add j).block = a.block := by unfold Addr.add; split <;> rfl
  have hlt := block_lt_of_cell h
  rw [World.cell?_of_block (w := w) (hg.block _ hlt (by rw [hb]; simpa using hab))]
  exact h

set_option maxRecDepth 100000 in
set_option maxHeartbeats 4000000 in
theorem bwrite_any (b : Nat) (ro : Option Nat) (bs cs : List Value) (a : Addr) (n c : Nat) (w : World) (h : Buf w b ro bs) (hn : cs.length = n) (hn1 : 1 ≤ n) (hab : a.block ≠ b) (hsrc : ∀ j v, cs[j]? = some v → w.cell? (a.add j) = some v) (h1c : ∀ v ∈ cs, v.oneCell' = true) (hlim : bs.length + n ≤ 140737488355328) :
    Calls Tryd.prog 73 #[.pointer (some ⟨b, 0, none⟩), .slice (some a) n c] w fun e w' => e = .returned (.tuple #[.int .i64 n, .nilIface]) ∧ BufPost w b ro (bs ++ cs) w' := by
  obtain ⟨h1, lr, h⟩ := h
  have HP : Hid (∀ r cap2 cells w1, Roomy w b ro bs n r cap2 cells w1 → ∃ wF, (Builtin.copy_ #[30, 30] 3 #[.slice (some ⟨r, bs.length, none⟩) n (cap2 - bs.length), .slice (some a) n c]).run Tryd.prog w1 = .ok (goInt n) wF ∧ BufPost w b ro (bs ++ cs) wF) := by
    intro r cap2 cells w1 hR
    refine ⟨_, ?_, write_end hR hn h1 h1c⟩
    obtain ⟨q1, q2, q3, q4, q5, q6, q7, q8, q9⟩ := hR
    have := run_copy_row (P := Tryd.prog) w1 30 30 3 5 r bs.length n (cap2 - bs.length) a n c cells 5 cs Tryd.underlying30 Tryd.size5 q2 (by rw [hn]; exact (Nat.min_self n).symm) (src_grew q7 hab hsrc) (by omega) h1c
    rw [hn] at this
    rw [hn]; exact this
  have hbW : b < w.heap.size := by
    rcases h with ⟨_, _, hb⟩ | ⟨r, cap, cur, _, _, hb, _⟩ <;> exact Lib.lt_of_heap hb
  have HN : Hid (n ≤ 140737488355328) := by show n ≤ _; omega
  rcases h with ⟨rfl, rfl, hb⟩ | ⟨r, cap, cur, rfl, hrb, hb, hr, hcs, hlc, hcm, htk⟩
  · -- nil: a new row
    have d2 : w.cell? ⟨b, 2, none⟩ = some (.int .i8 lr) := by rw [Lib.cell_of_heap hb]; rfl
    have f2 : w.frozen? ⟨b, 2, none⟩ = false := Lib.frozen_of_heap hb 2
    have hb2 := set2 hb
    have c0 : (w.setCell ⟨b, 2, none⟩ (.int .i8 0)).cell? ⟨b, 0, none⟩ = some (.slice none 0 0) := by rw [Lib.cell_of_heap hb2]; rfl
    have HT := hideIt (Tryd.Buffer_tryGrow_none b _ 0 0 n _ c0 (Nat.le_refl _) (Nat.zero_le _) (by omega))
    have HG : Hid (Calls Tryd.prog 76 #[.pointer (some ⟨b, 0, none⟩), .int .i64 n] (w.setCell ⟨b, 2, none⟩ (.int .i8 0)) fun e w' => e = .returned (.int .i64 0) ∧ GrewTo (w.setCell ⟨b, 2, none⟩ (.int .i8 0)) b 0 n 0 [] w') := by
      by_cases h64 : n ≤ 64
      · exact grow_small b n 0 _ hb2 hn1 h64
      · exact grow_big b n 0 _ hb2 (by omega) HN.out
    clear hb hb2 c0
    go_enter Tryd.func73, Tryd.ntmps73
    go_wp2_with (first
      | (go_at_call 75; refine HT.out.mono ?_; rintro e w' ⟨rfl, hw⟩; obtain rfl := hw.symm; clear hw)
      | (go_at_call 76; refine HG.out.mono ?_; rintro e w1 ⟨rfl, hw⟩; have HW := hideIt hw; clear hw; refine Hid.out ?_))
    refine hideIt ?_
    obtain ⟨r, cap2, cells, hR⟩ := roomy_of_grew (ro := none) (bs := []) hbW HW.out
    obtain ⟨wF, hcp, hpost⟩ := HP.out r cap2 cells w1 hR
    have HR := hideIt hpost
    have c0 : w1.cell? ⟨b, 0, none⟩ = some (.slice (some ⟨r, 0, none⟩) n cap2) := by rw [Lib.cell_of_heap hR.1]; simp
    have hle : n ≤ cap2 := by have := hR.2.2.2.2.1; simpa using this
    have hmx : cap2 ≤ maxLen := hR.2.2.2.2.2.1
    unfold maxLen at hmx
    simp only [List.length_nil, Nat.sub_zero] at hcp
    clear hR hpost
    go_wp2
    go_ret2
    exact ⟨rfl, HR.out⟩
  · have hl := h1
    have d2 : w.cell? ⟨b, 2, none⟩ = some (.int .i8 lr) := by rw [Lib.cell_of_heap hb]; rfl
    have f2 : w.frozen? ⟨b, 2, none⟩ = false := Lib.frozen_of_heap hb 2
    have hb2 := set2 hb
    have c0 : (w.setCell ⟨b, 2, none⟩ (.int .i8 0)).cell? ⟨b, 0, none⟩ = some (.slice (some ⟨r, 0, none⟩) bs.length cap) := by rw [Lib.cell_of_heap hb2]; rfl
    have f0 : (w.setCell ⟨b, 2, none⟩ (.int .i8 0)).frozen? ⟨b, 0, none⟩ = false := Lib.frozen_of_heap hb2 0
    have hr2 : (w.setCell ⟨b, 2, none⟩ (.int .i8 0)).heap[r]? = some (.cells cur 5 (0, 0)) := by rw [Go.heap_setCell_other _ _ _ _ (by simpa using hrb)]; exact hr
    have hcm' := hcm
    unfold maxLen at hcm'
    by_cases hroom : n ≤ cap - bs.length
    · have HT := hideIt (Tryd.Buffer_tryGrow_room b _ bs.length cap n _ c0 f0 hlc hcm hroom)
      obtain ⟨w1, hw1⟩ : ∃ w1, w1 = (w.setCell ⟨b, 2, none⟩ (.int .i8 0)).setCell ⟨b, 0, none⟩ (.slice (some ⟨r, 0, none⟩) (bs.length + n) cap) := ⟨_, rfl⟩
      rw [← hw1] at HT
      have hR : Roomy w b (some r) bs n r cap cur w1 := by
        refine ⟨?_, ?_, hcs, htk, by omega, hcm, ?_, Or.inl rfl, hrb⟩
        · rw [hw1, Go.heap_setCell_same _ b 0 _ _ _ hb2]; rfl
        · rw [hw1, Go.heap_setCell_other _ _ _ _ (by simpa using hrb)]; exact hr2
        · rw [hw1]; exact Lib.grownBy_setB (Lib.grownBy_setCell w b 2 _) 0 _
      obtain ⟨wF, hcp, hpost⟩ := HP.out r cap cur w1 hR
      have HR := hideIt hpost
      have c1 : w1.cell? ⟨b, 0, none⟩ = some (.slice (some ⟨r, 0, none⟩) (bs.length + n) cap) := by rw [Lib.cell_of_heap hR.1]; rfl
      obtain ⟨l, hL⟩ : ∃ l, l = bs.length := ⟨_, rfl⟩
      rw [← hL] at HT hcp c1 hlc hroom hlim
      clear hR hpost hb hb2 c0 f0 hr2 hL hw1 hr htk
      go_enter Tryd.func73, Tryd.ntmps73
      go_wp2_with (go_at_call 75; refine HT.out.mono ?_; rintro e w' ⟨rfl, hw⟩; obtain rfl := hw.symm; clear hw)
      go_ret2
      exact ⟨rfl, HR.out⟩
    · have HT := hideIt (Tryd.Buffer_tryGrow_none b _ bs.length cap n _ c0 hlc hcm (by omega))
      have hone : ∀ v ∈ cur.toList.take bs.length, v.oneCell' = true := by rw [htk]; exact h1
      have hgr := grow_row b r bs.length cap n 0 cur _ hb2 hr2 hlc hcm hcs hone hn1 (by omega) hlim
      rw [htk] at hgr
      have HG := hideIt hgr
      have HRO : Hid (∀ w1, GrewTo (w.setCell ⟨b, 2, none⟩ (.int .i8 0)) b bs.length n 0 bs w1 → ∃ r' cap2 wF, (Builtin.copy_ #[30, 30] 3 #[.slice (some ⟨r', bs.length, none⟩) n (cap2 - bs.length), .slice (some a) n c]).run Tryd.prog w1 = .ok (goInt n) wF ∧ BufPost w b (some r) (bs ++ cs) wF ∧ w1.cell? ⟨b, 0, none⟩ = some (.slice (some ⟨r', 0, none⟩) (bs.length + n) cap2) ∧ bs.length + n ≤ cap2 ∧ cap2 ≤ maxLen) := by
        intro w1 hw
        obtain ⟨r', cap2, cells, hR⟩ := roomy_of_grew (ro := some r) (bs := bs) hbW hw
        obtain ⟨wF, hcp, hpost⟩ := HP.out r' cap2 cells w1 hR
        exact ⟨r', cap2, wF, hcp, hpost, by rw [Lib.cell_of_heap hR.1]; rfl, hR.2.2.2.2.1, hR.2.2.2.2.2.1⟩
      obtain ⟨l, hL⟩ : ∃ l, l = bs.length := ⟨_, rfl⟩
      rw [← hL] at HG HRO hlc hroom hlim
      clear hb hb2 c0 f0 hr2 hL hr htk hgr hone
      go_enter Tryd.func73, Tryd.ntmps73
      go_wp2_with (first
        | (go_at_call 75; refine HT.out.mono ?_; rintro e w' ⟨rfl, hw⟩; obtain rfl := hw.symm; clear hw)
        | (go_at_call 76; refine HG.out.mono ?_; rintro e w1 ⟨rfl, hw⟩; have HW := hideIt hw; clear hw; refine Hid.out ?_))
      refine hideIt ?_
      obtain ⟨r', cap2, wF, hcp, hpost, c0, hle, hmx⟩ := HRO.out w1 HW.out
      have HR := hideIt hpost
      unfold maxLen at hmx
      clear hpost
      go_wp2
      go_ret2
      exact ⟨rfl, HR.out⟩
end Go.Proofs.Qxb6608537aDoor
