import Derived.Test.Qxb6608537aDoorBufio
namespace Go.Proofs.Qxb6608537aDoor
open Go.RowKit
set_option linter.unusedVariables false

theorem meth_write (p : Option Addr) (W : World) : (method 228 34 (.pointer p) "Write").run Tryd.prog W = .ok (73, .pointer p) W := by kernel_rfl
theorem ent73 (args : Array Value) (W : World) : (callFunc 73 args).run Tryd.prog W = .ok (.enter 73 args) W := by kernel_rfl

theorem Buf.kept {w w' : World} {b : Nat} {ro : Option Nat} {bs : List Value} (h : Buf w b ro bs) (hb : w'.heap[b]? = w.heap[b]?) (hr : ∀ r, ro = some r → w'.heap[r]? = w.heap[r]?) : Buf w' b ro bs := by
  obtain ⟨h1, lr, h⟩ := h
  refine ⟨h1, lr, ?_⟩
  rcases h with ⟨a1, a2, a3⟩ | ⟨r, cap, cur, a1, a2, a3, a4, a5⟩
  · exact Or.inl ⟨a1, a2, hb.trans a3⟩
  · exact Or.inr ⟨r, cap, cur, a1, a2, hb.trans a3, (hr r a1).trans a4, a5⟩

theorem wrSet2 {w : World} {b X g size n : Nat} (h : w.heap[X]? = some (.cells (wrC b g size n) 53 (0, 0))) (m : Nat) : (w.setCell ⟨X, 2, none⟩ (.int .i64 m)).heap[X]? = some (.cells (wrC b g size m) 53 (0, 0)) := by
  rw [Go.heap_setCell_same w X 2 _ _ _ h]; rfl

theorem St.lt {w : World} {b X g size n : Nat} {ro : Option Nat} {bs : List Value} {gc : Array Value} (h : St w b X g size n ro bs gc) : b < w.heap.size ∧ X < w.heap.size ∧ g < w.heap.size := by
  obtain ⟨⟨_, lr, hb⟩, hX, hg, _⟩ := h
  refine ⟨?_, Lib.lt_of_heap hX, Lib.lt_of_heap hg⟩
  rcases hb with ⟨_, _, hb⟩ | ⟨r, cap, cur, _, _, hb, _⟩ <;> exact Lib.lt_of_heap hb

/-- The writer behind a write into its buffer. -/
theorem St.wrote {w w1 : World} {b X g size n : Nat} {ro : Option Nat} {bs bs' : List Value} {gc : Array Value} (h : St w b X g size n ro bs gc) (hp : BufPost w b ro bs' w1) :
    ∃ ro', St w1 b X g size n ro' bs' gc ∧ NewRow w ro ro' ∧ Fr b X g ro w w1 := by
  obtain ⟨hb, hX, hg⟩ := h.lt
  obtain ⟨q0, q1, q2, q3, q4, q5, q6, q7, a1, a2, a3, a4, a5⟩ := h
  obtain ⟨ro', p1, p2, p3, p4, p5, p6, p7⟩ := hp
  refine ⟨ro', ⟨p1, (p7 X hX (Ne.symm a1) (Ne.symm a4)).trans q1, (p7 g hg (Ne.symm a2) (Ne.symm a5)).trans q2, q3, q4, q5, q6, q7, a1, a2, a3, ?_, ?_⟩, ?_, p3, p4, p5, p6, fun k hk kb kX kg kr => p7 k hk kb kr⟩
  · rcases p2 with rfl | rfl
    · exact a4
    · intro e; cases e; omega
  · rcases p2 with rfl | rfl
    · exact a5
    · intro e; cases e; omega
  · rcases p2 with rfl | rfl
    · exact Or.inl rfl
    · exact Or.inr ⟨_, rfl, Nat.le_refl _⟩

/-- 'b.n = m'. -/
theorem St.setN {w : World} {b X g size n : Nat} {ro : Option Nat} {bs : List Value} {gc : Array Value} (h : St w b X g size n ro bs gc) (m : Nat) (hm : m ≤ size) (h1 : ∀ v ∈ gc.toList.take m, v.oneCell' = true) : St (w.setCell ⟨X, 2, none⟩ (.int .i64 m)) b X g size m ro bs gc := by
  obtain ⟨q0, q1, q2, q3, q4, q5, q6, q7, a1, a2, a3, a4, a5⟩ := h
  refine ⟨q0.kept (Go.heap_setCell_other _ _ _ _ (by simpa using a1)) (fun r hr => Go.heap_setCell_other _ _ _ _ (by rintro rfl; exact a4 hr)), wrSet2 q1 m, ?_, q3, q4, q5, hm, h1, a1, a2, a3, a4, a5⟩
  rw [Go.heap_setCell_other _ _ _ _ (by simpa using Ne.symm a3)]; exact q2

theorem Fr.setX {b X g : Nat} {ro : Option Nat} {w w' : World} (h : Fr b X g ro w w') (i : Nat) (v : Value) : Fr b X g ro w (w'.setCell ⟨X, i, none⟩ v) := by
  obtain ⟨a1, a2, a3, a4, a5⟩ := h
  refine ⟨a1, a2, a3, by simpa [World.setCell] using a4, fun k hk kb kX kg kr => ?_⟩
  rw [Go.heap_setCell_other _ _ _ _ (by simpa using kX)]
  exact a5 k hk kb kX kg kr

theorem take_cells (gc : Array Value) (n : Nat) (w : World) (g : Nat) (hg : w.heap[g]? = some (.cells gc 5 (0, 0))) : ∀ j v, (gc.toList.take n)[j]? = some v → w.cell? ((⟨g, 0, none⟩ : Addr).add j) = some v := by
  intro j v hj
  have hadd : (⟨g, 0, none⟩ : Addr).add j = ⟨g, j, none⟩ := by unfold Addr.add; split <;> simp_all
  rw [hadd, Lib.cell_of_heap hg]
  rw [List.getElem?_take] at hj
  split at hj
  · rw [← hj]; exact (Array.getElem?_toList ..).symm
  · cases hj

set_option maxRecDepth 100000 in
set_option maxHeartbeats 4000000 in
theorem flush_any (b X g size n : Nat) (ro : Option Nat) (bs : List Value) (gc : Array Value) (w : World) (h : St w b X g size n ro bs gc) (hlim : bs.length + n ≤ 140737488355328) :
    Calls Tryd.prog 13 #[.pointer (some ⟨X, 0, none⟩)] w fun e w' => e = .returned .nilIface ∧ ∃ ro', St w' b X g size 0 ro' (bs ++ gc.toList.take n) gc ∧ NewRow w ro ro' ∧ Fr b X g ro w w' := by
  have hX := h.2.1
  have c0 : w.cell? ⟨X, 0, none⟩ = some .nilIface := by rw [Lib.cell_of_heap hX]; rfl
  have c1 : w.cell? ⟨X, 1, none⟩ = some (.slice (some ⟨g, 0, none⟩) size size) := by rw [Lib.cell_of_heap hX]; rfl
  have c2 : w.cell? ⟨X, 2, none⟩ = some (.int .i64 n) := by rw [Lib.cell_of_heap hX]; rfl
  have c3 : w.cell? ⟨X, 3, none⟩ = some (.iface 34 (.pointer (some ⟨b, 0, none⟩))) := by rw [Lib.cell_of_heap hX]; rfl
  have HS := hideIt h
  have hns : n ≤ size := h.2.2.2.2.2.2.1
  have hsz : size ≤ 65536 := h.2.2.2.2.2.1
  clear hX
  by_cases hn0 : n = 0
  · subst hn0
    clear h
    go_enter Tryd.func13, Tryd.ntmps13
    go_wp2
    go_ret
    exact ⟨rfl, ro, by simpa using HS.out, Or.inl rfl, Fr.refl _ _ _ _ _⟩
  · have hn1 : 1 ≤ n := by omega
    have hnz : ¬ (n : Int) = 0 := by omega
    have hlen : (gc.toList.take n).length = n := by rw [List.length_take]; have := h.2.2.2.1; simp [this]; omega
    have HW := hideIt (bwrite_any b ro bs (gc.toList.take n) ⟨g, 0, none⟩ n size w.drew h.drew.1 hlen hn1 (Ne.symm h.2.2.2.2.2.2.2.2.2.1) (take_cells gc n w.drew g h.2.2.1) h.2.2.2.2.2.2.2.1 hlim)
    clear h hlen
    have hm := meth_write
    have he := ent73
    go_enter Tryd.func13, Tryd.ntmps13
    go_wp2
    go_region_with (
      go_at_call 73
      refine HW.out.mono ?_
      rintro e w1 ⟨rfl, hp⟩
      have HP := hideIt (HS.out.drew.wrote hp)
      clear hp
      have hX1 : w1.heap[X]? = some (.cells (wrC b g size n) 53 (0, 0)) := by obtain ⟨ro', q, _⟩ := HP.out; exact q.2.1
      have d2 : w1.cell? ⟨X, 2, none⟩ = some (.int .i64 n) := by rw [Lib.cell_of_heap hX1]; rfl
      have f2 : w1.frozen? ⟨X, 2, none⟩ = false := Lib.frozen_of_heap hX1 2
      clear hX1)
    all_goals
      go_wp2
      go_ret
      obtain ⟨ro', q1, q2, q3⟩ := HP.out
      exact ⟨rfl, ro', q1.setN 0 (Nat.zero_le _) (by simp), q2, q3.setX 2 _⟩
end Go.Proofs.Qxb6608537aDoor
