import Derived.Test.Qxb6608537aDoorApp
namespace Go.Proofs.Qxb6608537aDoor
open Go.RowKit
set_option linter.unusedVariables false

theorem St.kept {w w' : World} {b X g size n : Nat} {ro : Option Nat} {bs : List Value} {gc : Array Value} (h : St w b X g size n ro bs gc) (hk : ∀ k, k < w.heap.size → w'.heap[k]? = w.heap[k]?) : St w' b X g size n ro bs gc := by
  obtain ⟨hb, hX, hg⟩ := h.lt
  obtain ⟨q0, q1, q2, q3, q4, q5, q6, q7, a⟩ := h
  refine ⟨q0.kept (hk b hb) (fun r hr => ?_), (hk X hX).trans q1, (hk g hg).trans q2, q3, q4, q5, q6, q7, a⟩
  obtain ⟨_, lr, hq⟩ := q0
  rcases hq with ⟨e, _⟩ | ⟨r', cap, cur, e, _, _, hr', _⟩
  · rw [hr] at e; cases e
  · rw [hr] at e; cases e; exact hk r (Lib.lt_of_heap hr')

theorem St.roLt {w : World} {b X g size n : Nat} {ro : Option Nat} {bs : List Value} {gc : Array Value} (h : St w b X g size n ro bs gc) : ∀ r, ro = some r → r < w.heap.size := by
  intro r hr
  obtain ⟨⟨_, lr, hq⟩, _⟩ := h
  rcases hq with ⟨e, _⟩ | ⟨r', cap, cur, e, _, _, hr', _⟩
  · rw [hr] at e; cases e
  · rw [hr] at e; cases e; exact Lib.lt_of_heap hr'

theorem Fr.grown {w w' : World} (b X g : Nat) (ro : Option Nat) (h : w.grownBy w' none) : Fr b X g ro w w' :=
  ⟨h.os, h.tape, h.output, h.size, fun k hk _ _ _ _ => h.block k hk (by simp)⟩

theorem Fr.alloc (w : World) (b X g : Nat) (ro : Option Nat) (o : Obj) : Fr b X g ro w (w.alloc o) :=
  ⟨rfl, rfl, rfl, by simp, fun k hk _ _ _ _ => Below.heap_alloc w o k hk⟩

/-- 'append' in place. -/
theorem append_room {w : World} {g n size m : Nat} {gc : Array Value} (hg : w.heap[g]? = some (.cells gc 5 (0, 0))) (hsz : gc.size = size) (a : Addr) (c : Nat) (news : List Value) (hl : news.length = m) (hnews : ∀ j u, news[j]? = some u → w.cell? (a.add j) = some u) (h1 : ∀ u ∈ news, u.oneCell' = true) (hfit : n + m ≤ size) :
    (Builtin.append_ #[30, 30] 30 #[.slice (some ⟨g, n, none⟩) 0 (size - n), .slice (some a) m c]).run Tryd.prog w = .ok (.slice (some ⟨g, n, none⟩) m (size - n)) (w.setRow g (fillC gc n news)) := by
  obtain ⟨i, hi, hz0, hz1, hz2⟩ := info_parts Tryd.info5
  have hfc := run_firstCells_some (P := Tryd.prog) w i.size m a m c news (by rw [hz1]; omega) hnews
  have hst := run_storeCells_at (P := Tryd.prog) g n 5 news 0 gc w hg (by omega) h1
  simp only [Nat.add_zero] at hst
  have hroom : m ≤ size - n := by omega
  simp [Builtin.append_, run_underlying Tryd.underlying30, sizeOf, typeInfo, hi, Builtin.lenOf, hroom, hfc, Addr.add_lit, hst, fillC]

/-- Where the digits lie. -/
def Head (w : World) (b X g size n : Nat) (ro : Option Nat) (bs : List Value) (gc : Array Value) (p : Nat) (v : Value) (w' : World) : Prop :=
  ∃ gc', St w' b X g size n ro bs gc' ∧ gc'.toList.take n = gc.toList.take n ∧ Fr b X g ro w w' ∧
   ((n + hexN p ≤ size ∧ v = .slice (some ⟨g, n, none⟩) (hexN p) (size - n) ∧ (gc'.toList.drop n).take (hexN p) = hexL p) ∨
    (∃ pb pc, v = .slice (some ⟨pb, 0, none⟩) (hexN p) pc ∧ Src w' b X g ro pb 0 (hexL p) ∧ pb < w'.heap.size ∧ hexN p ≤ pc ∧ pc ≤ maxLen))

theorem hexN_one {p : Nat} (h : 0 < p) : 1 ≤ hexN p := by rw [hexN_pos h]; omega

theorem fillC_drop {gc : Array Value} {n : Nat} {cs : List Value} (h : n + cs.length ≤ gc.size) : ((fillC gc n cs).toList.drop n).take cs.length = cs := by
  have hl : (gc.toList.take n).length = n := by simp [List.length_take]; omega
  have : (fillC gc n cs).toList = gc.toList.take n ++ (cs ++ gc.toList.drop (n + cs.length)) := by unfold fillC; simp
  rw [this, List.drop_left' hl]
  exact List.take_left

theorem apd_any {w : World} {b X g size n : Nat} {ro : Option Nat} {bs : List Value} {gc : Array Value} (h : St w b X g size n ro bs gc) (p : Nat) (hp : 0 < p) (hp2 : p < 4294967296) :
    Apd (.slice (some ⟨g, if n = size then 0 else n, none⟩) 0 (size - n)) p w (Head w b X g size n ro bs gc p) := by
  intro c k hc hk hlen hdrop
  obtain ⟨W, hW⟩ : ∃ W, W = w.alloc (.cells c 88) := ⟨_, rfl⟩
  have hWs : W.heap.size = w.heap.size + 1 := by rw [hW]; simp
  have hkp : ∀ j, j < w.heap.size → W.heap[j]? = w.heap[j]? := fun j hj => by rw [hW]; exact Below.heap_alloc w _ j hj
  have hWn : W.heap[w.heap.size]? = some (.cells c 88 (0, 0)) := by rw [hW]; exact heap_alloc_new w _
  have hSt := h.kept hkp
  have hFr : Fr b X g ro w W := by rw [hW]; exact Fr.alloc w b X g ro _
  rw [← hW]
  have hsz := h.2.2.2.1
  have hns : n ≤ size := h.2.2.2.2.2.2.1
  have h1 := hexL_one p
  have hll := hexL_len p hp
  have hN := hexN_one hp
  have h8 := hexN_bound 8 p (by omega)
  have hsrc : ∀ j u, (hexL p)[j]? = some u → W.cell? ((⟨w.heap.size, k, none⟩ : Addr).add j) = some u := by
    intro j u hj
    have hadd : (⟨w.heap.size, k, none⟩ : Addr).add j = ⟨w.heap.size, k + j, none⟩ := by unfold Addr.add; split <;> simp_all
    rw [hadd, Lib.cell_of_heap hWn]
    rw [← hdrop, List.getElem?_drop] at hj
    simpa using hj
  rw [hlen]
  by_cases hfit : n + hexN p ≤ size
  · have hne : ¬ n = size := by omega
    rw [if_neg hne]
    have hrun := append_room (w := W) (n := n) hSt.2.2.1 hsz ⟨w.heap.size, k, none⟩ (hexN p) (hexL p) hll hsrc h1 hfit
    obtain ⟨s1, s2⟩ := hSt.filled (cs := hexL p) (by omega)
    refine ⟨_, _, hrun, fillC gc n (hexL p), s1, fillC_take0 (by omega), hFr.trans (Or.inl rfl) s2, Or.inl ⟨hfit, rfl, ?_⟩⟩
    rw [← hll]
    exact fillC_drop (by omega)
  · obtain ⟨i, hi, hz0, hz1, hz2⟩ := info_parts Tryd.info5
    obtain ⟨v', w', hrun, hown, hgr⟩ := run_append_arg_grows (P := Tryd.prog) W 30 30 5 i (.int .u8 0) 1 1 Tryd.underlying30 hi hz0 hz1 hz2 rfl (by decide) ⟨g, if n = size then 0 else n, none⟩ 0 (size - n) [] rfl (by simp) ⟨w.heap.size, k, none⟩ (hexN p) (hexN p) (hexL p) (by omega) hsrc (by omega) (by simp only [maxLen]; omega) (by omega)
    rw [Nat.zero_add, List.nil_append] at hown
    obtain ⟨hl, ho⟩ := hown
    rcases ho with ⟨_, h0⟩ | ⟨r, cap, cur, rfl, hr1, hr2, hr3, hr4, hr5, hr6⟩
    · omega
    refine ⟨_, _, hrun, gc, hSt.kept (fun j hj => hgr.block j hj (by simp)), rfl, hFr.trans (Or.inl rfl) (Fr.grown b X g ro hgr), Or.inr ⟨r, cap, rfl, ?_, Lib.lt_of_heap hr2, hr3, hr4⟩⟩
    obtain ⟨l1, l2, l3⟩ := hSt.lt
    have l4 := hSt.roLt
    refine ⟨by omega, by omega, by omega, ?_, ?_⟩
    · intro e; have := l4 r e.symm; omega
    · intro j u hj
      rw [Lib.cell_of_heap hr2, Nat.zero_add]
      rw [← hr6, List.getElem?_take] at hj
      split at hj
      · simpa using hj
      · cases hj

/-- The digits are written. -/
theorem wwrite_head {w w1 : World} {b X g size n : Nat} {ro : Option Nat} {bs : List Value} {gc : Array Value} {p : Nat} {v : Value} (hp : 0 < p) (hp2 : p < 4294967296) (hlim : (bs ++ gc.toList.take n).length ≤ 109951162777) (h : Head w b X g size n ro bs gc p v w1) :
    Calls Tryd.prog 19 #[.pointer (some ⟨X, 0, none⟩), v] w1 fun e w' => e = .returned (.tuple #[.int .i64 (hexN p), .nilIface]) ∧ Went w b X g size ro (bs ++ gc.toList.take n ++ hexL p) w' := by
  obtain ⟨gc', h1, h2, h3, h4⟩ := h
  have h8 := hexN_bound 8 p (by omega)
  rcases h4 with ⟨a1, rfl, a3⟩ | ⟨pb, pc, rfl, a2, a3, a4, a5⟩
  · have hc := wwrite_near b X g size n ro bs gc' (hexN p) w1 h1 (hexN_one hp) a1 (by rw [a3]; exact hexL_one p)
    refine hc.mono ?_
    rintro e w' ⟨rfl, hw⟩
    rw [a3, h2] at hw
    exact ⟨rfl, hw.next (Or.inl rfl) h3⟩
  · have hc := wwrite_far b X g size n ro bs gc' pb 0 (hexN p) pc (hexL p) w1 h1 a2 a3 (hexL_len p hp) (hexL_one p) (hexN_one hp) a4 a5 (by rw [h2]; omega)
    refine hc.mono ?_
    rintro e w' ⟨rfl, hw⟩
    rw [h2] at hw
    exact ⟨rfl, hw.next (Or.inl rfl) h3⟩
end Go.Proofs.Qxb6608537aDoor
