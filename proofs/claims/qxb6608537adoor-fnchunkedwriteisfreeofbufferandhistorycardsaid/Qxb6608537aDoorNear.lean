import Derived.Test.Qxb6608537aDoorWrite
namespace Go.Proofs.Qxb6608537aDoor
open Go.RowKit
set_option linter.unusedVariables false

theorem near_cells {gc : Array Value} {n pn g : Nat} {w : World} (hg : w.heap[g]? = some (.cells gc 5 (0, 0))) : ∀ j v, ((gc.toList.drop n).take pn)[j]? = some v → w.cell? ((⟨g, n, none⟩ : Addr).add j) = some v := by
  intro j v hj
  have hadd : (⟨g, n, none⟩ : Addr).add j = ⟨g, n + j, none⟩ := by unfold Addr.add; split <;> simp_all
  rw [hadd, Lib.cell_of_heap hg]
  rw [List.getElem?_take] at hj
  split at hj
  · rw [List.getElem?_drop] at hj; rw [← hj]; exact (Array.getElem?_toList ..).symm
  · cases hj

set_option maxRecDepth 100000 in
set_option maxHeartbeats 8000000 in
/-- THE WRITE OF WHAT LIES IN THE WRITER's OWN ROW, BEHIND WHAT WAITS. -/
theorem wwrite_near (b X g size n : Nat) (ro : Option Nat) (bs : List Value) (gc : Array Value) (pn : Nat) (w : World) (h : St w b X g size n ro bs gc) (hpn : 1 ≤ pn) (hfit : n + pn ≤ size) (h1c : ∀ v ∈ (gc.toList.drop n).take pn, v.oneCell' = true) :
    Calls Tryd.prog 19 #[.pointer (some ⟨X, 0, none⟩), .slice (some ⟨g, n, none⟩) pn (size - n)] w fun e w' => e = .returned (.tuple #[.int .i64 pn, .nilIface]) ∧ Went w b X g size ro (bs ++ gc.toList.take n ++ (gc.toList.drop n).take pn) w' := by
  have HV := hideIt h
  have hX := h.2.1
  have hns : n ≤ size := h.2.2.2.2.2.2.1
  have hsz : size ≤ 65536 := h.2.2.2.2.2.1
  have hgs : gc.size = size := h.2.2.2.1
  obtain ⟨part, hpart⟩ : ∃ part, part = (gc.toList.drop n).take pn := ⟨_, rfl⟩
  rw [← hpart] at h1c ⊢
  have hpl : part.length = pn := by rw [hpart, List.length_take, List.length_drop]; simp; omega
  have H26 := hideIt (avail_any b X g size n w hX hsz hns)
  have hD0 : ∀ k, (w.drewN k).cell? ⟨X, 0, none⟩ = some .nilIface := fun k => by rw [Lib.cell_of_heap (w := w.drewN k) hX]; rfl
  have hD1 : ∀ k, (w.drewN k).cell? ⟨X, 1, none⟩ = some (.slice (some ⟨g, 0, none⟩) size size) := fun k => by rw [Lib.cell_of_heap (w := w.drewN k) hX]; rfl
  have hD2 : ∀ k, (w.drewN k).cell? ⟨X, 2, none⟩ = some (.int .i64 n) := fun k => by rw [Lib.cell_of_heap (w := w.drewN k) hX]; rfl
  have HC : Hid (∀ k, ∃ wF, (Builtin.copy_ #[30, 30] 3 #[.slice (some ⟨g, n, none⟩) (size - n) (size - n), .slice (some ⟨g, n, none⟩) pn (size - n)]).run Tryd.prog (w.drewN k) = .ok (goInt (pn : Int)) wF ∧ St wF b X g size n ro bs (fillC gc n part) ∧ Fr b X g ro (w.drewN k) wF) := fun k => by
    have hh := HV.out.drewN k
    have hr := copy_in hh (cs := part) (by omega) h1c ⟨g, n, none⟩ pn (size - n) (by rw [hpl]; exact (Nat.min_eq_left (by omega)).symm) (by rw [hpart]; exact near_cells hh.2.2.1)
    rw [hpl] at hr
    exact ⟨_, hr, (hh.filled (cs := part) (by omega)).1, (hh.filled (cs := part) (by omega)).2⟩
  have HT := hideIt (fillC_take (gc := gc) (n := n) (cs := part) (by omega))
  have hbi : ¬ (size : Int) - n < (pn : Int) := by omega
  have hlt' : n < size := by omega
  have hli : (n : Int) < size := by omega
  have hsub : ¬ size - n = 0 := by omega
  have hne : ¬ size = n := by omega
  have HP := hideIt hpart
  clear h hX hpart
  go_enter Tryd.func19, Tryd.ntmps19
  go_wp2
  go_loopw [1, 4] (fun p nn wr => p = .slice (some ⟨g, n, none⟩) pn (size - n) ∧ nn = .int .i64 0 ∧ wr = w) (fun _ _ _ => 0)
  case atStart => exact ⟨rfl, rfl, rfl⟩
  case round =>
    obtain ⟨rfl, rfl, rfl⟩ := hrel
    go_wp2_with (first
      | (go_at_call 26; refine H26.out.mono ?_; rintro e w' ⟨rfl, k26, hw⟩; subst hw))
    obtain ⟨wF, hcp, hSt, hFr⟩ := HC.out (k26 + 1)
    have HSF := hideIt (And.intro hSt hFr)
    have e2 : wF.cell? ⟨X, 2, none⟩ = some (.int .i64 n) := by rw [Lib.cell_of_heap hSt.2.1]; rfl
    have g2 : wF.frozen? ⟨X, 2, none⟩ = false := Lib.frozen_of_heap hSt.2.1 2
    clear hSt hFr
    go_region
    go_wp2
    go_ret2
    have hz : (n : Int) + (pn : Int) = ((n + pn : Nat) : Int) := by omega
    have ht : (fillC gc n part).toList.take (n + pn) = gc.toList.take n ++ part := by have := HT.out; rw [hpl] at this; exact this
    refine ⟨rfl, ?_⟩
    rw [hz]
    refine ⟨n + pn, ro, bs, fillC gc n part, HSF.out.1.setN _ (by omega) ?_, ?_, Or.inl rfl, HSF.out.2.setX 2 _⟩
    · rw [ht]
      intro v hv
      rcases List.mem_append.1 hv with hv | hv
      · exact HV.out.2.2.2.2.2.2.2.1 v hv
      · exact h1c v hv
    · rw [ht, List.append_assoc]
end Go.Proofs.Qxb6608537aDoor
