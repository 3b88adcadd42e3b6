import Derived.Test.Qxb6608537aDoorNew
namespace Go.Proofs.Qxb6608537aDoor
open Go.RowKit
set_option linter.unusedVariables false

/-- A fresh writer. -/
def Fresh (w : World) (e : Ending) (w' : World) : Prop :=
  ∃ b X g size gc, e = .returned (.tuple #[.agg #[.pointer (some ⟨X, 0, none⟩)], .pointer (some ⟨b, 0, none⟩)]) ∧ St w' b X g size 0 none [] gc ∧ Below w.heap.size w w' ∧ w.heap.size ≤ b ∧ w.heap.size ≤ X ∧ w.heap.size ≤ g

set_option maxRecDepth 100000 in
set_option maxHeartbeats 1000000 in
theorem newchunked_any (z : Int) (w : World) (hz : z ≤ 65536) : Calls Tryd.prog 11 #[.int .i64 z] w fun e w' => Fresh w e w' := by
  have H18 : Hid (∀ b W, Calls Tryd.prog 18 #[.iface 34 (.pointer (some ⟨b, 0, none⟩)), .int .i64 z] W fun e w' => NewPost b W e w') := fun b W => newwriter_any b z W hz
  go_enter Tryd.func11, Tryd.ntmps11
  go_wp2_with (go_at_call 18; refine (H18.out _ _).mono ?_; rintro e w' ⟨size, M, hs1, hs2, hM, rfl, rfl⟩)
  obtain ⟨W1, hW1⟩ : ∃ W1, W1 = w.alloc (.cells #[.pointer (some ⟨w.heap.size + 1 + 1 + 1, 0, none⟩)] 33) := ⟨_, rfl⟩
  obtain ⟨W2, hW2⟩ : ∃ W2, W2 = W1.alloc (.cells #[.slice none 0 0, .int .i64 0, .int .i8 0] 46) := ⟨_, rfl⟩
  obtain ⟨W3, hW3⟩ : ∃ W3, W3 = W2.alloc (.cells M 5) := ⟨_, rfl⟩
  obtain ⟨W4, hW4⟩ : ∃ W4, W4 = W3.alloc (.cells (wrC (w.heap.size + 1) (w.heap.size + 1 + 1) size 0) 53) := ⟨_, rfl⟩
  rw [← hW1, ← hW2, ← hW3, ← hW4]
  have s1 : W1.heap.size = w.heap.size + 1 := by rw [hW1]; simp
  have s2 : W2.heap.size = w.heap.size + 2 := by rw [hW2]; simp [s1]
  have s3 : W3.heap.size = w.heap.size + 3 := by rw [hW3]; simp [s2]
  have k3 : ∀ k, k < w.heap.size + 3 → W4.heap[k]? = W3.heap[k]? := fun k hk => by rw [hW4]; exact Below.heap_alloc _ _ _ (by omega)
  have k2 : ∀ k, k < w.heap.size + 2 → W3.heap[k]? = W2.heap[k]? := fun k hk => by rw [hW3]; exact Below.heap_alloc _ _ _ (by omega)
  have k1 : ∀ k, k < w.heap.size + 1 → W2.heap[k]? = W1.heap[k]? := fun k hk => by rw [hW2]; exact Below.heap_alloc _ _ _ (by omega)
  have hX : W4.heap[w.heap.size + 3]? = some (.cells (wrC (w.heap.size + 1) (w.heap.size + 1 + 1) size 0) 53 (0, 0)) := by rw [hW4, ← s3]; exact heap_alloc_new _ _
  have hg : W4.heap[w.heap.size + 2]? = some (.cells M 5 (0, 0)) := by rw [k3 _ (by omega), hW3, ← s2]; exact heap_alloc_new _ _
  have hb : W4.heap[w.heap.size + 1]? = some (.cells #[.slice none 0 0, .int .i64 0, .int .i8 0] 46 (0, 0)) := by rw [k3 _ (by omega), k2 _ (by omega), hW2, ← s1]; exact heap_alloc_new _ _
  have hr : W4.heap[w.heap.size]? = some (.cells #[.pointer (some ⟨w.heap.size + 3, 0, none⟩)] 33 (0, 0)) := by rw [k3 _ (by omega), k2 _ (by omega), k1 _ (by omega), hW1]; exact heap_alloc_new _ _
  have hbel : Below w.heap.size w W4 := by
    rw [hW4, hW3, hW2, hW1]
    exact ((((Below.refl _ w).alloc (Nat.le_refl _) _).alloc (by simp) _).alloc (by simp; omega) _).alloc (by simp; omega) _
  have hc : W4.cell? ⟨w.heap.size, 0, none⟩ = some (.pointer (some ⟨w.heap.size + 3, 0, none⟩)) := by rw [Lib.cell_of_heap hr]; rfl
  have hfr : Fresh w (.returned (.tuple #[.agg #[.pointer (some ⟨w.heap.size + 3, 0, none⟩)], .pointer (some ⟨w.heap.size + 1, 0, none⟩)])) W4 :=
    ⟨w.heap.size + 1, w.heap.size + 3, w.heap.size + 2, size, M, rfl, ⟨⟨by simp, 0, Or.inl ⟨rfl, rfl, hb⟩⟩, hX, hg, hM, hs1, hs2, Nat.zero_le _, by simp, by omega, by omega, by omega, by simp, by simp⟩, hbel, by omega, by omega, by omega⟩
  refine bodyPost_ret (v := .tuple #[.agg #[.pointer (some ⟨w.heap.size + 3, 0, none⟩)], .pointer (some ⟨w.heap.size + 1, 0, none⟩)]) ?_ rfl hfr
  clear hfr hbel hr hb hg hX k1 k2 k3
  simp [results, Tryd.results11, go_sem, hc]
end Go.Proofs.Qxb6608537aDoor
