import Derived.Test.Qxb6608537aDoorFmt
namespace Go.Proofs.Qxb6608537aDoor
open Go.RowKit
set_option linter.unusedVariables false

/-- The digits' array behind k digits. -/
def Dig (n : Nat) (c : Array Value) (i u : Nat) : Prop := c.size = 65 ∧ i ≤ 65 ∧ (65 - i) + hexN u = hexN n ∧ 0 < u ∧ hexL n = hexL u ++ c.toList.drop i

theorem hexN_bound : ∀ (k n : Nat), n < 16 ^ k → hexN n ≤ k
  | 0, n, h => by rw [show n = 0 by simp at h; omega, hexN_zero]; exact Nat.le_refl _
  | k + 1, n, h => by
    by_cases h0 : 0 < n
    · rw [hexN_pos h0]
      have := hexN_bound k (n / 16) (by rw [Nat.pow_succ] at h; omega)
      omega
    · rw [show n = 0 by omega, hexN_zero]; omega

theorem drop_set {c : Array Value} {i : Nat} (h : i < c.size) (v : Value) : (c.setIfInBounds i v).toList.drop i = v :: c.toList.drop (i + 1) := by
  rw [Array.toList_setIfInBounds]
  have hl : i < (c.toList.set i v).length := by simpa using h
  rw [List.drop_eq_getElem_cons hl, List.getElem_set_self, List.drop_set_of_lt (by omega)]

theorem Dig.next {n i u : Nat} {c : Array Value} (h : Dig n c (i + 1) u) (hu : ¬ u < 16) : Dig n (c.setIfInBounds i (.int .u8 (hexD (u % 16)))) i (u / 16) := by
  obtain ⟨h1, h2, h3, h4, h5⟩ := h
  refine ⟨by simpa using h1, by omega, ?_, by omega, ?_⟩
  · rw [hexN_pos h4] at h3; omega
  · rw [drop_set (by omega), h5, hexL_big hu, List.append_assoc]; rfl

end Go.Proofs.Qxb6608537aDoor
