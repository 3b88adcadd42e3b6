import Derived.Test.Qxb6608537aDoorBits
import Derived.Laws.MathBits
namespace Go.Proofs.Qxb6608537aDoor
open Go.RowKit
set_option linter.unusedVariables false

theorem and15_u64 (x : Nat) (h : x < 18446744073709551616) : bits .and .u64 (x : Int) 15 = ((x % 16 : Nat) : Int) := by
  have h0 : (0 : Int) ≤ x := by omega
  have h1 : (x : Int) < 18446744073709551616 := by omega
  have : bits .and .u64 (x : Int) 15 = (x : Int) % 16 := by go_bits2
  rw [this]; omega

/-- The byte of a digit. -/
def hexD (d : Nat) : Int := if d < 10 then 48 + d else 87 + d

/-- The digits, the greatest first. -/
def hexL (n : Nat) : List Value := if n < 16 then [.int .u8 (hexD n)] else hexL (n / 16) ++ [.int .u8 (hexD (n % 16))]
theorem hexL_small {n : Nat} (h : n < 16) : hexL n = [.int .u8 (hexD n)] := by unfold hexL; rw [if_pos h]
theorem hexL_big {n : Nat} (h : ¬ n < 16) : hexL n = hexL (n / 16) ++ [.int .u8 (hexD (n % 16))] := by
  conv => lhs; unfold hexL
  rw [if_neg h]
theorem hexL_len (n : Nat) (h : 0 < n) : (hexL n).length = hexN n := by
  induction n using Nat.strongRecOn with
  | ind n ih =>
    by_cases hs : n < 16
    · rw [hexL_small hs, hexN_pos h, show n / 16 = 0 by omega, hexN_zero]; rfl
    · rw [hexL_big hs, hexN_pos h, List.length_append, ih (n / 16) (by omega) (by omega)]; rfl
theorem hexL_one (n : Nat) : ∀ v ∈ hexL n, v.oneCell' = true := by
  induction n using Nat.strongRecOn with
  | ind n ih =>
    by_cases hs : n < 16
    · rw [hexL_small hs]; intro v hv; simp at hv; subst hv; rfl
    · rw [hexL_big hs]
      intro v hv
      rcases List.mem_append.1 hv with hv | hv
      · exact ih (n / 16) (by omega) v hv
      · simp at hv; subst hv; rfl
end Go.Proofs.Qxb6608537aDoor
