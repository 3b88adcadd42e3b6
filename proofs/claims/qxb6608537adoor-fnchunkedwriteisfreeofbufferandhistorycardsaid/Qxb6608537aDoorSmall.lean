import Derived.Test.Qxb6608537aDoorWrStr
namespace Go.Proofs.Qxb6608537aDoor
open Go.RowKit
set_option linter.unusedVariables false

/-- How many hexadecimal digits. -/
def hexN (n : Nat) : Nat := if n = 0 then 0 else hexN (n / 16) + 1
theorem hexN_zero : hexN 0 = 0 := by unfold hexN; rfl
theorem hexN_pos {n : Nat} (h : 0 < n) : hexN n = hexN (n / 16) + 1 := by
  conv => lhs; unfold hexN
  rw [if_neg (by omega)]
theorem hexN_le (n : Nat) : hexN n ≤ n := by
  induction n using Nat.strongRecOn with
  | ind n ih =>
    by_cases h : n = 0
    · rw [h, hexN_zero]; exact Nat.le_refl _
    · rw [hexN_pos (by omega)]
      have := ih (n / 16) (by omega)
      omega

set_option maxRecDepth 100000 in
set_option maxHeartbeats 1000000 in
theorem hexdigits_any (n : Nat) (w : World) (hn : n ≤ 1099511627776) : Calls Tryd.prog 15 #[.int .i64 n] w fun e w' => e = .returned (.int .i64 (hexN n)) ∧ w' = w := by
  have hle := hexN_le n
  go_enter Tryd.func15, Tryd.ntmps15
  go_wp2
  go_loop [0, 3] (fun x c => ∃ (m k : Nat), m ≤ n ∧ x = .int .i64 m ∧ c = .int .i64 k ∧ k + hexN m = hexN n) (fun x _ => (intOf x).toNat)
  case atStart => exact ⟨n, 0, Nat.le_refl _, rfl, rfl, Nat.zero_add _⟩
  case round =>
    obtain ⟨m, k, hm, rfl, rfl, hk⟩ := hrel
    by_cases h0 : 0 < m
    · have h0' : 0 < (m : Int) := by omega
      have hp := hexN_pos h0
      have HK := hideIt hk
      have HP := hideIt hp
      have hkb : k ≤ n := by omega
      clear hk hp
      go_wp2
      go_round
      case rel => exact ⟨m / 16, k + 1, by omega, by go_num, by go_num, by have := HK.out; have := HP.out; omega⟩
      case measure => simp [intOf]; omega
    · obtain rfl : m = 0 := by omega
      have hz := hexN_zero
      go_wp2
      go_ret
      exact ⟨by rw [← hk, hz]; rfl, rfl⟩
end Go.Proofs.Qxb6608537aDoor
