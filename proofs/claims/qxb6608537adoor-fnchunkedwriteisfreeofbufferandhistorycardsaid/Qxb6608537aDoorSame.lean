import Derived.Test.Qxb6608537aDoorSmall
namespace Go.Proofs.Qxb6608537aDoor
open Go.RowKit
set_option linter.unusedVariables false

/-- The bytes of a slice. -/
def Byts (w : World) (a : Option Addr) (len : Nat) (bs : Nat → Int) : Prop := len = 0 ∨ ∃ b off, a = some ⟨b, off, none⟩ ∧ ∀ i, i < len → w.cell? ⟨b, off + i, none⟩ = some (.int .u8 (bs i))

set_option maxRecDepth 100000 in
set_option maxHeartbeats 1000000 in
theorem same_any (a a' : Option Addr) (len c c' : Nat) (bs : Nat → Int) (w : World) (hl : len ≤ 1099511627776) (h : Byts w a len bs) (h' : Byts w a' len bs) :
    Calls Tryd.prog 16 #[.slice a len c, .slice a' len c'] w fun e w' => e = .returned (.bool true) ∧ ∃ n, w' = w.drewN n := by
  have H := hideIt h
  have H' := hideIt h'
  clear h h'
  go_enter Tryd.func16, Tryd.ntmps16
  go_wp2
  go_loopw [5] (fun i wr => ∃ (k n : Nat), k ≤ len ∧ i = .int .i64 k ∧ wr = w.drewN n) (fun i _ => len - (intOf i).toNat)
  case atStart => exact ⟨0, 0, Nat.zero_le _, rfl, rfl⟩
  case round =>
    obtain ⟨k, n, hk, rfl, rfl⟩ := hrel
    by_cases hlt : k < len
    · rcases H.out with h0 | ⟨b, off, rfl, hz⟩
      · omega
      · rcases H'.out with h0 | ⟨b', off', rfl, hz'⟩
        · omega
        · have hc := hz k hlt
          have hc' := hz' k hlt
          have hki : (k : Int) < (len : Int) := by omega
          clear hz hz' H H'
          go_wp2
          go_quiet (fail)
          go_wp2
          go_roundw
          case rel => exact ⟨k + 1, _, by omega, by go_num, rfl⟩
          case measure => simp [intOf]; omega
    · go_wp2
      go_ret
      exact ⟨rfl, n, rfl⟩
end Go.Proofs.Qxb6608537aDoor
