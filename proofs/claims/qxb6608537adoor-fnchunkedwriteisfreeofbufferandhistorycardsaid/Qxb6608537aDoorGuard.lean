import Derived.Test.Qxb6608537aDoorNewC
namespace Go.Proofs.Qxb6608537aDoor
open Go.RowKit
set_option linter.unusedVariables false

/-- THE PIECES. -/
def Pieces (w : World) (a : Option Addr) (len : Nat) (ta : Nat → Option Addr) (tl tc : Nat → Nat) (bs : Nat → Nat → Int) : Prop :=
  len = 0 ∨ ∃ b off, a = some ⟨b, off, none⟩ ∧ ∀ i, i < len → w.cell? ⟨b, off + i, none⟩ = some (.slice (ta i) (tl i) (tc i)) ∧ tl i ≤ tc i ∧ tc i ≤ maxLen ∧ Byts w (ta i) (tl i) (bs i)

def IsB (e : Ending) : Prop := ∃ r : Bool, e = .returned (.bool r)

set_option maxRecDepth 100000 in
set_option maxHeartbeats 2000000 in
theorem guard_any (a : Option Addr) (len cap : Nat) (ta : Nat → Option Addr) (tl tc : Nat → Nat) (bs : Nat → Nat → Int) (x y : Value) (w : World) (hl : len ≤ maxLen) (h : Pieces w a len ta tl tc bs) :
    Calls Tryd.prog 10 #[.slice a len cap, x, y] w fun e w' => IsB e ∧ w' = w := by
  have HP := hideIt h
  clear h
  unfold maxLen at hl
  go_enter Tryd.func10, Tryd.ntmps10
  go_wp2
  all_goals first | (go_ret; exact ⟨⟨_, rfl⟩, rfl⟩) | skip
  go_loop [7, 8] (fun z i => ∃ (k : Nat) (q : Int), k ≤ len ∧ i = .int .i64 k ∧ z = .int .i64 q) (fun _ i => len - (intOf i).toNat)
  case atStart => exact ⟨0, _, Nat.zero_le _, rfl, rfl⟩
  case round =>
    obtain ⟨k, q, hk, rfl, rfl⟩ := hrel
    by_cases hlt : k < len
    · rcases HP.out with h0 | ⟨b', off, rfl, hss⟩
      · omega
      · obtain ⟨hc, h1, h2, _⟩ := hss k hlt
        unfold maxLen at h2
        clear hss HP
        go_wp2
        all_goals first | (go_ret; exact ⟨⟨_, rfl⟩, rfl⟩) | skip
        go_round
        case rel => exact ⟨k + 1, _, by omega, by go_num, rfl⟩
        case measure => simp [intOf]; omega
    · go_wp2
      go_ret
      exact ⟨⟨_, rfl⟩, rfl⟩
end Go.Proofs.Qxb6608537aDoor
