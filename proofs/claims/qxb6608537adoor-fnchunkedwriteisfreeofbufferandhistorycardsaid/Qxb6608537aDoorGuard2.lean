import Derived.Test.Qxb6608537aDoorCw
namespace Go.Proofs.Qxb6608537aDoor
open Go.RowKit
set_option linter.unusedVariables false

/-- What the guard says. -/
def GuardP (len : Nat) (tl : Nat → Nat) (e : Ending) : Prop := ∃ r : Bool, e = .returned (.bool r) ∧ (r = true → ∀ i, i < len → tl i ≤ 1048576)

set_option maxRecDepth 100000 in
set_option maxHeartbeats 2000000 in
theorem guard2_any (a : Option Addr) (len cap : Nat) (ta : Nat → Option Addr) (tl tc : Nat → Nat) (bs : Nat → Nat → Int) (x y : Value) (w : World) (hl : len ≤ maxLen) (h : Pieces w a len ta tl tc bs) :
    Calls Tryd.prog 10 #[.slice a len cap, x, y] w fun e w' => GuardP len tl e ∧ w' = w := by
  have HP := hideIt h
  clear h
  unfold maxLen at hl
  go_enter Tryd.func10, Tryd.ntmps10
  go_wp2
  all_goals first | (go_ret; exact ⟨⟨_, rfl, by simp⟩, rfl⟩) | skip
  go_loop [7, 8] (fun z i => ∃ (k : Nat) (q : Nat), k ≤ len ∧ i = .int .i64 k ∧ z = .int .i64 q ∧ q ≤ 1048576 ∧ ∀ i, i < k → tl i ≤ 1048576) (fun _ i => len - (intOf i).toNat)
  case atStart => exact ⟨0, len, Nat.zero_le _, rfl, by go_num, by omega, by omega⟩
  case round =>
    obtain ⟨k, q, hk, rfl, rfl, hq, hall⟩ := hrel
    have HA := hideIt hall
    clear hall
    by_cases hlt : k < len
    · rcases HP.out with h0 | ⟨b', off, rfl, hss⟩
      · omega
      · obtain ⟨hc, h1, h2, _⟩ := hss k hlt
        unfold maxLen at h2
        clear hss HP
        by_cases hbig : tl k ≤ 1048576
        · have hbi : (tl k : Int) ≤ 1048576 := by omega
          go_wp2
          all_goals first | (go_ret; exact ⟨⟨_, rfl, by simp⟩, rfl⟩) | skip
          go_round
          case rel => exact ⟨k + 1, q + tl k, by omega, by go_num, by go_num, by omega, fun i hi => by
              by_cases e : i = k
              · subst e; exact hbig
              · exact HA.out i (by omega)⟩
          case measure => simp [intOf]; omega
        · have hbi : ¬ (tl k : Int) ≤ 1048576 := by omega
          go_wp2
          go_ret
          exact ⟨⟨_, rfl, by simp⟩, rfl⟩
    · obtain rfl : k = len := by omega
      go_wp2
      go_ret
      exact ⟨⟨_, rfl, fun _ => HA.out⟩, rfl⟩
end Go.Proofs.Qxb6608537aDoor
