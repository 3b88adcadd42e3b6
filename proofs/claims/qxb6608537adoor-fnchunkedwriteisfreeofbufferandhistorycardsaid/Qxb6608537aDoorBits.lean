import Derived.Test.Qxb6608537aDoorGuard
namespace Go.Proofs.Qxb6608537aDoor
open Go.RowKit
set_option linter.unusedVariables false

set_option maxRecDepth 100000 in
theorem pow2_16 (w : World) : Calls Tryd.prog 49 #[.int .i64 16] w fun e w' => e = .returned (.bool true) ∧ w' = w := by
  go_enter Tryd.func49, Tryd.ntmps49
  go_wp2
  go_ret
  exact ⟨rfl, rfl⟩

set_option maxRecDepth 100000 in
theorem tz64_16 (w : World) (h : w.cell? ⟨5, 15, none⟩ = some (.int .u8 4)) : Calls Tryd.prog 53 #[.int .u64 16] w fun e w' => e = .returned (.int .i64 4) ∧ w' = w := by
  have b1 : IntKind.u64.wrap (-16) = 18446744073709551600 := by kernel_rfl
  have b2 : bits BinOp.and IntKind.u64 16 18446744073709551600 = 16 := by kernel_rfl
  have b3 : IntKind.u64.wrap 4573923408821661840 = 4573923408821661840 := by kernel_rfl
  go_enter Tryd.func53, Tryd.ntmps53
  go_wp2
  go_ret
  exact ⟨rfl, rfl⟩

set_option maxRecDepth 100000 in
theorem tz_16 (w : World) (h : w.cell? ⟨5, 15, none⟩ = some (.int .u8 4)) : Calls Tryd.prog 50 #[.int .u64 16] w fun e w' => e = .returned (.int .i64 4) ∧ w' = w := by
  have H := hideIt (tz64_16 w h)
  clear h
  go_enter Tryd.func50, Tryd.ntmps50
  go_wp2_with (go_at_call 53; refine H.out.mono ?_; rintro e w' ⟨rfl, hw⟩; obtain rfl := hw.symm; clear hw)
  go_ret
  exact ⟨rfl, rfl⟩
end Go.Proofs.Qxb6608537aDoor
