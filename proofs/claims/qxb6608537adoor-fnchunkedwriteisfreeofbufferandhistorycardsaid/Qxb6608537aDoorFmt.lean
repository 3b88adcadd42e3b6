import Derived.Test.Qxb6608537aDoorHex
namespace Go.Proofs.Qxb6608537aDoor
open Go.RowKit
set_option linter.unusedVariables false

theorem hexIx (d : Nat) (h : d < 16) (W : World) : (Instr.index 9 (.string ⟨#[48, 49, 50, 51, 52, 53, 54, 55, 56, 57, 97, 98, 99, 100, 101, 102, 103, 104, 105, 106, 107, 108, 109, 110, 111, 112, 113, 114, 115, 116, 117, 118, 119, 120, 121, 122]⟩) (.int .u64 (d : Int))).run Tryd.prog W = .ok (.int .u8 (hexD d)) W :=
  match d, h with
  | 0, _ => by kernel_rfl
  | 1, _ => by kernel_rfl
  | 2, _ => by kernel_rfl
  | 3, _ => by kernel_rfl
  | 4, _ => by kernel_rfl
  | 5, _ => by kernel_rfl
  | 6, _ => by kernel_rfl
  | 7, _ => by kernel_rfl
  | 8, _ => by kernel_rfl
  | 9, _ => by kernel_rfl
  | 10, _ => by kernel_rfl
  | 11, _ => by kernel_rfl
  | 12, _ => by kernel_rfl
  | 13, _ => by kernel_rfl
  | 14, _ => by kernel_rfl
  | 15, _ => by kernel_rfl
  | k + 16, h => absurd h (by omega)
end Go.Proofs.Qxb6608537aDoor
