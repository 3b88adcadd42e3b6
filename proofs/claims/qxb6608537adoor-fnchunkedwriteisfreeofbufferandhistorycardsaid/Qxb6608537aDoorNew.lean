import Derived.Test.Qxb6608537aDoorSame
namespace Go.Proofs.Qxb6608537aDoor
open Go.RowKit
set_option linter.unusedVariables false

theorem tassert31 (p : Option Addr) (W : World) : (Instr.typeAssert (.iface 34 (.pointer p)) 51 31 true).run Tryd.prog W = .ok (.tuple #[.pointer none, .bool false]) W := by kernel_rfl

theorem make_row (n : Nat) (hn : n ≤ 65536) : ∃ M : Array Value, M.size = n ∧ ∀ W : World, (Instr.makeSlice 30 (.int .i64 (n : Int)) (.int .i64 (n : Int))).run Tryd.prog W = .ok (.slice (some ⟨W.heap.size, 0, none⟩) n n) (W.alloc (.cells M 5)) := by
  obtain ⟨i0, hi, hz0, hz1, hz2⟩ := info_parts Tryd.info5
  refine ⟨madeCells (Value.int .u8 0).cells ((n : Int).toNat * i0.size), by rw [size_madeCells, hz1]; simp, fun W => ?_⟩
  have h := run_makeSlice (P := Tryd.prog) W 30 5 i0 (.int .u8 0) Tryd.underlying30 hi hz0 .i64 .i64 (n : Int) n (by omega) (by omega) (by rw [hz1]; omega) (by rw [hz2]; omega) (by omega)
  simpa using h

/-- What NewWriterSize leaves. -/
def NewPost (b : Nat) (w : World) (e : Ending) (w' : World) : Prop :=
  ∃ (size : Nat) (M : Array Value), 1 ≤ size ∧ size ≤ 65536 ∧ M.size = size ∧ e = .returned (.pointer (some ⟨w.heap.size + 1, 0, none⟩)) ∧ w' = (w.alloc (.cells M 5)).alloc (.cells (wrC b w.heap.size size 0) 53)

set_option maxRecDepth 100000 in
set_option maxHeartbeats 1000000 in
theorem newwriter_any (b : Nat) (z : Int) (w : World) (hz : z ≤ 65536) :
    Calls Tryd.prog 18 #[.iface 34 (.pointer (some ⟨b, 0, none⟩)), .int .i64 z] w fun e w' => NewPost b w e w' := by
  have hta := tassert31
  by_cases h0 : z ≤ 0
  · obtain ⟨M, hM, hmk0⟩ := make_row 4096 (by omega)
    have hmk : ∀ W : World, (Instr.makeSlice 30 (.int .i64 4096) (.int .i64 4096)).run Tryd.prog W = .ok (.slice (some ⟨W.heap.size, 0, none⟩) 4096 4096) (W.alloc (.cells M 5)) := hmk0
    clear hmk0
    go_enter Tryd.func18, Tryd.ntmps18
    go_wp2
    go_ret
    exact ⟨4096, M, by omega, by omega, hM, rfl, rfl⟩
  · obtain ⟨k, rfl⟩ : ∃ k : Nat, z = k := ⟨z.toNat, by omega⟩
    obtain ⟨M, hM, hmk⟩ := make_row k (by omega)
    go_enter Tryd.func18, Tryd.ntmps18
    go_wp2
    go_ret
    exact ⟨k, M, by omega, by omega, hM, rfl, rfl⟩
end Go.Proofs.Qxb6608537aDoor
