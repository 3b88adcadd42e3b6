import Derived.Test.Qxb6608537aDoorNear
namespace Go.Proofs.Qxb6608537aDoor
open Go.RowKit
set_option linter.unusedVariables false

theorem meth_writestr (p : Option Addr) (W : World) : (method 228 34 (.pointer p) "WriteString").run Tryd.prog W = .ok (74, .pointer p) W := by kernel_rfl
theorem ent74 (args : Array Value) (W : World) : (callFunc 74 args).run Tryd.prog W = .ok (.enter 74 args) W := by kernel_rfl
theorem tassert (p : Option Addr) (W : World) : (Instr.typeAssert (.iface 34 (.pointer p)) 51 60 true).run Tryd.prog W = .ok (.tuple #[.iface 34 (.pointer p), .bool true]) W := by kernel_rfl

/-- 'copy' of a string, as much as fits. -/
theorem copy_str {w : World} {g o dLen dCap : Nat} {r : ByteArray} {cur : Array Value} {cs : List Value} (hg : w.heap[g]? = some (.cells cur 5 (0, 0))) (hcs : cs = (Lib.byteCells r.data.toList).take dLen) (hfit : o + cs.length ≤ cur.size) :
    (Builtin.copy_ #[30, 9] 3 #[.slice (some ⟨g, o, none⟩) dLen dCap, .string r]).run Tryd.prog w = .ok (goInt cs.length) (w.setRow g (fillC cur o cs)) := by
  have hlen : cs.length = Nat.min r.size dLen := by rw [hcs, List.length_take, Lib.byteCells_length, ← Lib.size_eq]; exact Nat.min_comm _ _
  have hst := run_storeCells_at Tryd.prog g o 5 cs 0 cur w hg (by simpa using hfit) (fun v hv => Lib.byteCells_one r.data.toList v (by rw [hcs] at hv; exact List.mem_of_mem_take hv))
  have htk : List.take (Nat.min r.size dLen) (List.map (fun b : UInt8 => Value.int IntKind.u8 (b.toNat : Int)) r.data.toList) = cs := by
    rw [hcs]
    show List.take (Nat.min r.size dLen) (Lib.byteCells r.data.toList) = _
    have h2 : (Lib.byteCells r.data.toList).length = r.size := by rw [Lib.byteCells_length, ← Lib.size_eq]
    rw [show Nat.min r.size dLen = min dLen (Lib.byteCells r.data.toList).length by rw [h2]; exact Nat.min_comm _ _]
    exact (List.take_eq_take_min ..).symm
  simp only [Nat.add_zero] at hst
  cases hq : Tryd.prog.info? 5 with
  | none => have := Tryd.size5; simp [hq] at this
  | some i =>
    simp [Builtin.copy_, run_underlying Tryd.underlying30, Builtin.lenOf, Builtin.firstCells, sizeOf, typeInfo, hq]
    rw [htk, hst]
    simp [Result.andThen, hlen, fillC]

def crlf : ByteArray := ⟨#[13, 10]⟩
def crlfC : List Value := [.int .u8 13, .int .u8 10]
end Go.Proofs.Qxb6608537aDoor
