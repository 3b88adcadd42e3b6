import Derived.Test.Qxb6608537aDoorFmt2
namespace Go.Proofs.Qxb6608537aDoor
open Go.RowKit
set_option linter.unusedVariables false

/-- What is known of the one 'append' on the road. -/
def Apd (d : Value) (n : Nat) (w : World) (R : Value → World → Prop) : Prop :=
  ∀ (c : Array Value) (k : Nat), c.size = 65 → k < 65 → 65 - k = hexN n → c.toList.drop k = hexL n → ∃ v wF, (Builtin.append_ #[30, 30] 30 #[d, .slice (some ⟨w.heap.size, k, none⟩) (65 - k) (65 - k)]).run Tryd.prog (w.alloc (.cells c 88)) = .ok v wF ∧ R v wF

def RetR (R : Value → World → Prop) (e : Ending) (w' : World) : Prop := ∃ v, e = .returned v ∧ R v w'

set_option maxRecDepth 100000 in
set_option maxHeartbeats 4000000 in
theorem appuint_any (d : Value) (n : Nat) (w : World) (hn : n < 4294967296) (hn1 : 0 < n) (h5 : w.cell? ⟨5, 15, none⟩ = some (.int .u8 4)) (hw5 : 5 < w.heap.size) (R : Value → World → Prop) (hap : Apd d n w R) :
    Calls Tryd.prog 31 #[d, .int .u64 n, .int .i64 16] w (RetR R) := by
  have H40 := hideIt (fmt_any d n w hn hn1 h5 hw5 R hap)
  clear hap
  go_enter Tryd.func31, Tryd.ntmps31
  go_wp2_with (go_at_call 40; refine (H40.out).mono ?_; rintro e w' ⟨v, rfl, hR⟩)
  go_ret
  exact ⟨v, rfl, hR⟩

set_option maxRecDepth 100000 in
set_option maxHeartbeats 4000000 in
theorem appint0_any (d : Value) (n : Nat) (w : World) (hn : n < 4294967296) (hn1 : 0 < n) (h5 : w.cell? ⟨5, 15, none⟩ = some (.int .u8 4)) (hw5 : 5 < w.heap.size) (R : Value → World → Prop) (hap : Apd d n w R) :
    Calls Tryd.prog 28 #[d, .int .i64 n, .int .i64 16] w (RetR R) := by
  have H31 := hideIt (appuint_any d n w hn hn1 h5 hw5 R hap)
  clear hap
  go_enter Tryd.func28, Tryd.ntmps28
  go_wp2_with (go_at_call 31; refine (H31.out).mono ?_; rintro e w' ⟨v, rfl, hR⟩)
  go_ret
  exact ⟨v, rfl, hR⟩

set_option maxRecDepth 100000 in
set_option maxHeartbeats 4000000 in
theorem appint_any (d : Value) (n : Nat) (w : World) (hn : n < 4294967296) (hn1 : 0 < n) (h5 : w.cell? ⟨5, 15, none⟩ = some (.int .u8 4)) (hw5 : 5 < w.heap.size) (R : Value → World → Prop) (hap : Apd d n w R) :
    Calls Tryd.prog 20 #[d, .int .i64 n, .int .i64 16] w (RetR R) := by
  have H28 := hideIt (appint0_any d n w hn hn1 h5 hw5 R hap)
  clear hap
  go_enter Tryd.func20, Tryd.ntmps20
  go_wp2_with (go_at_call 28; refine (H28.out).mono ?_; rintro e w' ⟨v, rfl, hR⟩)
  go_ret
  exact ⟨v, rfl, hR⟩
end Go.Proofs.Qxb6608537aDoor
