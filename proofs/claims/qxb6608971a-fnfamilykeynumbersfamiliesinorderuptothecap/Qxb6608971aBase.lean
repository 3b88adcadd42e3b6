import Derived.Test.Qxb6608971aShelf
import Derived.WalkKit
import Derived.WalkLawsBesides
import Derived.WalkSpells
import Derived.Lib.Strings
import Derived.Lib.BufferWrite
namespace Go.Proofs.Qxb6608971a
open Go.RowKit

theorem ret_bool {a b : Bool} (h : a = b) : Ending.returned (.bool a) = .returned (.bool b) := by rw [h]

/-- Where the lengths' sum is within the cap: true. -/
def capB (s1 s2 : ByteArray) : Bool := decide (s1.size + s2.size ≤ 1048576)

set_option maxHeartbeats 400000 in
theorem bytes2_any (s1 : ByteArray) (a b : Value) (s2 : ByteArray) (c d e : Value) (w : World) (h1 : s1.size ≤ maxLen) (h2 : s2.size ≤ maxLen) :
    Calls Try.prog 7 #[.string s1, a, b, .string s2, c, d, e] w fun e w' => e = .returned (.bool (capB s1 s2)) ∧ w' = w := by
  unfold maxLen at h1 h2
  go_enter Try.func7, Try.ntmps7
  go_wp2
  all_goals go_ret
  all_goals
    refine ⟨ret_bool ?_, rfl⟩
    symm
    unfold capB
    first
      | (rw [decide_eq_false_iff_not]; omega)
      | (rw [decide_eq_true_eq]; omega)

/-- 'zzB1FamilyArgs'. -/
def argsB (s : ByteArray) (wd n : Int) : Bool := decide (wd ≠ -1 ∧ s.size ≤ 22 ∧ n < 18014398509481984)

set_option maxHeartbeats 400000 in
theorem fargs_any (s : ByteArray) (wd n : Int) (w : World) (h : s.size ≤ maxLen) :
    Calls Try.prog 10 #[.string s, .int .i64 wd, .int .u64 n] w fun e w' => e = .returned (.bool (argsB s wd n)) ∧ w' = w := by
  unfold maxLen at h
  go_enter Try.func10, Try.ntmps10
  go_wp2
  all_goals go_ret
  all_goals
    refine ⟨ret_bool ?_, rfl⟩
    symm
    unfold argsB
    first
      | (rw [decide_eq_false_iff_not]; omega)
      | (rw [Bool.eq_iff_iff]; simp; omega)

set_option maxHeartbeats 400000 in
theorem newtab_any (w : World)  :
    Calls Try.prog 21 #[] w fun e w' => (∃ m, e = .returned (.agg #[.slice none 0 0, .int .u64 0, .map (some m), .int .i64 0])) ∧ Below w.heap.size w w' := by
  have hmm := @run_makeMap Try.prog
  go_enter Try.func21, Try.ntmps21
  go_wp2
  exact bodyPost_ret (v := .agg #[.slice none 0 0, .int .u64 0, .map (some (w.heap.size + 1)), .int .i64 0]) (by simp [results, Try.results21, go_sem]) rfl ⟨⟨_, rfl⟩, ((Below.refl _ _).alloc (Nat.le_refl _) _).alloc (by simp) _⟩

set_option maxHeartbeats 400000 in
theorem clone_any (s : ByteArray) (w : World) (hlim : s.size ≤ 281474976710656) :
    Calls Try.prog 27 #[.string s] w fun e w' => e = .returned (.string s) ∧ Below w.heap.size w w' := by
  go_enter Try.func27, Try.ntmps27
  go_wp2_with (go_at_call 28; refine (Try.stringslite_Clone _ _ hlim).mono ?_; rintro e w' ⟨rfl, hb⟩)
  go_ret
  exact ⟨rfl, hb⟩

end Go.Proofs.Qxb6608971a
