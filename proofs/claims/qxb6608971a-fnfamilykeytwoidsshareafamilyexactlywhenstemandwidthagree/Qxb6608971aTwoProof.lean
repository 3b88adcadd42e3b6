/-
  THE PROOF OF 'Rows.FnFamilyKeyTwoIDsShareAFamilyExactlyWhenStemAndWidthAgreeSaid': the frame after the guide's own program (proof-skeleton.mjs), its end turned to 'Below' (strings.Clone lays a frozen block); the walk by the contracts of Qxb6608971aFkey, Qxb6608971aLawTwo.
-/
import Derived.Test.Qxb6608971aRows
import Derived.Test.Qxb6608971aLawTwo
import Derived.WalkKit
import Derived.ProofKit
import Derived.OpenShut
import Derived.ShutString
import Derived.ChangeOld
import Derived.Below
namespace Go.Proofs.Qxb6608971a.fnFamilyKeyTwoIDsShareAFamilyExactlyWhenStemAndWidthAgree
open Go.ChangeShapes Go.WideShapes Go.ChangeAt Go.RowKit
open Go.ChangeMaps (open_string shut_string)
set_option linter.unusedVariables false

theorem own : ownKnob Try.prog.godebug = none := by kernel_rfl

/-! ### The ways out ahead of the index -/
set_option maxRecDepth 100000 in
set_option maxHeartbeats 1000000 in
theorem out_cap (a0 : ByteArray) (a1 : Int) (a2 : Int) (a3 : ByteArray) (a4 : Int) (a5 : Int) (a6 : Bool) (w : World) (m0 : a0.size ≤ maxLen) (m3 : a3.size ≤ maxLen) (hc : capB a0 a3 = false) :
    Calls Try.prog 3 #[.string a0, .int .i64 a1, .int .u64 a2, .string a3, .int .i64 a4, .int .u64 a5, .bool a6] w fun e w' => e = .returned (.bool true) ∧ Below w.heap.size w w' := by
  have HB := hideIt (bytes2_any a0 (.int .i64 a1) (.int .u64 a2) a3 (.int .i64 a4) (.int .u64 a5) (.bool a6) w m0 m3)
  clear m0 m3
  go_enter Try.func3, Try.ntmps3
  go_wp2_with (go_at_call 7; refine HB.out.mono ?_; rintro e w' ⟨rfl, hw⟩; obtain rfl := hw.symm; clear hw)
  go_ret
  exact ⟨rfl, Below.refl _ _⟩

/-- Which of the tests ahead of the index says 'out'. -/
def Out (a0 : ByteArray) (a1 : Int) (a3 : ByteArray) (a4 : Int) : Prop :=
  (65536 < a0.size) ∨ (a0.size ≤ 65536 ∧ 65536 < a3.size) ∨
  (a0.size ≤ 65536 ∧ a3.size ≤ 65536 ∧ (a1 < -1 ∨ (-1 ≤ a1 ∧ 255 < a1) ∨ (-1 ≤ a1 ∧ a1 ≤ 255 ∧ a4 < -1) ∨ (-1 ≤ a1 ∧ a1 ≤ 255 ∧ -1 ≤ a4 ∧ 255 < a4))) ∨
  (a0.size ≤ 65536 ∧ a3.size ≤ 65536 ∧ -1 ≤ a1 ∧ a1 ≤ 255 ∧ -1 ≤ a4 ∧ a4 ≤ 255 ∧ ((a0.toList.isEmpty = true ∧ a1 = 0) ∨ ((a0.toList.isEmpty = false ∨ (a0.toList.isEmpty = true ∧ (a1 == 0) = false)) ∧ a3.toList.isEmpty = true ∧ a4 = 0)))

set_option maxRecDepth 100000 in
set_option maxHeartbeats 4000000 in
theorem out_tests (a0 : ByteArray) (a1 : Int) (a2 : Int) (a3 : ByteArray) (a4 : Int) (a5 : Int) (a6 : Bool) (w : World) (m0 : a0.size ≤ maxLen) (m3 : a3.size ≤ maxLen) (hc : capB a0 a3 = true) (ho : Out a0 a1 a3 a4) :
    Calls Try.prog 3 #[.string a0, .int .i64 a1, .int .u64 a2, .string a3, .int .i64 a4, .int .u64 a5, .bool a6] w fun e w' => e = .returned (.bool true) ∧ Below w.heap.size w w' := by
  have HB := hideIt (bytes2_any a0 (.int .i64 a1) (.int .u64 a2) a3 (.int .i64 a4) (.int .u64 a5) (.bool a6) w m0 m3)
  unfold maxLen at m0 m3
  rcases ho with h | ⟨h, k⟩ | ⟨h, k, r | ⟨r1, r2⟩ | ⟨r1, r2, r3⟩ | ⟨r1, r2, r3, r4⟩⟩ | ⟨h, k, r1, r2, r3, r4, ⟨e1, rfl⟩ | ⟨e1 | ⟨e1, e3⟩, e2, rfl⟩⟩
  all_goals
    go_enter Try.func3, Try.ntmps3
    go_wp2_with (go_at_call 7; refine HB.out.mono ?_; rintro e w' ⟨rfl, hw⟩; obtain rfl := hw.symm; clear hw)
    go_ret
    exact ⟨rfl, Below.refl _ _⟩

theorem empty_iff (s : ByteArray) : s.toList.isEmpty = true ↔ s = ⟨#[]⟩ := by
  rw [Lib.toList_data]
  constructor
  · intro h
    exact ByteArray.ext (Array.toList_inj.1 (by simpa using h))
  · intro h
    rw [h]; rfl

theorem not_out {a0 : ByteArray} {a1 : Int} {a3 : ByteArray} {a4 : Int} (h : ¬ Out a0 a1 a3 a4) :
    a0.size ≤ 65536 ∧ a3.size ≤ 65536 ∧ -1 ≤ a1 ∧ a1 ≤ 255 ∧ -1 ≤ a4 ∧ a4 ≤ 255 ∧ ¬ (a0 = ⟨#[]⟩ ∧ a1 = 0) ∧ ¬ (a3 = ⟨#[]⟩ ∧ a4 = 0) := by
  unfold Out at h
  rw [not_or, not_or, not_or] at h
  obtain ⟨h1, h2, h3, h4⟩ := h
  have g0 : a0.size ≤ 65536 := by omega
  have g3 : a3.size ≤ 65536 := by omega
  have g : -1 ≤ a1 ∧ a1 ≤ 255 ∧ -1 ≤ a4 ∧ a4 ≤ 255 := by omega
  obtain ⟨g4, g5, g6, g7⟩ := g
  have n0 : ¬ (a0 = ⟨#[]⟩ ∧ a1 = 0) := fun e => h4 ⟨g0, g3, g4, g5, g6, g7, Or.inl ⟨(empty_iff a0).2 e.1, e.2⟩⟩
  refine ⟨g0, g3, g4, g5, g6, g7, n0, fun e => h4 ⟨g0, g3, g4, g5, g6, g7, Or.inr ⟨off_empty n0, (empty_iff a3).2 e.1, e.2⟩⟩⟩

theorem walk (a0 : ByteArray) (a1 : Int) (a2 : Int) (a3 : ByteArray) (a4 : Int) (a5 : Int) (a6 : Bool) (w0 : a0.size ≤ maxLen) (w3 : a3.size ≤ maxLen) (w : World) :
    Calls Try.prog 3 #[.string a0, .int .i64 a1, .int .u64 a2, .string a3, .int .i64 a4, .int .u64 a5, .bool a6] w fun e w' => e = .returned (.bool true) ∧ Below w.heap.size w w' := by
  cases hc : capB a0 a3 with
  | false => exact out_cap a0 a1 a2 a3 a4 a5 a6 w w0 w3 hc
  | true =>
    by_cases ho : Out a0 a1 a3 a4
    · exact out_tests a0 a1 a2 a3 a4 a5 a6 w w0 w3 hc ho
    · obtain ⟨g0, g3, g4, g5, g6, g7, n1, n2⟩ := not_out ho
      exact main_walk a0 a1 a2 a3 a4 a5 a6 w hc g0 g3 g4 g5 g6 g7 n1 n2

/-! ### THE ROW's STEP: WRITTEN OUT: LEAVE IT -/
set_option maxRecDepth 100000 in
theorem lifted (os : Os) (started : os.Started) (H : Type) (enc : TypeId × Value → H) :
    ReturnsInHanded {} Try.checked os 3 .any (Rows.fnFamilyKeyTwoIDsShareAFamilyExactlyWhenStemAndWidthAgreeSpec.pre6 enc Try.prog Try.f3 Rows.fnFamilyKeyTwoIDsShareAFamilyExactlyWhenStemAndWidthAgreeRow.domain false) (Rows.fnFamilyKeyTwoIDsShareAFamilyExactlyWhenStemAndWidthAgreeSpec.post enc Try.prog Try.f3 false true false false) := by
  refine returnsInHanded_of_change (C := Try.checked) own started (by kernel_rfl) Try.func3
    (ChangeSpec.witness6 (enc := enc) (C := Try.checked) false ⟨#[], #[.string ByteArray.empty, .int .i64 0, .int .u64 0, .string ByteArray.empty, .int .i64 0, .int .u64 0, .bool false], []⟩ 8 (by kernel_rfl) (by kernel_rfl) (by kernel_rfl) (by kernel_rfl)) ?_
  intro W base args ds gs before hval0 hW hcnd _
  have hval : ∀ (j : Nat) t v, Try.f3.params[j]? = some t → args[j]? = some v → Value.okWide Try.prog W .any base t v := hval0
  have hW' := hW
  obtain ⟨p, q, hA0, hV, rfl, hfz, hnd⟩ := hW
  have hA : DataW.TrodAll enc Try.prog W 0 (fun _ => true) true Try.f3.params.toList args.toList ds p := hA0
  rw [Try.params3] at hA hval
  obtain ⟨v0, vs0, d0, ds0, p0, q0, hargs, rfl, rfl, h0, r0⟩ := trodAll_cons hA
  obtain ⟨v1, vs1, d1, ds1, p1, q1, rfl, rfl, rfl, h1, r1⟩ := trodAll_cons r0
  obtain ⟨v2, vs2, d2, ds2, p2, q2, rfl, rfl, rfl, h2, r2⟩ := trodAll_cons r1
  obtain ⟨v3, vs3, d3, ds3, p3, q3, rfl, rfl, rfl, h3, r3⟩ := trodAll_cons r2
  obtain ⟨v4, vs4, d4, ds4, p4, q4, rfl, rfl, rfl, h4, r4⟩ := trodAll_cons r3
  obtain ⟨v5, vs5, d5, ds5, p5, q5, rfl, rfl, rfl, h5, r5⟩ := trodAll_cons r4
  obtain ⟨v6, vs6, d6, ds6, p6, q6, rfl, rfl, rfl, h6, r6⟩ := trodAll_cons r5
  obtain ⟨rfl, rfl, rfl⟩ := trodAll_nil r6
  obtain rfl : args = #[v0, v1, v2, v3, v4, v5, v6] := by cases args; simp_all
  obtain ⟨rfl, rfl⟩ := trodVars_none hV
  obtain ⟨a0, rfl, rfl, rfl, w0⟩ := open_string Try.underlying9 (hval 0 9 v0 rfl rfl) h0
  obtain ⟨a1, rfl, rfl, rfl, w1⟩ := open_int Try.underlying3 (hval 1 3 v1 rfl rfl) h1
  obtain ⟨a2, rfl, rfl, rfl, w2⟩ := open_int Try.underlying22 (hval 2 22 v2 rfl rfl) h2
  obtain ⟨a3, rfl, rfl, rfl, w3⟩ := open_string Try.underlying9 (hval 3 9 v3 rfl rfl) h3
  obtain ⟨a4, rfl, rfl, rfl, w4⟩ := open_int Try.underlying3 (hval 4 3 v4 rfl rfl) h4
  obtain ⟨a5, rfl, rfl, rfl, w5⟩ := open_int Try.underlying22 (hval 5 22 v5 rfl rfl) h5
  obtain ⟨a6, rfl, rfl, rfl⟩ := open_bool Try.underlying4 (hval 6 4 v6 rfl rfl) h6
  clear hA0 hval0
  refine (walk a0 a1 a2 a3 a4 a5 a6 w0 w3 W).mono fun e W' ⟨he, bel⟩ => ?_
  subst he
  exact ⟨_, rfl, _, _, _, [], _, [], hW', trodAll_mk1 (shut_bool Try.underlying4 _), (trodAll_cons_mk (shut_string Try.underlying9 w0) (trodAll_cons_mk (shut_int Try.underlying3 w1) (trodAll_cons_mk (shut_int Try.underlying22 w2) (trodAll_cons_mk (shut_string Try.underlying9 w3) (trodAll_cons_mk (shut_int Try.underlying3 w4) (trodAll_cons_mk (shut_int Try.underlying22 w5) (trodAll_cons_mk (shut_bool Try.underlying4 _) trodAll_mk0))))))), rfl, bel.frame _, fun h => by cases h⟩

theorem over : Rows.fnFamilyKeyTwoIDsShareAFamilyExactlyWhenStemAndWidthAgreeRow.holds Try.pinned (OpenSpec.ofChange Rows.fnFamilyKeyTwoIDsShareAFamilyExactlyWhenStemAndWidthAgreeSpec) :=
  OpenClaim.holds_of_wide 3 Try.f3 rfl rfl rfl rfl rfl rfl rfl ⟨rfl, rfl, rfl, rfl, rfl⟩ rfl rfl rfl rfl rfl (by kernel_rfl) Try.func3 (by kernel_rfl)
    (of_decide_eq_true (by kernel_rfl)) (by unfold Func.isWrapper; first | (rw [if_pos (by decide +kernel)]; kernel_rfl) | (rw [if_neg (by decide +kernel)]; exact ⟨rfl, rfl⟩))
    (fun os started H enc _ => lifted os started H enc)

/-- ████ THE STATEMENT ████ -/
theorem proved : Rows.FnFamilyKeyTwoIDsShareAFamilyExactlyWhenStemAndWidthAgreeSaid :=
  over
end Go.Proofs.Qxb6608971a.fnFamilyKeyTwoIDsShareAFamilyExactlyWhenStemAndWidthAgree
