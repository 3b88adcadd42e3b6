/-
  THE PROOF OF 'Rows.FnChunkedWriteIsFreeOfBufferAndHistoryCardSaid': the row (its frame: 'Below'; the walk: Qxb6608537aDoorLaw), then the tied card by the builder's one call.
-/
import Derived.Test.Qxb6608537aDoorRows
import Derived.Test.Qxb6608537aDoorTie
import Derived.Test.Qxb6608537aDoorCards
import Derived.Test.Qxb6608537aDoorLaw
import Derived.WalkKit
import Derived.ProofKit
import Derived.OpenShut
import Derived.ChangeOld
import Derived.Below
import Derived.Lay
import Derived.Lib.LaidTab
import Derived.SevenTiedAt
import Derived.Deep.Matrix
namespace Go.Proofs.Qxb6608537aDoor.fnChunkedWriteIsFreeOfBufferAndHistory
open Go.ChangeShapes Go.WideShapes Go.ChangeAt Go.RowKit
set_option linter.unusedVariables false

theorem own : ownKnob Tryd.prog.godebug = none := by kernel_rfl
theorem laidOut : laidOutB Tryd.prog = true := by kernel_rfl

/-- The row's list. -/
abbrev laid4 : List (String × DataW Unit) := Rows.fnChunkedWriteIsFreeOfBufferAndHistoryRow.laid

/-- The table's numbers. -/
def tab64 : List Int := [0, 1, 56, 2, 57, 49, 28, 3, 61, 58, 42, 50, 38, 29, 17, 4, 62, 47, 59, 36, 45, 43, 51, 22, 53, 39, 33, 30, 24, 18, 12, 5, 63, 55, 48, 27, 60, 41, 37, 16, 46, 35, 44, 21, 52, 32, 23, 11, 54, 26, 40, 15, 34, 20, 31, 10, 25, 14, 19, 9, 13, 8, 7, 6]
theorem tab64_is : (Rows.laid_math_bits_deBruijn64tab : DataW Unit) = Lib.tabData .u8 tab64 := by kernel_rfl

/-- The second variable on the list is number 5. -/
theorem gB : (laid4.map fun x => Tryd.prog.globalNamed x.1)[1]? = some (some 5) := by kernel_rfl

theorem gBType : (Tryd.prog.globals[5]?).map (·.type) = some 98 := by kernel_rfl

/-- What the walk asks of the table. -/
theorem cell_of_laid {W : World} (h : laidMet Tryd.prog laid4 W) : W.cell? ⟨5, 15, none⟩ = some (.int .u8 4) := by
  obtain ⟨ps, ⟨g0, t0, cs0, f0, p0, q0, hg0, ht0, hv0, hd0, ⟨g1, t1, cs1, f1, p1, q1, hg1, ht1, hv1, hd1, _, _⟩, _⟩, _, _⟩ := h
  rw [tab64_is] at hd1
  obtain rfl := Option.some.inj (Option.some.inj (gB.symm.trans (congrArg some hg1)))
  obtain rfl := Option.some.inj (gBType.symm.trans ht1)
  have hcs := Lib.cells_of_tab (n := 64) (e := 5) (by kernel_rfl) Tryd.underlying5 (by kernel_rfl) (by kernel_rfl) hd1
  have hc := World.var?_cell hg1 hv1 15
  rw [hc, ← Array.getElem?_toList, hcs]
  rfl

/-- The pieces, out of the argument's reading. -/
theorem byts_of {w : World} {A : Option Addr} {len cap : Nat} {Z : List Int} (hz : len ≤ cap) (hA : A = none → cap = 0) (hcell : ∀ a', A = some a' → 0 ≤ a'.block ∧ ∀ c, c < cap → w.cell? (a'.add c) = some (.int .u8 (Z.getD c 0))) : Byts w A len (fun i => Z.getD i 0) := by
  by_cases h0 : len = 0
  · exact Or.inl h0
  · rcases A with _ | a
    · have := hA rfl; omega
    · obtain ⟨_, hc⟩ := hcell a rfl
      obtain ⟨b, off, spot⟩ := a
      have hspot : spot = none := by simpa [Addr.add] using World.cell?_spot (hc 0 (by omega))
      subst hspot
      refine Or.inr ⟨b, off, rfl, fun i hi => ?_⟩
      rw [← add_plain]; exact hc i (by omega)

/-! ### THE ROW's STEP -/
set_option maxRecDepth 100000 in
theorem lifted (os : Os) (started : os.Started) (H : Type) (enc : TypeId × Value → H) :
    ReturnsInHanded {} Tryd.checked os 5 .any (fun w args => (Rows.fnChunkedWriteIsFreeOfBufferAndHistorySpec.pre enc Tryd.prog Tryd.f5 [] false w args ∧ laidMetH Tryd.prog laid4 w) ∧ sizedMet enc Tryd.prog Tryd.f5 (OpenSpec.ofChange Rows.fnChunkedWriteIsFreeOfBufferAndHistorySpec) false w args)
      (Rows.fnChunkedWriteIsFreeOfBufferAndHistorySpec.post enc Tryd.prog Tryd.f5 false true false false) := by
  refine returnsInHanded_of_change_and (C := Tryd.checked) (X := fun w _ => laidMetH Tryd.prog laid4 w) (fun _ _ _ hh h => h.of_heap hh) own started (by kernel_rfl) Tryd.func5
    (ChangeSpec.witness_shaped (enc := enc) (C := Tryd.checked) (os := os) (X := fun w _ => laidMetH Tryd.prog laid4 w) false (World.laidAll Tryd.prog os laid4) #[.slice none 0 0, .int .i64 0, .int .i64 0] 8 (World.laidAll_os _ _ _)
      (World.shaped_of_ZipB (by kernel_rfl) (by kernel_rfl)) (by kernel_rfl) (by kernel_rfl) (by kernel_rfl)
      (by rw [MakeChecks.laidMetH_plain _ _ _ (by kernel_rfl)]; exact laidMet_laidAll _ (by kernel_rfl) (by kernel_rfl))) ?_
  intro W base args ds gs before hval0 hW _ _ hL0 _
  have hL : laidMet Tryd.prog laid4 W := by
    have h := hL0
    rw [MakeChecks.laidMetH_plain _ _ _ (by kernel_rfl)] at h
    exact h
  have hval : ∀ (j : Nat) t v, Tryd.f5.params[j]? = some t → args[j]? = some v → Value.okWide Tryd.prog W .any base t v := hval0
  have hW' := hW
  obtain ⟨p, q, hA0, hV, rfl, hfz, hnd⟩ := hW
  have hA : DataW.TrodAll enc Tryd.prog W 0 (fun _ => true) true Tryd.f5.params.toList args.toList ds p := hA0
  rw [Tryd.params5] at hA hval
  obtain ⟨v0, vs0, d0, ds0, p0, q0, hargs, rfl, rfl, h0, r0⟩ := trodAll_cons hA
  obtain ⟨v1, vs1, d1, ds1, p1, q1, rfl, rfl, rfl, h1, r1⟩ := trodAll_cons r0
  obtain ⟨v2, vs2, d2, ds2, p2, q2, rfl, rfl, rfl, h2, r2⟩ := trodAll_cons r1
  obtain ⟨rfl, rfl, rfl⟩ := trodAll_nil r2
  obtain rfl : args = #[v0, v1, v2] := by cases args; simp_all
  obtain ⟨rfl, rfl⟩ := trodVars_none hV
  obtain ⟨s0, n0, c0, rfl⟩ := okWide_slice Tryd.underlying28 (hval 0 28 v0 rfl rfl)
  have k0 := h0
  have lt0 : ∀ x ∈ p0, x.block < W.heap.size := by obtain ⟨m, hm⟩ := k0; exact DataW.trod_lt m _ _ _ hm
  have w0 : n0 ≤ maxLen ∧ ∃ ta tl tc bs, Pieces W s0 n0 ta tl tc bs := by
    obtain ⟨fuel, hf⟩ := h0
    rcases Go.Deep.open_int_rows Tryd.underlying28 Tryd.underlying30 Tryd.underlying5 (by kernel_rfl) (by kernel_rfl) hf with ⟨hcs, _⟩ | ⟨x, l, c, A, Ln, C, Z, hcs, _, hl, hm, _, hr⟩
    · simp [Value.cells] at hcs
      exact ⟨by rw [hcs.2.1]; exact Nat.zero_le _, fun _ => none, fun _ => 0, fun _ => 0, fun _ _ => 0, Or.inl hcs.2.1⟩
    · simp [Value.cells] at hcs
      obtain ⟨rfl, rfl, rfl⟩ := hcs
      refine ⟨Nat.le_trans hl hm, A, Ln, C, fun r c => (Z r).getD c 0, ?_⟩
      by_cases h0 : n0 = 0
      · exact Or.inl h0
      · obtain ⟨b, off, spot⟩ := x
        have hspot : spot = none := by simpa [Addr.add] using World.cell?_spot (hr 0 (by omega)).1
        subst hspot
        refine Or.inr ⟨b, off, rfl, fun r hr' => ?_⟩
        obtain ⟨e0, e1, e2, _, _, e3, e4⟩ := hr r (by omega)
        exact ⟨by rw [← add_plain]; exact e0, e1, e2, byts_of e1 e3 e4⟩
  obtain ⟨z1, rfl, rfl, rfl, w1⟩ := open_int Tryd.underlying3 (hval 1 3 v1 rfl rfl) h1
  obtain ⟨z2, rfl, rfl, rfl, w2⟩ := open_int Tryd.underlying3 (hval 2 3 v2 rfl rfl) h2
  clear hA0 hval0
  obtain ⟨b0, ta, tl, tc, bs, hP⟩ := w0
  refine (law_any s0 n0 c0 ta tl tc bs z1 z2 W b0 hP (cell_of_laid hL)).mono fun e W' ⟨he, bel⟩ => ?_
  subst he
  exact ⟨_, rfl, _, _, _, [], _, [], hW', trodAll_mk1 (shut_bool Tryd.underlying4 _), (trodAll_cons_mk (Below.trod laidOut (by kernel_rfl) (of_decide_eq_true (by kernel_rfl)) k0 bel lt0) (trodAll_cons_mk (shut_int Tryd.underlying3 w1) (trodAll_cons_mk (shut_int Tryd.underlying3 w2) trodAll_mk0))), rfl, bel.frame _, fun h => by cases h⟩

theorem row : Rows.FnChunkedWriteIsFreeOfBufferAndHistorySaid :=
  OpenClaim.holds_of_wide 5 Tryd.f5 rfl rfl rfl rfl rfl rfl rfl ⟨rfl, rfl, rfl, rfl, rfl⟩ rfl rfl rfl rfl rfl (by kernel_rfl) Tryd.func5 (by kernel_rfl)
    (of_decide_eq_true (by kernel_rfl)) (by unfold Func.isWrapper; first | (rw [if_pos (by decide +kernel)]; kernel_rfl) | (rw [if_neg (by decide +kernel)]; exact ⟨rfl, rfl⟩))
    (fun os started H enc _ => lifted os started H enc)

/-- ████ THE STATEMENT: the tied card ████ -/
theorem proved : Rows.FnChunkedWriteIsFreeOfBufferAndHistoryCardSaid :=
  Claim7.holds_tied_plain_at .later [] [.data, .data, .data, .sentinel] true (true, "ae57cfb7e74adf1a98e51c52210e9a54a25e5542c9e0fbcce9c0160b41cfc809") true
    row (fun _ h => by cases h) (by kernel_rfl) (fun _ h => by cases h) fnChunkedWriteIsFreeOfBufferAndHistory_row_tie rfl ⟨rfl, rfl⟩ (by kernel_rfl) rfl
    (fun f fn hf hfn => by
      obtain rfl : f = 5 := Option.some.inj ((show Tryd.prog.funcNamed Rows.fnChunkedWriteIsFreeOfBufferAndHistoryRow.func = some 5 by kernel_rfl).symm.trans hf) |>.symm
      obtain rfl : fn = Tryd.f5 := (Option.some.inj (Tryd.func5.symm.trans hfn)).symm
      exact ⟨by kernel_rfl, fun j t ht => by
        rw [Tryd.params5] at ht
        have hm : t ∈ [28, 3, 3] := by simpa using Array.mem_of_getElem? ht
        have hall : ([28, 3, 3].all fun u => !Tryd.prog.wantsStandIn u) = true := by kernel_rfl
        exact (show Tryd.prog.wantsStandIn t = false by simpa using List.all_eq_true.1 hall t hm)⟩)
    (by kernel_rfl)

end Go.Proofs.Qxb6608537aDoor.fnChunkedWriteIsFreeOfBufferAndHistory
