/-
  THE PROOF OF 'Rows.FnStreamPushesStoreEntriesAndCountSaid': the frame after the guide's own way for slices that are only read ('Below'); the walk: Qxb6609105aStream.
-/
import Derived.Test.Qxb6609105aRows
import Derived.Test.Qxb6609105aStream
import Derived.WalkKit
import Derived.ProofKit
import Derived.OpenShut
import Derived.ShutString
import Derived.ChangeOld
import Derived.Below
import Derived.SliceStrings
import Derived.Deep.Matrix
import Derived.Deep.Grids
namespace Go.Proofs.Qxb6609105a.fnStreamPushesStoreEntriesAndCount
open Go.ChangeShapes Go.WideShapes Go.ChangeAt Go.RowKit
open Go.ChangeMaps (open_string shut_string)
set_option linter.unusedVariables false

theorem own : ownKnob Try.prog.godebug = none := by kernel_rfl
theorem laidOut : laidOutB Try.prog = true := by kernel_rfl

theorem strs_of {w : World} {a : Addr} {len : Nat} {ss : List ByteArray} (hz : len ≤ ss.length) (hcell : ∀ i, i < ss.length → w.cell? (a.add i) = some (.string (ss.getD i ByteArray.empty))) (hsz : ∀ s ∈ ss, s.size ≤ maxLen) : StrsF w (some a) len (fun i => ss.getD i ByteArray.empty) := by
  by_cases h0 : len = 0
  · exact Or.inl h0
  · obtain ⟨b, off, spot⟩ := a
    have hspot : spot = none := by simpa [Addr.add] using World.cell?_spot (hcell 0 (by omega))
    subst hspot
    refine Or.inr ⟨b, off, rfl, fun i hi => ⟨?_, ?_⟩⟩
    · rw [← add_plain]; exact hcell i (by omega)
    · have hi' : i < ss.length := by omega
      have : ss.getD i ByteArray.empty = ss[i] := by simp [List.getD, hi']
      show (ss.getD i ByteArray.empty).size ≤ maxLen
      rw [this]
      exact hsz _ (List.getElem_mem hi')

theorem nums_of {w : World} {a : Addr} {len : Nat} {zs : List Int} (hz : len ≤ zs.length) (hcell : ∀ i, i < zs.length → w.cell? (a.add i) = some (.int .u64 (zs.getD i 0))) : NumsF w (some a) len (fun i => zs.getD i 0) := by
  by_cases h0 : len = 0
  · exact Or.inl h0
  · obtain ⟨b, off, spot⟩ := a
    have hspot : spot = none := by simpa [Addr.add] using World.cell?_spot (hcell 0 (by omega))
    subst hspot
    refine Or.inr ⟨b, off, rfl, fun i hi => ?_⟩
    rw [← add_plain]; exact hcell i (by omega)

theorem bools_of {w : World} {a : Addr} {len cap : Nat} {B : Nat → Bool} (hz : len ≤ cap) (hcell : ∀ i, i < cap → w.cell? (a.add i) = some (.bool (B i))) : BoolsF w (some a) len B := by
  by_cases h0 : len = 0
  · exact Or.inl h0
  · obtain ⟨b, off, spot⟩ := a
    have hspot : spot = none := by simpa [Addr.add] using World.cell?_spot (hcell 0 (by omega))
    subst hspot
    refine Or.inr ⟨b, off, rfl, fun i hi => ?_⟩
    rw [← add_plain]; exact hcell i (by omega)

theorem byts_of {w : World} {A : Option Addr} {len cap : Nat} {Z : List Int} (hz : len ≤ cap) (hA : A = none → cap = 0) (hcell : ∀ a', A = some a' → 0 ≤ a'.block ∧ ∀ c, c < cap → w.cell? (a'.add c) = some (.int .u8 (Z.getD c 0))) : Byts 0 w A len (fun i => Z.getD i 0) := by
  by_cases h0 : len = 0
  · exact Or.inl h0
  · rcases A with _ | a
    · have := hA rfl; omega
    · obtain ⟨_, hc⟩ := hcell a rfl
      obtain ⟨b, off, spot⟩ := a
      have hspot : spot = none := by simpa [Addr.add] using World.cell?_spot (hc 0 (by omega))
      subst hspot
      refine Or.inr ⟨b, off, rfl, Nat.zero_le _, fun i hi => ?_⟩
      rw [← add_plain]; exact hc i (by omega)

/-! ### THE ROW's STEP -/
set_option maxRecDepth 100000 in
theorem lifted (os : Os) (started : os.Started) (H : Type) (enc : TypeId × Value → H) :
    ReturnsInHanded {} Try.checked os 5 .any (Rows.fnStreamPushesStoreEntriesAndCountSpec.pre6 enc Try.prog Try.f5 Rows.fnStreamPushesStoreEntriesAndCountRow.domain false) (Rows.fnStreamPushesStoreEntriesAndCountSpec.post enc Try.prog Try.f5 false true false false) := by
  refine returnsInHanded_of_change (C := Try.checked) own started (by kernel_rfl) Try.func5
    (ChangeSpec.witness6 (enc := enc) (C := Try.checked) false ⟨#[], #[.string ByteArray.empty, .int .u64 0, .int .u64 0, .int .u64 0, .string ByteArray.empty, .string ByteArray.empty, .slice none 0 0, .slice none 0 0, .slice none 0 0, .slice none 0 0, .slice none 0 0], []⟩ 8 (by kernel_rfl) (by kernel_rfl) (by kernel_rfl) (by kernel_rfl)) ?_
  intro W base args ds gs before hval0 hW hcnd _
  have hval : ∀ (j : Nat) t v, Try.f5.params[j]? = some t → args[j]? = some v → Value.okWide Try.prog W .any base t v := hval0
  have hW' := hW
  obtain ⟨p, q, hA0, hV, rfl, hfz, hnd⟩ := hW
  have hA : DataW.TrodAll enc Try.prog W 0 (fun _ => true) true Try.f5.params.toList args.toList ds p := hA0
  rw [Try.params5] at hA hval
  obtain ⟨v0, vs0, d0, ds0, p0, q0, hargs, rfl, rfl, h0, r0⟩ := trodAll_cons hA
  obtain ⟨v1, vs1, d1, ds1, p1, q1, rfl, rfl, rfl, h1, r1⟩ := trodAll_cons r0
  obtain ⟨v2, vs2, d2, ds2, p2, q2, rfl, rfl, rfl, h2, r2⟩ := trodAll_cons r1
  obtain ⟨v3, vs3, d3, ds3, p3, q3, rfl, rfl, rfl, h3, r3⟩ := trodAll_cons r2
  obtain ⟨v4, vs4, d4, ds4, p4, q4, rfl, rfl, rfl, h4, r4⟩ := trodAll_cons r3
  obtain ⟨v5, vs5, d5, ds5, p5, q5, rfl, rfl, rfl, h5, r5⟩ := trodAll_cons r4
  obtain ⟨v6, vs6, d6, ds6, p6, q6, rfl, rfl, rfl, h6, r6⟩ := trodAll_cons r5
  obtain ⟨v7, vs7, d7, ds7, p7, q7, rfl, rfl, rfl, h7, r7⟩ := trodAll_cons r6
  obtain ⟨v8, vs8, d8, ds8, p8, q8, rfl, rfl, rfl, h8, r8⟩ := trodAll_cons r7
  obtain ⟨v9, vs9, d9, ds9, p9, q9, rfl, rfl, rfl, h9, r9⟩ := trodAll_cons r8
  obtain ⟨v10, vs10, d10, ds10, p10, q10, rfl, rfl, rfl, h10, r10⟩ := trodAll_cons r9
  obtain ⟨rfl, rfl, rfl⟩ := trodAll_nil r10
  obtain rfl : args = #[v0, v1, v2, v3, v4, v5, v6, v7, v8, v9, v10] := by cases args; simp_all
  obtain ⟨rfl, rfl⟩ := trodVars_none hV
  obtain ⟨a0, rfl, rfl, rfl, w0⟩ := open_string Try.underlying9 (hval 0 9 v0 rfl rfl) h0
  obtain ⟨a1, rfl, rfl, rfl, w1⟩ := open_int Try.underlying25 (hval 1 25 v1 rfl rfl) h1
  obtain ⟨a2, rfl, rfl, rfl, w2⟩ := open_int Try.underlying25 (hval 2 25 v2 rfl rfl) h2
  obtain ⟨a3, rfl, rfl, rfl, w3⟩ := open_int Try.underlying25 (hval 3 25 v3 rfl rfl) h3
  obtain ⟨a4, rfl, rfl, rfl, w4⟩ := open_string Try.underlying9 (hval 4 9 v4 rfl rfl) h4
  obtain ⟨a5, rfl, rfl, rfl, w5⟩ := open_string Try.underlying9 (hval 5 9 v5 rfl rfl) h5
  obtain ⟨s6, n6, c6, rfl⟩ := okWide_slice Try.underlying26 (hval 6 26 v6 rfl rfl)
  have k6 := h6
  have lt6 : ∀ x ∈ p6, x.block < W.heap.size := by obtain ⟨m, hm⟩ := k6; exact DataW.trod_lt m _ _ _ hm
  have w6 : n6 ≤ maxLen ∧ ∃ tl bs, (∀ i, i < n6 → tl i ≤ maxLen) ∧ Lists 0 0 W s6 n6 tl bs := by
    obtain ⟨fuel, hf⟩ := h6
    rcases Go.Deep.open_int_rows Try.underlying26 Try.underlying31 Try.underlying5 (by kernel_rfl) (by kernel_rfl) hf with ⟨hcs, _⟩ | ⟨x, l, c, A, Ln, C, Z, hcs, _, hl, hm, _, hr⟩
    · simp [Value.cells] at hcs
      exact ⟨by rw [hcs.2.1]; exact Nat.zero_le _, fun _ => 0, fun _ _ => 0, fun _ _ => Nat.zero_le _, Or.inl hcs.2.1⟩
    · simp [Value.cells] at hcs
      obtain ⟨rfl, rfl, rfl⟩ := hcs
      refine ⟨Nat.le_trans hl hm, Ln, fun r c => (Z r).getD c 0, fun r hr' => Nat.le_trans (hr r (Nat.lt_of_lt_of_le hr' hl)).2.1 (hr r (Nat.lt_of_lt_of_le hr' hl)).2.2.1, ?_⟩
      by_cases h0 : n6 = 0
      · exact Or.inl h0
      · obtain ⟨b, off, spot⟩ := x
        have hspot : spot = none := by simpa [Addr.add] using World.cell?_spot (hr 0 (by omega)).1
        subst hspot
        refine Or.inr ⟨b, off, rfl, Nat.zero_le _, fun r hr' => ⟨A r, C r, ?_, ?_⟩⟩
        · rw [← add_plain]; exact (hr r (by omega)).1
        · obtain ⟨_, q1, _, _, _, q2, q3⟩ := hr r (by omega)
          exact byts_of q1 q2 q3
  obtain ⟨s7, n7, c7, rfl⟩ := okWide_slice Try.underlying27 (hval 7 27 v7 rfl rfl)
  have k7 := h7
  have lt7 : ∀ x ∈ p7, x.block < W.heap.size := by obtain ⟨m, hm⟩ := k7; exact DataW.trod_lt m _ _ _ hm
  have w7 : n7 ≤ maxLen ∧ ∃ f, NumsF W s7 n7 f := by
    obtain ⟨fuel, hf⟩ := h7
    rcases open_ints Try.underlying27 Try.underlying25 (by kernel_rfl) hf with ⟨hcs, _⟩ | ⟨x, l, c, zs, hcs, _, hl, hm, hz, _, hcell, _⟩
    · simp [Value.cells] at hcs
      exact ⟨by rw [hcs.2.1]; exact Nat.zero_le _, fun _ => 0, Or.inl hcs.2.1⟩
    · simp [Value.cells] at hcs
      obtain ⟨rfl, rfl, rfl⟩ := hcs
      exact ⟨Nat.le_trans hl hm, _, nums_of (by rw [hz]; simpa using hl) hcell⟩
  obtain ⟨s8, n8, c8, rfl⟩ := okWide_slice Try.underlying28 (hval 8 28 v8 rfl rfl)
  have k8 := h8
  have lt8 : ∀ x ∈ p8, x.block < W.heap.size := by obtain ⟨m, hm⟩ := k8; exact DataW.trod_lt m _ _ _ hm
  have w8 : n8 ≤ maxLen ∧ ∃ f, StrsF W s8 n8 f := by
    obtain ⟨fuel, hf⟩ := h8
    rcases open_strings Try.underlying28 Try.underlying9 (by kernel_rfl) hf with ⟨hcs, _⟩ | ⟨x, l, c, ss, hcs, _, hl, hm, hz, _, hcell, hsz⟩
    · simp [Value.cells] at hcs
      exact ⟨by rw [hcs.2.1]; exact Nat.zero_le _, fun _ => ByteArray.empty, Or.inl hcs.2.1⟩
    · simp [Value.cells] at hcs
      obtain ⟨rfl, rfl, rfl⟩ := hcs
      exact ⟨Nat.le_trans hl hm, _, strs_of (by rw [hz]; simpa using hl) hcell hsz⟩
  obtain ⟨s9, n9, c9, rfl⟩ := okWide_slice Try.underlying27 (hval 9 27 v9 rfl rfl)
  have k9 := h9
  have lt9 : ∀ x ∈ p9, x.block < W.heap.size := by obtain ⟨m, hm⟩ := k9; exact DataW.trod_lt m _ _ _ hm
  have w9 : n9 ≤ maxLen ∧ ∃ f, NumsF W s9 n9 f := by
    obtain ⟨fuel, hf⟩ := h9
    rcases open_ints Try.underlying27 Try.underlying25 (by kernel_rfl) hf with ⟨hcs, _⟩ | ⟨x, l, c, zs, hcs, _, hl, hm, hz, _, hcell, _⟩
    · simp [Value.cells] at hcs
      exact ⟨by rw [hcs.2.1]; exact Nat.zero_le _, fun _ => 0, Or.inl hcs.2.1⟩
    · simp [Value.cells] at hcs
      obtain ⟨rfl, rfl, rfl⟩ := hcs
      exact ⟨Nat.le_trans hl hm, _, nums_of (by rw [hz]; simpa using hl) hcell⟩
  obtain ⟨s10, n10, c10, rfl⟩ := okWide_slice Try.underlying29 (hval 10 29 v10 rfl rfl)
  have k10 := h10
  have lt10 : ∀ x ∈ p10, x.block < W.heap.size := by obtain ⟨m, hm⟩ := k10; exact DataW.trod_lt m _ _ _ hm
  have w10 : n10 ≤ maxLen ∧ ∃ f, BoolsF W s10 n10 f := by
    obtain ⟨fuel, hf⟩ := h10
    rcases Go.Deep.open_bools Try.underlying29 Try.underlying4 (by kernel_rfl) hf with ⟨hcs, _⟩ | ⟨x, l, c, B, hcs, _, hl, hm, _, hcell⟩
    · simp [Value.cells] at hcs
      exact ⟨by rw [hcs.2.1]; exact Nat.zero_le _, fun _ => false, Or.inl hcs.2.1⟩
    · simp [Value.cells] at hcs
      obtain ⟨rfl, rfl, rfl⟩ := hcs
      exact ⟨Nat.le_trans hl hm, _, bools_of hl hcell⟩
  clear hA0 hval0
  obtain ⟨b6, tl, bs, t6, f6⟩ := w6
  obtain ⟨b7, g7, f7⟩ := w7
  obtain ⟨b8, g8, f8⟩ := w8
  obtain ⟨b9, g9, f9⟩ := w9
  obtain ⟨b10, g10, f10⟩ := w10
  refine (stream_walk a0 a1 a2 a3 a4 a5 s6 n6 c6 tl bs s7 n7 c7 g7 s8 n8 c8 g8 s9 n9 c9 g9 s10 n10 c10 g10 W w0 w4 w5 b6 b7 b8 b9 b10 t6 f6 f7 f8 f9 f10).mono fun e W' ⟨he, bel⟩ => ?_
  subst he
  exact ⟨_, rfl, _, _, _, [], _, [], hW', trodAll_mk1 (shut_bool Try.underlying4 _), (trodAll_cons_mk (shut_string Try.underlying9 w0) (trodAll_cons_mk (shut_int Try.underlying25 w1) (trodAll_cons_mk (shut_int Try.underlying25 w2) (trodAll_cons_mk (shut_int Try.underlying25 w3) (trodAll_cons_mk (shut_string Try.underlying9 w4) (trodAll_cons_mk (shut_string Try.underlying9 w5) (trodAll_cons_mk (Below.trod laidOut (by kernel_rfl) (of_decide_eq_true (by kernel_rfl)) k6 bel lt6) (trodAll_cons_mk (Below.trod laidOut (by kernel_rfl) (of_decide_eq_true (by kernel_rfl)) k7 bel lt7) (trodAll_cons_mk (Below.trod laidOut (by kernel_rfl) (of_decide_eq_true (by kernel_rfl)) k8 bel lt8) (trodAll_cons_mk (Below.trod laidOut (by kernel_rfl) (of_decide_eq_true (by kernel_rfl)) k9 bel lt9) (trodAll_cons_mk (Below.trod laidOut (by kernel_rfl) (of_decide_eq_true (by kernel_rfl)) k10 bel lt10) trodAll_mk0))))))))))), rfl, bel.frame _, fun h => by cases h⟩

theorem over : Rows.fnStreamPushesStoreEntriesAndCountRow.holds Try.pinned (OpenSpec.ofChange Rows.fnStreamPushesStoreEntriesAndCountSpec) :=
  OpenClaim.holds_of_wide 5 Try.f5 rfl rfl rfl rfl rfl rfl rfl ⟨rfl, rfl, rfl, rfl, rfl⟩ rfl rfl rfl rfl rfl (by kernel_rfl) Try.func5 (by kernel_rfl)
    (of_decide_eq_true (by kernel_rfl)) (by unfold Func.isWrapper; first | (rw [if_pos (by decide +kernel)]; kernel_rfl) | (rw [if_neg (by decide +kernel)]; exact ⟨rfl, rfl⟩))
    (fun os started H enc _ => lifted os started H enc)

/-- ████ THE STATEMENT ████ -/
theorem proved : Rows.FnStreamPushesStoreEntriesAndCountSaid :=
  over
end Go.Proofs.Qxb6609105a.fnStreamPushesStoreEntriesAndCount
