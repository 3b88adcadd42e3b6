import Derived.Test.Qxb6608537aDoorDig
import Derived.ArgAppend
namespace Go.Proofs.Qxb6608537aDoor
open Go.RowKit
set_option linter.unusedVariables false

def digs : ByteArray := ⟨#[48, 49, 50, 51, 52, 53, 54, 55, 56, 57, 97, 98, 99, 100, 101, 102, 103, 104, 105, 106, 107, 108, 109, 110, 111, 112, 113, 114, 115, 116, 117, 118, 119, 120, 121, 122]⟩
theorem digE (d : Nat) (h : d < 16) (h' : d < digs.size) : ((digs[d]'h').toNat : Int) = hexD d :=
  match d, h with
  | 0, _ => rfl
  | 1, _ => rfl
  | 2, _ => rfl
  | 3, _ => rfl
  | 4, _ => rfl
  | 5, _ => rfl
  | 6, _ => rfl
  | 7, _ => rfl
  | 8, _ => rfl
  | 9, _ => rfl
  | 10, _ => rfl
  | 11, _ => rfl
  | 12, _ => rfl
  | 13, _ => rfl
  | 14, _ => rfl
  | 15, _ => rfl
  | k + 16, h => absurd h (by omega)

/-- 'append', its run known. -/
theorem wpList_append_run {P : Program} (w : World) {ops : Array Oper} {rest : List Oper} {o : Oper} {a : Act} {Q : Exit → Act → World → Prop}
    (hg : o.guard = none) (s x : Operand) (t : TypeId) (hop : o.op = Op.call { callee := Callee.builtin Builtin.append, args := #[s, x], argTypes := #[t, t] })
    (S X v : Value) (wF : World) (hs : a.eval s = S) (hx : a.eval x = X) (hrun : (Builtin.append_ #[t, t] o.type #[S, X]).run P w = .ok v wF)
    (hK : wpList P ops Q rest (a.put o.dst v) wF) : wpList P ops Q (o :: rest) a w := by
  refine wpList_plain hg fun K hK' => ?_
  unfold Oper.wp
  simp [execOp, hop, resolve, invoke, builtin, hs, hx, hrun, Result.andThen]
  exact hK' _ _ hK

theorem al88 : Tryd.prog.arrayLen 88 = 65 := by kernel_rfl
theorem el88 : Tryd.prog.elem 88 = 5 := by kernel_rfl
theorem slice88 (B k : Nat) (hk : k < 65) (w : World) : (Instr.sliceAt 88 (.pointer (some ⟨B, 0, none⟩)) (some (.int .i64 k)) none none).run Tryd.prog w = .ok (.slice (some ⟨B, k, none⟩) (65 - k) (65 - k)) w := by
  have h := run_sliceAt_array_l (P := Tryd.prog) w 88 ⟨B, 0, none⟩ (by kernel_rfl) .i64 (k : Int) (by omega) (by rw [al88]; omega)
  have hsz : ((sizeOf 5).run Tryd.prog w) = .ok 1 w := by kernel_rfl
  rw [h, el88, hsz, al88]
  have hne : ¬ 65 = k := by omega
  have hadd : (⟨B, 0, none⟩ : Addr).add k = ⟨B, k, none⟩ := by unfold Addr.add; split <;> simp_all
  simp [Result.andThen, slicedAt, hne, hadd]

set_option maxRecDepth 100000 in
set_option maxHeartbeats 4000000 in
theorem fmt_any (d : Value) (n : Nat) (w : World) (hn : n < 4294967296) (hn1 : 0 < n) (h5 : w.cell? ⟨5, 15, none⟩ = some (.int .u8 4)) (hw5 : 5 < w.heap.size) (R : Value → World → Prop)
    (hap : ∀ (c : Array Value) (k : Nat), c.size = 65 → k < 65 → 65 - k = hexN n → c.toList.drop k = hexL n → ∃ v wF, (Builtin.append_ #[30, 30] 30 #[d, .slice (some ⟨w.heap.size, k, none⟩) (65 - k) (65 - k)]).run Tryd.prog (w.alloc (.cells c 88)) = .ok v wF ∧ R v wF) :
    Calls Tryd.prog 40 #[d, .int .u64 n, .int .i64 16, .bool false, .bool true] w fun e w' => ∃ v, e = .returned (.tuple #[v, .string ⟨#[]⟩]) ∧ R v w' := by
  have HAP := hideIt hap
  clear hap
  have H49 := hideIt (fun W => pow2_16 W)
  have H50 : Hid (∀ o, Calls Tryd.prog 50 #[.int .u64 16] (w.alloc o) fun e w' => e = .returned (.int .i64 4) ∧ w' = w.alloc o) := fun o => tz_16 _ ((World.cell?_alloc_lt _ _ _ hw5).trans h5)
  go_enter Tryd.func40, Tryd.ntmps40
  go_wp2_with (first
    | (go_at_call 49; refine (H49.out _).mono ?_; rintro e w' ⟨rfl, hw⟩; subst hw)
    | (go_at_call 50; refine (H50.out _).mono ?_; rintro e w' ⟨rfl, hw⟩; subst hw))
  have h8 := hexN_bound 8 n (by omega)
  go_loopw [13, 1] (fun i u wr => ∃ (k m : Nat) (c : Array Value), i = .int .i64 k ∧ u = .int .u64 m ∧ m ≤ n ∧ Dig n c k m ∧ wr = w.alloc (.cells c 88)) (fun _ u _ => (intOf u).toNat)
  case atStart => exact ⟨65, n, Tryd.zeroCells88, rfl, rfl, Nat.le_refl _, ⟨by kernel_rfl, Nat.le_refl _, by omega, hn1, by rw [List.drop_of_length_le (by rw [show Tryd.zeroCells88.toList.length = 65 by kernel_rfl]; exact Nat.le_refl _), List.append_nil]⟩, rfl⟩
  case round =>
    obtain ⟨k, m, c, rfl, rfl, hm, hd, rfl⟩ := hrel
    have HD := hideIt hd
    by_cases hb : 16 ≤ m
    · have hb' : (16 : Int) ≤ m := by omega
      have hsz : c.size = 65 := hd.1
      have h2 : hexN m = hexN (m / 16 / 16) + 2 := by rw [hexN_pos (by omega), hexN_pos (by omega)]
      obtain ⟨k0, rfl⟩ : ∃ k0, k = k0 + 1 := ⟨k - 1, by have := hd.2.2.1; omega⟩
      have hk0 : k0 < 65 := by have := hd.2.1; omega
      have hc : c[k0]? = some c[k0] := Array.getElem?_eq_getElem (by omega)
      have hand := and15_u64 m (by omega)
      have hix := hexIx (m % 16) (by omega)
      have HX := hideIt h2
      clear hd h2
      go_wp2
      refine ⟨⟨k0, m / 16, _, rfl, by go_num, by omega, ?_, rfl⟩, ?_⟩
      · have hn' := HD.out.next (by omega)
        rw [← digE (m % 16) (by omega) (by show _ < 36; omega)] at hn'
        exact hn'
      · simp [intOf]; omega
    · have hb' : ¬ (16 : Int) ≤ m := by omega
      have hsz : c.size = 65 := hd.1
      have hN1 : hexN m = 1 := by rw [hexN_pos hd.2.2.2.1, show m / 16 = 0 by omega, hexN_zero]
      obtain ⟨k0, rfl⟩ : ∃ k0, k = k0 + 1 := ⟨k - 1, by have := hd.2.2.1; omega⟩
      have hk0 : k0 < 65 := by have := hd.2.1; omega
      have hc : c[k0]? = some c[k0] := Array.getElem?_eq_getElem (by omega)
      have hdg := digE m (by omega) (by show _ < 36; omega)
      have hD2 : (c.setIfInBounds k0 (.int .u8 (hexD m))).toList.drop k0 = hexL n := by
        rw [drop_set (by omega), hd.2.2.2.2, hexL_small (by omega)]; rfl
      have hlenN : 65 - k0 = hexN n := by have := hd.2.2.1; omega
      obtain ⟨v, wF, hrun, hR⟩ := HAP.out _ k0 (by simpa using hsz) hk0 hlenN hD2
      rw [← hdg] at hrun
      have HR := hideIt hR
      have hki : (k0 : Int) < 65 := by omega
      have hm16 : (m : Int) < 16 := by omega
      have hsl := slice88 w.heap.size k0 hk0
      unfold digs at hrun
      clear hd hD2 hR hdg hlenN hN1
      go_wp2_with (at_builtin; refine wpList_append_run _ rfl _ _ 30 rfl _ _ v wF rfl rfl hrun ?_)
      go_ret2
      exact ⟨v, rfl, HR.out⟩
end Go.Proofs.Qxb6608537aDoor
