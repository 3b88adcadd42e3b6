import Derived.Test.Qxb6608971aFam
import Derived.Deep.RegionHeld
namespace Go.Proofs.Qxb6608971a
open Go.RowKit
set_option linter.unusedVariables false

theorem hideIt {p : Prop} (h : p) : Hid p := h

theorem below_step {B : Nat} {W0 w1 w2 : World} (h : Below B W0 w1) (hB : B ≤ W0.heap.size) (hb : Below w1.heap.size w1 w2) : Below B W0 w2 := h.trans (hb.mono (Nat.le_trans hB h.size))
theorem below_alloc {B : Nat} {W0 w1 : World} (h : Below B W0 w1) (hB : B ≤ W0.heap.size) (o : Obj) : Below B W0 (w1.alloc o) := h.alloc (Nat.le_trans hB h.size) o

/-- What 'family' has laid when it made a new family in block nb. -/
structure AddsTo (w : World) (M : Nat) (es : Array MapEntry) (clk : Nat) (key : Value) (stem : ByteArray) (wd tok : Int) (nb : Nat) (W3 : World) : Prop where
  os : W3.os = w.os
  tape : W3.tape = w.tape
  output : W3.output = w.output
  above : w.heap.size < nb
  within : nb < W3.heap.size
  mapped : W3.heap[M]? = some (.map (es.push ⟨key, .pointer (some ⟨nb, 0, none⟩), clk⟩) (clk + 1))
  old : ∀ k, k < w.heap.size → k ≠ M → W3.heap[k]? = w.heap[k]?
  fam : ∃ m, W3.heap[nb]? = some (.cells #[.string stem, .int .i64 wd, .slice none 0 0, .int .u64 0, .map (some m), .int .i64 0, .int .u64 tok] 50 (0, 0))

theorem tok_eq (L : Nat) (hL : L < 255) : IntKind.u64.wrap (10000000000000000000 + IntKind.u64.wrap (IntKind.u64.wrap (L : Int) * 18014398509481984)) = 10000000000000000000 + L * 18014398509481984 := by
  simp only [IntKind.wrap_u64]
  omega

theorem add_facts {w w2 : World} {X M lb : Nat} {NA : Array Value} {es : Array MapEntry} {clk : Nat} (hX : X < w.heap.size) (h8 : w.cell? ⟨X, 8, none⟩ = some (.pointer (some ⟨lb, 0, none⟩))) (f8 : w.frozen? ⟨X, 8, none⟩ = false)
    (h7 : w.cell? ⟨X, 7, none⟩ = some (.map (some M))) (hM : w.heap[M]? = some (.map es clk)) (hbz : Below (w.heap.size + 1) (w.alloc (.cells NA 89)) w2) (bx : Obj) :
    (w2.alloc bx).cell? ⟨X, 7, none⟩ = some (.map (some M)) ∧ (w2.alloc bx).cell? ⟨X, 8, none⟩ = some (.pointer (some ⟨lb, 0, none⟩)) ∧ (w2.alloc bx).frozen? ⟨X, 8, none⟩ = false ∧
    (w2.alloc bx).heap[M]? = some (.map es clk) ∧ (w2.alloc bx).heap[w.heap.size]? = some (.cells NA 89 (0, 0)) ∧ (w2.alloc bx).heap[w2.heap.size]? = some bx ∧ w.heap.size < w2.heap.size ∧
    Below w.heap.size w (w2.alloc bx) := by
  have hMl : M < w.heap.size := (Array.getElem?_eq_some_iff.1 hM).1
  have hz : w.heap.size + 1 ≤ w2.heap.size := by have := hbz.size; simpa using this
  have hb0 : Below w.heap.size w (w2.alloc bx) := ((((Below.refl _ w).alloc (Nat.le_refl _) (.cells NA 89)).trans (hbz.mono (Nat.le_succ _)))).alloc (by omega) bx
  refine ⟨(hb0.cell (p := ⟨X, 7, none⟩) hX).trans h7, (hb0.cell (p := ⟨X, 8, none⟩) hX).trans h8, (hb0.frozen (p := ⟨X, 8, none⟩) hX).trans f8, (hb0.block M hMl).trans hM, ?_, heap_alloc_new _ _, by omega, hb0⟩
  rw [Below.heap_alloc _ _ _ (by omega), hbz.block _ (Nat.lt_succ_self _)]
  exact heap_alloc_new _ _

theorem wpList_mapUpdate_raw {P : Program} {w : World} {ops : Array Oper} {rest : List Oper} {o : Oper} {a : Act} {Q : Exit → Act → World → Prop}
    (hg : o.guard = none) (m x v : Operand) (t : TypeId) (hop : o.op = Op.mapUpdate t m x v) (vm vx vv : Value) (hm : a.eval m = vm) (hx : a.eval x = vx) (hv : a.eval v = vv) (W' : World)
    (hrun : (Instr.mapUpdate t vm vx vv).run P w = .ok () W') (hK : wpList P ops Q rest (a.put o.dst undef) W') : wpList P ops Q (o :: rest) a w := by
  refine wpList_plain hg fun K' hK' => ?_
  unfold Oper.wp
  simp [execOp, hop, hm, hx, hv, hrun, Result.andThen]
  exact hK' _ _ hK

/-- The map's block behind the store. -/
theorem mu_facts {W2 : World} {X M : Nat} {lb : Nat} {es es' : Array MapEntry} {clk clk' : Nat} (hM : W2.heap[M]? = some (.map es clk)) (hXM : X ≠ M) (h8 : W2.cell? ⟨X, 8, none⟩ = some (.pointer (some ⟨lb, 0, none⟩))) (f8 : W2.frozen? ⟨X, 8, none⟩ = false) :
    (ChangeMaps.setBlock W2.drew M (.map es' clk')).cell? ⟨X, 8, none⟩ = some (.pointer (some ⟨lb, 0, none⟩)) ∧ (ChangeMaps.setBlock W2.drew M (.map es' clk')).frozen? ⟨X, 8, none⟩ = false := by
  have hM' : W2.drew.heap[M]? = some (.map es clk) := hM
  constructor
  · rw [World.cell?_of_block (w := W2.drew) (ChangeMaps.heap_setBlock_other hM' _ hXM)]; exact h8
  · rw [ChangeMaps.frozen?_setBlock hM']; exact f8

theorem adds_mk {w w2 : World} {M : Nat} {es : Array MapEntry} {clk : Nat} {key : Value} {stem : ByteArray} {wd tok : Int} {m : Nat} (hM : (w2.alloc (.cells #[.string stem, .int .i64 wd, .slice none 0 0, .int .u64 0, .map (some m), .int .i64 0, .int .u64 tok] 50)).heap[M]? = some (.map es clk))
    (hMl : M < w.heap.size) (hz : w.heap.size < w2.heap.size) (hb : Below w.heap.size w (w2.alloc (.cells #[.string stem, .int .i64 wd, .slice none 0 0, .int .u64 0, .map (some m), .int .i64 0, .int .u64 tok] 50))) :
    AddsTo w M es clk key stem wd tok w2.heap.size (ChangeMaps.setBlock (w2.alloc (.cells #[.string stem, .int .i64 wd, .slice none 0 0, .int .u64 0, .map (some m), .int .i64 0, .int .u64 tok] 50)).drew M (.map (es.push ⟨key, .pointer (some ⟨w2.heap.size, 0, none⟩), clk⟩) (clk + 1))) := by
  refine ⟨hb.os, hb.tape, hb.output, hz, by simp [ChangeMaps.setBlock], ?_, fun k hk hkM => ?_, m, ?_⟩
  · exact ChangeMaps.heap_setBlock_same (w := (w2.alloc _).drew) hM _
  · rw [ChangeMaps.heap_setBlock_other (w := (w2.alloc _).drew) hM _ hkM]; exact hb.block k hk
  · rw [ChangeMaps.heap_setBlock_other (w := (w2.alloc _).drew) hM _ (by omega)]; exact heap_alloc_new _ _

set_option maxRecDepth 100000 in
set_option maxHeartbeats 400000 in
theorem fam_add (X lb M : Nat) (es : Array MapEntry) (clk : Nat) (stem ls : ByteArray) (wd lw : Int) (w : World) (hX : X < w.heap.size) (h8 : w.cell? ⟨X, 8, none⟩ = some (.pointer (some ⟨lb, 0, none⟩)))
   (f8 : w.frozen? ⟨X, 8, none⟩ = false)
   (h7 : w.cell? ⟨X, 7, none⟩ = some (.map (some M)))
   (hl0 : w.cell? ⟨lb, 0, none⟩ = some (.string ls)) (hl1 : w.cell? ⟨lb, 1, none⟩ = some (.int .i64 lw)) (hne : (ls.toList == stem.toList) = false) (h : stem.size ≤ 22) (hw1 : 0 ≤ wd) (hw2 : wd ≤ 255)
   (y0 y1 y2 y3 y4 y5 y6 y7 y8 y9 y10 y11 y12 y13 y14 y15 y16 y17 y18 y19 y20 y21 : Value)
   (hcp : (Builtin.copy_ #[90, 9] 3 #[.slice (some ⟨w.heap.size, 0, none⟩) 24 24, .string stem]).run Try.prog (w.alloc (.cells #[.int .u8 0, .int .u8 0, .int .u8 0, .int .u8 0, .int .u8 0, .int .u8 0, .int .u8 0, .int .u8 0, .int .u8 0, .int .u8 0, .int .u8 0, .int .u8 0, .int .u8 0, .int .u8 0, .int .u8 0, .int .u8 0, .int .u8 0, .int .u8 0, .int .u8 0, .int .u8 0, .int .u8 0, .int .u8 0, .int .u8 0, .int .u8 0] 89)) = .ok (goInt stem.size) (w.alloc (.cells #[y0, y1, y2, y3, y4, y5, y6, y7, y8, y9, y10, y11, y12, y13, y14, y15, y16, y17, y18, y19, y20, y21, .int .u8 0, .int .u8 0] 89)))
   (hM : w.heap[M]? = some (.map es clk)) (L : Nat) (hes : es.size = L) (hL : L < 255) (h8x : w.cell? ⟨X, 8, none⟩ = some (.pointer (some ⟨lb, 0, none⟩))) (hXM : X ≠ M)
   (hmu : ∀ (W : World) (v : Value), W.heap[M]? = some (.map es clk) → (Instr.mapUpdate 43 (.map (some M)) (.agg #[y0, y1, y2, y3, y4, y5, y6, y7, y8, y9, y10, y11, y12, y13, y14, y15, y16, y17, y18, y19, y20, y21, .int .u8 wd, .int .u8 stem.size]) v).run Try.prog W = .ok () (ChangeMaps.setBlock W M (.map (es.push ⟨.agg #[y0, y1, y2, y3, y4, y5, y6, y7, y8, y9, y10, y11, y12, y13, y14, y15, y16, y17, y18, y19, y20, y21, .int .u8 wd, .int .u8 stem.size], v, clk⟩) (clk + 1))))
   (hlk : ∀ o, (Instr.lookup 43 (.map (some M)) (.agg #[y0, y1, y2, y3, y4, y5, y6, y7, y8, y9, y10, y11, y12, y13, y14, y15, y16, y17, y18, y19, y20, y21, .int .u8 wd, .int .u8 stem.size]) false).run Try.prog ((w.alloc o).drew) = .ok (.pointer none) ((w.alloc o).drew)) :
    Calls Try.prog 24 #[.pointer (some ⟨X, 0, none⟩), .string stem, .int .i64 wd, (.bool true)] w fun e w' => ∃ nb W3, e = .returned (.pointer (some ⟨nb, 0, none⟩)) ∧ w' = W3.setCell ⟨X, 8, none⟩ (.pointer (some ⟨nb, 0, none⟩)) ∧ AddsTo w M es clk (.agg #[y0, y1, y2, y3, y4, y5, y6, y7, y8, y9, y10, y11, y12, y13, y14, y15, y16, y17, y18, y19, y20, y21, .int .u8 wd, .int .u8 stem.size]) stem wd (10000000000000000000 + L * 18014398509481984) nb W3 := by
  have h7a : ∀ o, (w.alloc o).cell? ⟨X, 7, none⟩ = some (.map (some M)) := fun o => (World.cell?_alloc_lt _ _ _ hX).trans h7
  have h8a : ∀ o, (w.alloc o).cell? ⟨X, 8, none⟩ = some (.pointer (some ⟨lb, 0, none⟩)) := fun o => (World.cell?_alloc_lt _ _ _ hX).trans h8
  have f8a : ∀ o, (w.alloc o).frozen? ⟨X, 8, none⟩ = false := fun o => (World.frozen?_alloc_old _ _ _ (Nat.ne_of_lt hX)).trans f8
  have hMl : M < w.heap.size := (Array.getElem?_eq_some_iff.1 hM).1
  have hln : ∀ o, (Builtin.len_ #[43] 3 #[.map (some M)]).run Try.prog (w.alloc o).drew = .ok (.int .i64 L) (w.alloc o).drew := fun o => by
    rw [run_len_map (W := (w.alloc o).drew) ((Below.heap_alloc w o M hMl).trans hM), hes]
  have hS : ∀ W', Below (w.heap.size + 1) (w.alloc (.cells #[y0, y1, y2, y3, y4, y5, y6, y7, y8, y9, y10, y11, y12, y13, y14, y15, y16, y17, y18, y19, y20, y21, .int .u8 wd, .int .u8 stem.size] 89)) W' → W'.cell? ⟨X, 7, none⟩ = some (.map (some M)) ∧ (Builtin.len_ #[43] 3 #[.map (some M)]).run Try.prog W' = .ok (.int .i64 L) W' ∧ Below (w.heap.size + 1) (w.alloc (.cells #[y0, y1, y2, y3, y4, y5, y6, y7, y8, y9, y10, y11, y12, y13, y14, y15, y16, y17, y18, y19, y20, y21, .int .u8 wd, .int .u8 stem.size] 89)) W' := fun W' hb =>
    ⟨(hb.cell (p := ⟨X, 7, none⟩) (Nat.lt_succ_of_lt hX)).trans (h7a _), by rw [run_len_map (W := W') ((hb.block M (Nat.lt_succ_of_lt hMl)).trans ((Below.heap_alloc w _ M hMl).trans hM)), hes], hb⟩
  have HS := hideIt hS
  clear hS
  have HMU := hideIt hmu
  clear hmu
  have hlt : ((L : Int) == 255) = false := by simp; omega
  clear hes
  go_enter Try.func24, Try.ntmps24
  go_wp2
  refine region_still (by kernel_rfl) (by kernel_rfl) ?_
  iterate 4 still_step
  refine wpStill_load_row rfl 89 _ rfl w.heap.size rfl 89 _ (0, 0) _ _ (heap_alloc_new w _) Try.underlying89 Try.size89 ?_
  go_frame
  still_step
  still_step
  refine wpStill_nil ?_
  go_wp2
  go_region_held (fun w' => w'.cell? ⟨X, 7, none⟩ = some (.map (some M)) ∧ (Builtin.len_ #[43] 3 #[.map (some M)]).run Try.prog w' = .ok (.int .i64 L) w' ∧ Below (w.heap.size + 1) (w.alloc (.cells #[y0, y1, y2, y3, y4, y5, y6, y7, y8, y9, y10, y11, y12, y13, y14, y15, y16, y17, y18, y19, y20, y21, .int .u8 wd, .int .u8 stem.size] 89)) w')
    ((first
      | exact HS.out _ ((Below.refl _ _).drew.drew)
      | exact HS.out _ (below_step (‹_ ∧ _ ∧ Below _ (w.alloc _) _›).2.2 (by simp) hb2)
      | exact HS.out _ (below_step (‹_ ∧ _ ∧ Below _ (w.alloc _) _›).2.2 (by simp) hb1)
      | exact HS.out _ (below_alloc (‹_ ∧ _ ∧ Below _ (w.alloc _) _›).2.2 (by simp) _)))
    (first | (go_at_call 27; refine (clone_any _ _ (by omega)).mono ?_; rintro e w1 ⟨rfl, hb1⟩) | (go_at_call 21; refine (newtab_any _).mono ?_; rintro e w2 ⟨⟨m, rfl⟩, hb2⟩))
  rename_i hHeld
  clear hHeld
  have hbz : Below (w.heap.size + 1) (w.alloc (.cells #[y0, y1, y2, y3, y4, y5, y6, y7, y8, y9, y10, y11, y12, y13, y14, y15, y16, y17, y18, y19, y20, y21, .int .u8 wd, .int .u8 stem.size] 89)) w2 := below_step (below_step ((Below.refl _ _).drew.drew) (by simp) hb1) (by simp) hb2
  rw [tok_eq L hL]
  obtain ⟨tok, htok⟩ : ∃ tok : Int, tok = 10000000000000000000 + L * 18014398509481984 := ⟨_, rfl⟩
  rw [← htok]
  have HT := hideIt htok
  obtain ⟨g7, g8, gf, gM, gN, gB, gz, gb⟩ := add_facts hX h8 f8 h7 hM hbz (.cells #[.string stem, .int .i64 wd, .slice none 0 0, .int .u64 0, .map (some m), .int .i64 0, .int .u64 tok] 50)
  have Hadd := hideIt (adds_mk (key := .agg #[y0, y1, y2, y3, y4, y5, y6, y7, y8, y9, y10, y11, y12, y13, y14, y15, y16, y17, y18, y19, y20, y21, .int .u8 wd, .int .u8 stem.size]) gM hMl gz gb)
  have hrun := HMU.out (w2.alloc (.cells #[.string stem, .int .i64 wd, .slice none 0 0, .int .u64 0, .map (some m), .int .i64 0, .int .u64 tok] 50)).drew (.pointer (some ⟨w2.heap.size, 0, none⟩)) gM
  obtain ⟨k8, kf⟩ := mu_facts (es' := es.push ⟨.agg #[y0, y1, y2, y3, y4, y5, y6, y7, y8, y9, y10, y11, y12, y13, y14, y15, y16, y17, y18, y19, y20, y21, .int .u8 wd, .int .u8 stem.size], .pointer (some ⟨w2.heap.size, 0, none⟩), clk⟩) (clk' := clk + 1) gM hXM g8 gf
  obtain ⟨nb, hnb⟩ : ∃ nb, nb = w2.heap.size := ⟨_, rfl⟩
  rw [← hnb] at Hadd hrun k8 kf ⊢
  obtain ⟨W2, hW2⟩ : ∃ W2, W2 = w2.alloc (.cells #[.string stem, .int .i64 wd, .slice none 0 0, .int .u64 0, .map (some m), .int .i64 0, .int .u64 tok] 50) := ⟨_, rfl⟩
  rw [← hW2] at g7 gN Hadd hrun k8 kf ⊢
  obtain ⟨W3, hW3⟩ : ∃ W3, W3 = ChangeMaps.setBlock W2.drew M (.map (es.push ⟨.agg #[y0, y1, y2, y3, y4, y5, y6, y7, y8, y9, y10, y11, y12, y13, y14, y15, y16, y17, y18, y19, y20, y21, .int .u8 wd, .int .u8 stem.size], .pointer (some ⟨nb, 0, none⟩), clk⟩) (clk + 1)) := ⟨_, rfl⟩
  rw [← hW3] at Hadd hrun k8 kf
  rw [htok] at Hadd
  have Hrun := hideIt hrun
  clear hrun hW3 hW2 hnb htok gB gM g8 gf gz gb hbz hb1 hb2 HS HMU hcp hlk h7a h8a f8a hln hM h8 h8x f8 h7 hl0 hl1 HT
  go_wp2
  refine region_still_tail 6 (by kernel_rfl) (by kernel_rfl) ?_
  simp only [List.take_succ_cons, List.take_zero, List.drop_succ_cons, List.drop_zero]
  iterate 4 still_step
  refine wpStill_load_row rfl 89 _ rfl w.heap.size rfl 89 _ (0, 0) _ _ gN Try.underlying89 Try.size89 ?_
  go_frame
  still_step
  refine wpStill_nil ?_
  refine wpList_mapUpdate_raw rfl _ _ _ 43 rfl _ _ _ rfl rfl rfl W3 Hrun.out ?_
  go_frame
  go_wp2
  go_ret
  exact ⟨_, _, rfl, rfl, Hadd.out⟩

set_option maxRecDepth 100000 in
set_option maxHeartbeats 400000 in
theorem fam_add_b (X lb M : Nat) (es : Array MapEntry) (clk : Nat) (stem ls : ByteArray) (wd lw : Int) (w : World) (hX : X < w.heap.size) (h8 : w.cell? ⟨X, 8, none⟩ = some (.pointer (some ⟨lb, 0, none⟩)))
   (f8 : w.frozen? ⟨X, 8, none⟩ = false)
   (h7 : w.cell? ⟨X, 7, none⟩ = some (.map (some M)))
   (hl0 : w.cell? ⟨lb, 0, none⟩ = some (.string ls)) (hl1 : w.cell? ⟨lb, 1, none⟩ = some (.int .i64 lw)) (hne : (ls.toList == stem.toList) = true) (hne2 : (lw == wd) = false) (h : stem.size ≤ 22) (hw1 : 0 ≤ wd) (hw2 : wd ≤ 255)
   (y0 y1 y2 y3 y4 y5 y6 y7 y8 y9 y10 y11 y12 y13 y14 y15 y16 y17 y18 y19 y20 y21 : Value)
   (hcp : (Builtin.copy_ #[90, 9] 3 #[.slice (some ⟨w.heap.size, 0, none⟩) 24 24, .string stem]).run Try.prog (w.alloc (.cells #[.int .u8 0, .int .u8 0, .int .u8 0, .int .u8 0, .int .u8 0, .int .u8 0, .int .u8 0, .int .u8 0, .int .u8 0, .int .u8 0, .int .u8 0, .int .u8 0, .int .u8 0, .int .u8 0, .int .u8 0, .int .u8 0, .int .u8 0, .int .u8 0, .int .u8 0, .int .u8 0, .int .u8 0, .int .u8 0, .int .u8 0, .int .u8 0] 89)) = .ok (goInt stem.size) (w.alloc (.cells #[y0, y1, y2, y3, y4, y5, y6, y7, y8, y9, y10, y11, y12, y13, y14, y15, y16, y17, y18, y19, y20, y21, .int .u8 0, .int .u8 0] 89)))
   (hM : w.heap[M]? = some (.map es clk)) (L : Nat) (hes : es.size = L) (hL : L < 255) (h8x : w.cell? ⟨X, 8, none⟩ = some (.pointer (some ⟨lb, 0, none⟩))) (hXM : X ≠ M)
   (hmu : ∀ (W : World) (v : Value), W.heap[M]? = some (.map es clk) → (Instr.mapUpdate 43 (.map (some M)) (.agg #[y0, y1, y2, y3, y4, y5, y6, y7, y8, y9, y10, y11, y12, y13, y14, y15, y16, y17, y18, y19, y20, y21, .int .u8 wd, .int .u8 stem.size]) v).run Try.prog W = .ok () (ChangeMaps.setBlock W M (.map (es.push ⟨.agg #[y0, y1, y2, y3, y4, y5, y6, y7, y8, y9, y10, y11, y12, y13, y14, y15, y16, y17, y18, y19, y20, y21, .int .u8 wd, .int .u8 stem.size], v, clk⟩) (clk + 1))))
   (hlk : ∀ o, (Instr.lookup 43 (.map (some M)) (.agg #[y0, y1, y2, y3, y4, y5, y6, y7, y8, y9, y10, y11, y12, y13, y14, y15, y16, y17, y18, y19, y20, y21, .int .u8 wd, .int .u8 stem.size]) false).run Try.prog ((w.alloc o).drew) = .ok (.pointer none) ((w.alloc o).drew)) :
    Calls Try.prog 24 #[.pointer (some ⟨X, 0, none⟩), .string stem, .int .i64 wd, (.bool true)] w fun e w' => ∃ nb W3, e = .returned (.pointer (some ⟨nb, 0, none⟩)) ∧ w' = W3.setCell ⟨X, 8, none⟩ (.pointer (some ⟨nb, 0, none⟩)) ∧ AddsTo w M es clk (.agg #[y0, y1, y2, y3, y4, y5, y6, y7, y8, y9, y10, y11, y12, y13, y14, y15, y16, y17, y18, y19, y20, y21, .int .u8 wd, .int .u8 stem.size]) stem wd (10000000000000000000 + L * 18014398509481984) nb W3 := by
  have h7a : ∀ o, (w.alloc o).cell? ⟨X, 7, none⟩ = some (.map (some M)) := fun o => (World.cell?_alloc_lt _ _ _ hX).trans h7
  have h8a : ∀ o, (w.alloc o).cell? ⟨X, 8, none⟩ = some (.pointer (some ⟨lb, 0, none⟩)) := fun o => (World.cell?_alloc_lt _ _ _ hX).trans h8
  have f8a : ∀ o, (w.alloc o).frozen? ⟨X, 8, none⟩ = false := fun o => (World.frozen?_alloc_old _ _ _ (Nat.ne_of_lt hX)).trans f8
  have hMl : M < w.heap.size := (Array.getElem?_eq_some_iff.1 hM).1
  have hln : ∀ o, (Builtin.len_ #[43] 3 #[.map (some M)]).run Try.prog (w.alloc o).drew = .ok (.int .i64 L) (w.alloc o).drew := fun o => by
    rw [run_len_map (W := (w.alloc o).drew) ((Below.heap_alloc w o M hMl).trans hM), hes]
  have hS : ∀ W', Below (w.heap.size + 1) (w.alloc (.cells #[y0, y1, y2, y3, y4, y5, y6, y7, y8, y9, y10, y11, y12, y13, y14, y15, y16, y17, y18, y19, y20, y21, .int .u8 wd, .int .u8 stem.size] 89)) W' → W'.cell? ⟨X, 7, none⟩ = some (.map (some M)) ∧ (Builtin.len_ #[43] 3 #[.map (some M)]).run Try.prog W' = .ok (.int .i64 L) W' ∧ Below (w.heap.size + 1) (w.alloc (.cells #[y0, y1, y2, y3, y4, y5, y6, y7, y8, y9, y10, y11, y12, y13, y14, y15, y16, y17, y18, y19, y20, y21, .int .u8 wd, .int .u8 stem.size] 89)) W' := fun W' hb =>
    ⟨(hb.cell (p := ⟨X, 7, none⟩) (Nat.lt_succ_of_lt hX)).trans (h7a _), by rw [run_len_map (W := W') ((hb.block M (Nat.lt_succ_of_lt hMl)).trans ((Below.heap_alloc w _ M hMl).trans hM)), hes], hb⟩
  have HS := hideIt hS
  clear hS
  have HMU := hideIt hmu
  clear hmu
  have hlt : ((L : Int) == 255) = false := by simp; omega
  clear hes
  go_enter Try.func24, Try.ntmps24
  go_wp2
  refine region_still (by kernel_rfl) (by kernel_rfl) ?_
  iterate 4 still_step
  refine wpStill_load_row rfl 89 _ rfl w.heap.size rfl 89 _ (0, 0) _ _ (heap_alloc_new w _) Try.underlying89 Try.size89 ?_
  go_frame
  still_step
  still_step
  refine wpStill_nil ?_
  go_wp2
  go_region_held (fun w' => w'.cell? ⟨X, 7, none⟩ = some (.map (some M)) ∧ (Builtin.len_ #[43] 3 #[.map (some M)]).run Try.prog w' = .ok (.int .i64 L) w' ∧ Below (w.heap.size + 1) (w.alloc (.cells #[y0, y1, y2, y3, y4, y5, y6, y7, y8, y9, y10, y11, y12, y13, y14, y15, y16, y17, y18, y19, y20, y21, .int .u8 wd, .int .u8 stem.size] 89)) w')
    ((first
      | exact HS.out _ ((Below.refl _ _).drew.drew)
      | exact HS.out _ (below_step (‹_ ∧ _ ∧ Below _ (w.alloc _) _›).2.2 (by simp) hb2)
      | exact HS.out _ (below_step (‹_ ∧ _ ∧ Below _ (w.alloc _) _›).2.2 (by simp) hb1)
      | exact HS.out _ (below_alloc (‹_ ∧ _ ∧ Below _ (w.alloc _) _›).2.2 (by simp) _)))
    (first | (go_at_call 27; refine (clone_any _ _ (by omega)).mono ?_; rintro e w1 ⟨rfl, hb1⟩) | (go_at_call 21; refine (newtab_any _).mono ?_; rintro e w2 ⟨⟨m, rfl⟩, hb2⟩))
  rename_i hHeld
  clear hHeld
  have hbz : Below (w.heap.size + 1) (w.alloc (.cells #[y0, y1, y2, y3, y4, y5, y6, y7, y8, y9, y10, y11, y12, y13, y14, y15, y16, y17, y18, y19, y20, y21, .int .u8 wd, .int .u8 stem.size] 89)) w2 := below_step (below_step ((Below.refl _ _).drew.drew) (by simp) hb1) (by simp) hb2
  rw [tok_eq L hL]
  obtain ⟨tok, htok⟩ : ∃ tok : Int, tok = 10000000000000000000 + L * 18014398509481984 := ⟨_, rfl⟩
  rw [← htok]
  have HT := hideIt htok
  obtain ⟨g7, g8, gf, gM, gN, gB, gz, gb⟩ := add_facts hX h8 f8 h7 hM hbz (.cells #[.string stem, .int .i64 wd, .slice none 0 0, .int .u64 0, .map (some m), .int .i64 0, .int .u64 tok] 50)
  have Hadd := hideIt (adds_mk (key := .agg #[y0, y1, y2, y3, y4, y5, y6, y7, y8, y9, y10, y11, y12, y13, y14, y15, y16, y17, y18, y19, y20, y21, .int .u8 wd, .int .u8 stem.size]) gM hMl gz gb)
  have hrun := HMU.out (w2.alloc (.cells #[.string stem, .int .i64 wd, .slice none 0 0, .int .u64 0, .map (some m), .int .i64 0, .int .u64 tok] 50)).drew (.pointer (some ⟨w2.heap.size, 0, none⟩)) gM
  obtain ⟨k8, kf⟩ := mu_facts (es' := es.push ⟨.agg #[y0, y1, y2, y3, y4, y5, y6, y7, y8, y9, y10, y11, y12, y13, y14, y15, y16, y17, y18, y19, y20, y21, .int .u8 wd, .int .u8 stem.size], .pointer (some ⟨w2.heap.size, 0, none⟩), clk⟩) (clk' := clk + 1) gM hXM g8 gf
  obtain ⟨nb, hnb⟩ : ∃ nb, nb = w2.heap.size := ⟨_, rfl⟩
  rw [← hnb] at Hadd hrun k8 kf ⊢
  obtain ⟨W2, hW2⟩ : ∃ W2, W2 = w2.alloc (.cells #[.string stem, .int .i64 wd, .slice none 0 0, .int .u64 0, .map (some m), .int .i64 0, .int .u64 tok] 50) := ⟨_, rfl⟩
  rw [← hW2] at g7 gN Hadd hrun k8 kf ⊢
  obtain ⟨W3, hW3⟩ : ∃ W3, W3 = ChangeMaps.setBlock W2.drew M (.map (es.push ⟨.agg #[y0, y1, y2, y3, y4, y5, y6, y7, y8, y9, y10, y11, y12, y13, y14, y15, y16, y17, y18, y19, y20, y21, .int .u8 wd, .int .u8 stem.size], .pointer (some ⟨nb, 0, none⟩), clk⟩) (clk + 1)) := ⟨_, rfl⟩
  rw [← hW3] at Hadd hrun k8 kf
  rw [htok] at Hadd
  have Hrun := hideIt hrun
  clear hrun hW3 hW2 hnb htok gB gM g8 gf gz gb hbz hb1 hb2 HS HMU hcp hlk h7a h8a f8a hln hM h8 h8x f8 h7 hl0 hl1 hne2 HT
  go_wp2
  refine region_still_tail 6 (by kernel_rfl) (by kernel_rfl) ?_
  simp only [List.take_succ_cons, List.take_zero, List.drop_succ_cons, List.drop_zero]
  iterate 4 still_step
  refine wpStill_load_row rfl 89 _ rfl w.heap.size rfl 89 _ (0, 0) _ _ gN Try.underlying89 Try.size89 ?_
  go_frame
  still_step
  refine wpStill_nil ?_
  refine wpList_mapUpdate_raw rfl _ _ _ 43 rfl _ _ _ rfl rfl rfl W3 Hrun.out ?_
  go_frame
  go_wp2
  go_ret
  exact ⟨_, _, rfl, rfl, Hadd.out⟩
end Go.Proofs.Qxb6608971a
