import Derived.Test.Qxb6608971aBase
import Derived.BigQuiet
import Derived.Deep.QuietTactic
import Derived.Deep.RegionWith
import Derived.StillTailTactics
import Derived.Maps.RangeWalk
namespace Go.Proofs.Qxb6608971a
open Go.RowKit
set_option linter.unusedVariables false

set_option maxHeartbeats 400000 in
theorem fam_same (X lb : Nat) (stem : ByteArray) (wd : Int) (add : Bool) (w : World) (h8 : w.cell? ⟨X, 8, none⟩ = some (.pointer (some ⟨lb, 0, none⟩)))
   (hl0 : w.cell? ⟨lb, 0, none⟩ = some (.string stem)) (hl1 : w.cell? ⟨lb, 1, none⟩ = some (.int .i64 wd)) :
    Calls Try.prog 24 #[.pointer (some ⟨X, 0, none⟩), .string stem, .int .i64 wd, .bool add] w fun e w' => e = .returned (.pointer (some ⟨lb, 0, none⟩)) ∧ w' = w := by
  go_enter Try.func24, Try.ntmps24
  go_wp2
  go_ret
  exact ⟨rfl, rfl⟩

theorem wanted_none {o : Oper} (h : o.guard = none) (y : Nat → Option Bool) : Region.wanted o y = true := by simp [Region.wanted, h]

/-- A whole array (or struct) read out of a block of its own, in a region whose head only reads. -/
theorem wpStill_load_row {P : Program} {ops : Array Oper} {w : World} {Q : Act → Prop} {rest : List Oper} {o : Oper} {a : Act} (hgd : o.guard = none) (ty : TypeId) (x : Operand) (ho : o.op = .load ty x)
    (g : Nat) (hx : a.eval x = .pointer (some ⟨g, 0, none⟩)) (t : TypeId) (cs : Array Value) (fr : Nat × Nat) (n : Nat) (e : TypeId) (hg : w.heap[g]? = some (.cells cs t fr))
    (hu : P.underlying ty = some (.array n e)) (hi : (P.info? ty).map (·.size) = some cs.size)
    (h : wpStill P ops w Q rest (a.put o.dst (.agg cs))) : wpStill P ops w Q (o :: rest) a := by
  refine wpStill_step fun K hK => ?_
  rw [if_pos (wanted_none hgd _)]
  unfold Oper.still execOp
  simp only [ho, hx, Instr.loadAt, Instr.sureAddr, Sem.run_bind, Sem.run_pure, Result.andThen_ok, run_loadVar_row w g t ty cs fr _ hg hu rfl hi]
  exact ⟨rfl, hK _ h⟩

theorem region_still {P : Program} {id : Nat} {Q : Exit → Act → World → Prop} {a : Act} {w : World} {l : List Oper} (hm : P.follows .mixedOrders = true) (hB : Region.lexB .any l.toArray = true)
    (h : wpStill P l.toArray w.drew (fun a' => Q .normal a' w.drew) l a) : (Code.region id l.toArray true).wp P Q a w := wp_region_still_lit hm hB h

theorem region_still_tail {P : Program} {id : Nat} {Q : Exit → Act → World → Prop} {a : Act} {w : World} {l : List Oper} (n : Nat) (hm : P.follows .mixedOrders = true) (hB : Region.lexTailB .any l.toArray n = true)
    (h : wpStill P l.toArray w.drew (fun a' => wpList P l.toArray Q (l.drop n) a' w.drew) (l.take n) a) : (Code.region id l.toArray true).wp P Q a w := wp_region_still_tail n hm hB h

theorem run_len_map {W : World} {M : Nat} {es : Array MapEntry} {clk : Nat} (hM : W.heap[M]? = some (.map es clk)) :
    (Builtin.len_ #[43] 3 #[.map (some M)]).run Try.prog W = .ok (.int .i64 es.size) W := by
  simp [Builtin.len_, run_underlying Try.underlying43, MapKept.run_getObj_map hM, goInt]

theorem Try.size89 : (Try.prog.info? 89).map (·.size) = some 24 := by kernel_rfl


set_option maxRecDepth 100000 in
set_option maxHeartbeats 400000 in
theorem fam_found (X lb M fb : Nat) (stem ls : ByteArray) (wd lw : Int) (add : Bool) (w : World) (hX : X < w.heap.size) (h8 : w.cell? ⟨X, 8, none⟩ = some (.pointer (some ⟨lb, 0, none⟩)))
   (f8 : w.frozen? ⟨X, 8, none⟩ = false)
   (h7 : w.cell? ⟨X, 7, none⟩ = some (.map (some M)))
   (hl0 : w.cell? ⟨lb, 0, none⟩ = some (.string ls)) (hl1 : w.cell? ⟨lb, 1, none⟩ = some (.int .i64 lw)) (hne : (ls.toList == stem.toList) = false) (h : stem.size ≤ 22) (hw1 : 0 ≤ wd) (hw2 : wd ≤ 255)
   (y0 y1 y2 y3 y4 y5 y6 y7 y8 y9 y10 y11 y12 y13 y14 y15 y16 y17 y18 y19 y20 y21 : Value)
   (hcp : (Builtin.copy_ #[90, 9] 3 #[.slice (some ⟨w.heap.size, 0, none⟩) 24 24, .string stem]).run Try.prog (w.alloc (.cells #[.int .u8 0, .int .u8 0, .int .u8 0, .int .u8 0, .int .u8 0, .int .u8 0, .int .u8 0, .int .u8 0, .int .u8 0, .int .u8 0, .int .u8 0, .int .u8 0, .int .u8 0, .int .u8 0, .int .u8 0, .int .u8 0, .int .u8 0, .int .u8 0, .int .u8 0, .int .u8 0, .int .u8 0, .int .u8 0, .int .u8 0, .int .u8 0] 89)) = .ok (goInt stem.size) (w.alloc (.cells #[y0, y1, y2, y3, y4, y5, y6, y7, y8, y9, y10, y11, y12, y13, y14, y15, y16, y17, y18, y19, y20, y21, .int .u8 0, .int .u8 0] 89)))
   (hlk : ∀ o, (Instr.lookup 43 (.map (some M)) (.agg #[y0, y1, y2, y3, y4, y5, y6, y7, y8, y9, y10, y11, y12, y13, y14, y15, y16, y17, y18, y19, y20, y21, .int .u8 wd, .int .u8 stem.size]) false).run Try.prog ((w.alloc o).drew) = .ok (.pointer (some ⟨fb, 0, none⟩)) ((w.alloc o).drew)) :
    Calls Try.prog 24 #[.pointer (some ⟨X, 0, none⟩), .string stem, .int .i64 wd, .bool add] w fun e w' => e = .returned (.pointer (some ⟨fb, 0, none⟩)) ∧ ∃ o, w' = ((w.setCell ⟨X, 8, none⟩ (.pointer (some ⟨fb, 0, none⟩))).alloc o).drew := by
  have h7a : ∀ o, (w.alloc o).cell? ⟨X, 7, none⟩ = some (.map (some M)) := fun o => (World.cell?_alloc_lt _ _ _ hX).trans h7
  have h8a : ∀ o, (w.alloc o).cell? ⟨X, 8, none⟩ = some (.pointer (some ⟨lb, 0, none⟩)) := fun o => (World.cell?_alloc_lt _ _ _ hX).trans h8
  have f8a : ∀ o, (w.alloc o).frozen? ⟨X, 8, none⟩ = false := fun o => (World.frozen?_alloc_old _ _ _ (Nat.ne_of_lt hX)).trans f8
  go_enter Try.func24, Try.ntmps24
  go_wp2
  refine region_still (by kernel_rfl) (by kernel_rfl) ?_
  iterate 4 still_step
  refine wpStill_load_row rfl 89 _ rfl w.heap.size rfl 89 _ (0, 0) _ _ (heap_alloc_new w _) Try.underlying89 Try.size89 ?_
  go_frame
  still_step
  still_step
  refine wpStill_nil ?_
  go_wp2
  go_ret
  exact ⟨rfl, _, rfl⟩

set_option maxRecDepth 100000 in
set_option maxHeartbeats 400000 in
theorem fam_skip (X lb M : Nat) (stem ls : ByteArray) (wd lw : Int) (w : World) (hX : X < w.heap.size) (h8 : w.cell? ⟨X, 8, none⟩ = some (.pointer (some ⟨lb, 0, none⟩)))
   (f8 : w.frozen? ⟨X, 8, none⟩ = false)
   (h7 : w.cell? ⟨X, 7, none⟩ = some (.map (some M)))
   (hl0 : w.cell? ⟨lb, 0, none⟩ = some (.string ls)) (hl1 : w.cell? ⟨lb, 1, none⟩ = some (.int .i64 lw)) (hne : (ls.toList == stem.toList) = false) (h : stem.size ≤ 22) (hw1 : 0 ≤ wd) (hw2 : wd ≤ 255)
   (y0 y1 y2 y3 y4 y5 y6 y7 y8 y9 y10 y11 y12 y13 y14 y15 y16 y17 y18 y19 y20 y21 : Value)
   (hcp : (Builtin.copy_ #[90, 9] 3 #[.slice (some ⟨w.heap.size, 0, none⟩) 24 24, .string stem]).run Try.prog (w.alloc (.cells #[.int .u8 0, .int .u8 0, .int .u8 0, .int .u8 0, .int .u8 0, .int .u8 0, .int .u8 0, .int .u8 0, .int .u8 0, .int .u8 0, .int .u8 0, .int .u8 0, .int .u8 0, .int .u8 0, .int .u8 0, .int .u8 0, .int .u8 0, .int .u8 0, .int .u8 0, .int .u8 0, .int .u8 0, .int .u8 0, .int .u8 0, .int .u8 0] 89)) = .ok (goInt stem.size) (w.alloc (.cells #[y0, y1, y2, y3, y4, y5, y6, y7, y8, y9, y10, y11, y12, y13, y14, y15, y16, y17, y18, y19, y20, y21, .int .u8 0, .int .u8 0] 89)))
   (hlk : ∀ o, (Instr.lookup 43 (.map (some M)) (.agg #[y0, y1, y2, y3, y4, y5, y6, y7, y8, y9, y10, y11, y12, y13, y14, y15, y16, y17, y18, y19, y20, y21, .int .u8 wd, .int .u8 stem.size]) false).run Try.prog ((w.alloc o).drew) = .ok (.pointer none) ((w.alloc o).drew)) :
    Calls Try.prog 24 #[.pointer (some ⟨X, 0, none⟩), .string stem, .int .i64 wd, (.bool false)] w fun e w' => e = .returned (.pointer none) ∧ ∃ o, w' = (w.alloc o).drew := by
  have h7a : ∀ o, (w.alloc o).cell? ⟨X, 7, none⟩ = some (.map (some M)) := fun o => (World.cell?_alloc_lt _ _ _ hX).trans h7
  have h8a : ∀ o, (w.alloc o).cell? ⟨X, 8, none⟩ = some (.pointer (some ⟨lb, 0, none⟩)) := fun o => (World.cell?_alloc_lt _ _ _ hX).trans h8
  have f8a : ∀ o, (w.alloc o).frozen? ⟨X, 8, none⟩ = false := fun o => (World.frozen?_alloc_old _ _ _ (Nat.ne_of_lt hX)).trans f8
  go_enter Try.func24, Try.ntmps24
  go_wp2
  refine region_still (by kernel_rfl) (by kernel_rfl) ?_
  iterate 4 still_step
  refine wpStill_load_row rfl 89 _ rfl w.heap.size rfl 89 _ (0, 0) _ _ (heap_alloc_new w _) Try.underlying89 Try.size89 ?_
  go_frame
  still_step
  still_step
  refine wpStill_nil ?_
  go_wp2
  go_ret
  exact ⟨rfl, _, rfl⟩

set_option maxRecDepth 100000 in
set_option maxHeartbeats 400000 in
theorem fam_full (X lb M : Nat) (es : Array MapEntry) (clk : Nat) (stem ls : ByteArray) (wd lw : Int) (w : World) (hX : X < w.heap.size) (h8 : w.cell? ⟨X, 8, none⟩ = some (.pointer (some ⟨lb, 0, none⟩)))
   (f8 : w.frozen? ⟨X, 8, none⟩ = false)
   (h7 : w.cell? ⟨X, 7, none⟩ = some (.map (some M)))
   (hl0 : w.cell? ⟨lb, 0, none⟩ = some (.string ls)) (hl1 : w.cell? ⟨lb, 1, none⟩ = some (.int .i64 lw)) (hne : (ls.toList == stem.toList) = false) (h : stem.size ≤ 22) (hw1 : 0 ≤ wd) (hw2 : wd ≤ 255)
   (y0 y1 y2 y3 y4 y5 y6 y7 y8 y9 y10 y11 y12 y13 y14 y15 y16 y17 y18 y19 y20 y21 : Value)
   (hcp : (Builtin.copy_ #[90, 9] 3 #[.slice (some ⟨w.heap.size, 0, none⟩) 24 24, .string stem]).run Try.prog (w.alloc (.cells #[.int .u8 0, .int .u8 0, .int .u8 0, .int .u8 0, .int .u8 0, .int .u8 0, .int .u8 0, .int .u8 0, .int .u8 0, .int .u8 0, .int .u8 0, .int .u8 0, .int .u8 0, .int .u8 0, .int .u8 0, .int .u8 0, .int .u8 0, .int .u8 0, .int .u8 0, .int .u8 0, .int .u8 0, .int .u8 0, .int .u8 0, .int .u8 0] 89)) = .ok (goInt stem.size) (w.alloc (.cells #[y0, y1, y2, y3, y4, y5, y6, y7, y8, y9, y10, y11, y12, y13, y14, y15, y16, y17, y18, y19, y20, y21, .int .u8 0, .int .u8 0] 89)))
   (hM : w.heap[M]? = some (.map es clk)) (hes : es.size = 255)
   (hlk : ∀ o, (Instr.lookup 43 (.map (some M)) (.agg #[y0, y1, y2, y3, y4, y5, y6, y7, y8, y9, y10, y11, y12, y13, y14, y15, y16, y17, y18, y19, y20, y21, .int .u8 wd, .int .u8 stem.size]) false).run Try.prog ((w.alloc o).drew) = .ok (.pointer none) ((w.alloc o).drew)) :
    Calls Try.prog 24 #[.pointer (some ⟨X, 0, none⟩), .string stem, .int .i64 wd, (.bool true)] w fun e w' => e = .returned (.pointer none) ∧ ∃ o, w' = (w.alloc o).drew := by
  have h7a : ∀ o, (w.alloc o).cell? ⟨X, 7, none⟩ = some (.map (some M)) := fun o => (World.cell?_alloc_lt _ _ _ hX).trans h7
  have h8a : ∀ o, (w.alloc o).cell? ⟨X, 8, none⟩ = some (.pointer (some ⟨lb, 0, none⟩)) := fun o => (World.cell?_alloc_lt _ _ _ hX).trans h8
  have f8a : ∀ o, (w.alloc o).frozen? ⟨X, 8, none⟩ = false := fun o => (World.frozen?_alloc_old _ _ _ (Nat.ne_of_lt hX)).trans f8
  have hMl : M < w.heap.size := (Array.getElem?_eq_some_iff.1 hM).1
  have hln : ∀ o, (Builtin.len_ #[43] 3 #[.map (some M)]).run Try.prog (w.alloc o).drew = .ok (.int .i64 255) (w.alloc o).drew := fun o => by
    rw [run_len_map (W := (w.alloc o).drew) ((Below.heap_alloc w o M hMl).trans hM), hes]; rfl
  go_enter Try.func24, Try.ntmps24
  go_wp2
  refine region_still (by kernel_rfl) (by kernel_rfl) ?_
  iterate 4 still_step
  refine wpStill_load_row rfl 89 _ rfl w.heap.size rfl 89 _ (0, 0) _ _ (heap_alloc_new w _) Try.underlying89 Try.size89 ?_
  go_frame
  still_step
  still_step
  refine wpStill_nil ?_
  go_wp2
  go_ret
  exact ⟨rfl, _, rfl⟩

set_option maxRecDepth 100000 in
set_option maxHeartbeats 400000 in
theorem fam_found_b (X lb M fb : Nat) (stem ls : ByteArray) (wd lw : Int) (add : Bool) (w : World) (hX : X < w.heap.size) (h8 : w.cell? ⟨X, 8, none⟩ = some (.pointer (some ⟨lb, 0, none⟩)))
   (f8 : w.frozen? ⟨X, 8, none⟩ = false)
   (h7 : w.cell? ⟨X, 7, none⟩ = some (.map (some M)))
   (hl0 : w.cell? ⟨lb, 0, none⟩ = some (.string ls)) (hl1 : w.cell? ⟨lb, 1, none⟩ = some (.int .i64 lw)) (hne : (ls.toList == stem.toList) = true) (hne2 : (lw == wd) = false) (h : stem.size ≤ 22) (hw1 : 0 ≤ wd) (hw2 : wd ≤ 255)
   (y0 y1 y2 y3 y4 y5 y6 y7 y8 y9 y10 y11 y12 y13 y14 y15 y16 y17 y18 y19 y20 y21 : Value)
   (hcp : (Builtin.copy_ #[90, 9] 3 #[.slice (some ⟨w.heap.size, 0, none⟩) 24 24, .string stem]).run Try.prog (w.alloc (.cells #[.int .u8 0, .int .u8 0, .int .u8 0, .int .u8 0, .int .u8 0, .int .u8 0, .int .u8 0, .int .u8 0, .int .u8 0, .int .u8 0, .int .u8 0, .int .u8 0, .int .u8 0, .int .u8 0, .int .u8 0, .int .u8 0, .int .u8 0, .int .u8 0, .int .u8 0, .int .u8 0, .int .u8 0, .int .u8 0, .int .u8 0, .int .u8 0] 89)) = .ok (goInt stem.size) (w.alloc (.cells #[y0, y1, y2, y3, y4, y5, y6, y7, y8, y9, y10, y11, y12, y13, y14, y15, y16, y17, y18, y19, y20, y21, .int .u8 0, .int .u8 0] 89)))
   (hlk : ∀ o, (Instr.lookup 43 (.map (some M)) (.agg #[y0, y1, y2, y3, y4, y5, y6, y7, y8, y9, y10, y11, y12, y13, y14, y15, y16, y17, y18, y19, y20, y21, .int .u8 wd, .int .u8 stem.size]) false).run Try.prog ((w.alloc o).drew) = .ok (.pointer (some ⟨fb, 0, none⟩)) ((w.alloc o).drew)) :
    Calls Try.prog 24 #[.pointer (some ⟨X, 0, none⟩), .string stem, .int .i64 wd, .bool add] w fun e w' => e = .returned (.pointer (some ⟨fb, 0, none⟩)) ∧ ∃ o, w' = ((w.setCell ⟨X, 8, none⟩ (.pointer (some ⟨fb, 0, none⟩))).alloc o).drew := by
  have h7a : ∀ o, (w.alloc o).cell? ⟨X, 7, none⟩ = some (.map (some M)) := fun o => (World.cell?_alloc_lt _ _ _ hX).trans h7
  have h8a : ∀ o, (w.alloc o).cell? ⟨X, 8, none⟩ = some (.pointer (some ⟨lb, 0, none⟩)) := fun o => (World.cell?_alloc_lt _ _ _ hX).trans h8
  have f8a : ∀ o, (w.alloc o).frozen? ⟨X, 8, none⟩ = false := fun o => (World.frozen?_alloc_old _ _ _ (Nat.ne_of_lt hX)).trans f8
  go_enter Try.func24, Try.ntmps24
  go_wp2
  refine region_still (by kernel_rfl) (by kernel_rfl) ?_
  iterate 4 still_step
  refine wpStill_load_row rfl 89 _ rfl w.heap.size rfl 89 _ (0, 0) _ _ (heap_alloc_new w _) Try.underlying89 Try.size89 ?_
  go_frame
  still_step
  still_step
  refine wpStill_nil ?_
  go_wp2
  go_ret
  exact ⟨rfl, _, rfl⟩

set_option maxRecDepth 100000 in
set_option maxHeartbeats 400000 in
theorem fam_skip_b (X lb M : Nat) (stem ls : ByteArray) (wd lw : Int) (w : World) (hX : X < w.heap.size) (h8 : w.cell? ⟨X, 8, none⟩ = some (.pointer (some ⟨lb, 0, none⟩)))
   (f8 : w.frozen? ⟨X, 8, none⟩ = false)
   (h7 : w.cell? ⟨X, 7, none⟩ = some (.map (some M)))
   (hl0 : w.cell? ⟨lb, 0, none⟩ = some (.string ls)) (hl1 : w.cell? ⟨lb, 1, none⟩ = some (.int .i64 lw)) (hne : (ls.toList == stem.toList) = true) (hne2 : (lw == wd) = false) (h : stem.size ≤ 22) (hw1 : 0 ≤ wd) (hw2 : wd ≤ 255)
   (y0 y1 y2 y3 y4 y5 y6 y7 y8 y9 y10 y11 y12 y13 y14 y15 y16 y17 y18 y19 y20 y21 : Value)
   (hcp : (Builtin.copy_ #[90, 9] 3 #[.slice (some ⟨w.heap.size, 0, none⟩) 24 24, .string stem]).run Try.prog (w.alloc (.cells #[.int .u8 0, .int .u8 0, .int .u8 0, .int .u8 0, .int .u8 0, .int .u8 0, .int .u8 0, .int .u8 0, .int .u8 0, .int .u8 0, .int .u8 0, .int .u8 0, .int .u8 0, .int .u8 0, .int .u8 0, .int .u8 0, .int .u8 0, .int .u8 0, .int .u8 0, .int .u8 0, .int .u8 0, .int .u8 0, .int .u8 0, .int .u8 0] 89)) = .ok (goInt stem.size) (w.alloc (.cells #[y0, y1, y2, y3, y4, y5, y6, y7, y8, y9, y10, y11, y12, y13, y14, y15, y16, y17, y18, y19, y20, y21, .int .u8 0, .int .u8 0] 89)))
   (hlk : ∀ o, (Instr.lookup 43 (.map (some M)) (.agg #[y0, y1, y2, y3, y4, y5, y6, y7, y8, y9, y10, y11, y12, y13, y14, y15, y16, y17, y18, y19, y20, y21, .int .u8 wd, .int .u8 stem.size]) false).run Try.prog ((w.alloc o).drew) = .ok (.pointer none) ((w.alloc o).drew)) :
    Calls Try.prog 24 #[.pointer (some ⟨X, 0, none⟩), .string stem, .int .i64 wd, (.bool false)] w fun e w' => e = .returned (.pointer none) ∧ ∃ o, w' = (w.alloc o).drew := by
  have h7a : ∀ o, (w.alloc o).cell? ⟨X, 7, none⟩ = some (.map (some M)) := fun o => (World.cell?_alloc_lt _ _ _ hX).trans h7
  have h8a : ∀ o, (w.alloc o).cell? ⟨X, 8, none⟩ = some (.pointer (some ⟨lb, 0, none⟩)) := fun o => (World.cell?_alloc_lt _ _ _ hX).trans h8
  have f8a : ∀ o, (w.alloc o).frozen? ⟨X, 8, none⟩ = false := fun o => (World.frozen?_alloc_old _ _ _ (Nat.ne_of_lt hX)).trans f8
  go_enter Try.func24, Try.ntmps24
  go_wp2
  refine region_still (by kernel_rfl) (by kernel_rfl) ?_
  iterate 4 still_step
  refine wpStill_load_row rfl 89 _ rfl w.heap.size rfl 89 _ (0, 0) _ _ (heap_alloc_new w _) Try.underlying89 Try.size89 ?_
  go_frame
  still_step
  still_step
  refine wpStill_nil ?_
  go_wp2
  go_ret
  exact ⟨rfl, _, rfl⟩

set_option maxRecDepth 100000 in
set_option maxHeartbeats 400000 in
theorem fam_full_b (X lb M : Nat) (es : Array MapEntry) (clk : Nat) (stem ls : ByteArray) (wd lw : Int) (w : World) (hX : X < w.heap.size) (h8 : w.cell? ⟨X, 8, none⟩ = some (.pointer (some ⟨lb, 0, none⟩)))
   (f8 : w.frozen? ⟨X, 8, none⟩ = false)
   (h7 : w.cell? ⟨X, 7, none⟩ = some (.map (some M)))
   (hl0 : w.cell? ⟨lb, 0, none⟩ = some (.string ls)) (hl1 : w.cell? ⟨lb, 1, none⟩ = some (.int .i64 lw)) (hne : (ls.toList == stem.toList) = true) (hne2 : (lw == wd) = false) (h : stem.size ≤ 22) (hw1 : 0 ≤ wd) (hw2 : wd ≤ 255)
   (y0 y1 y2 y3 y4 y5 y6 y7 y8 y9 y10 y11 y12 y13 y14 y15 y16 y17 y18 y19 y20 y21 : Value)
   (hcp : (Builtin.copy_ #[90, 9] 3 #[.slice (some ⟨w.heap.size, 0, none⟩) 24 24, .string stem]).run Try.prog (w.alloc (.cells #[.int .u8 0, .int .u8 0, .int .u8 0, .int .u8 0, .int .u8 0, .int .u8 0, .int .u8 0, .int .u8 0, .int .u8 0, .int .u8 0, .int .u8 0, .int .u8 0, .int .u8 0, .int .u8 0, .int .u8 0, .int .u8 0, .int .u8 0, .int .u8 0, .int .u8 0, .int .u8 0, .int .u8 0, .int .u8 0, .int .u8 0, .int .u8 0] 89)) = .ok (goInt stem.size) (w.alloc (.cells #[y0, y1, y2, y3, y4, y5, y6, y7, y8, y9, y10, y11, y12, y13, y14, y15, y16, y17, y18, y19, y20, y21, .int .u8 0, .int .u8 0] 89)))
   (hM : w.heap[M]? = some (.map es clk)) (hes : es.size = 255)
   (hlk : ∀ o, (Instr.lookup 43 (.map (some M)) (.agg #[y0, y1, y2, y3, y4, y5, y6, y7, y8, y9, y10, y11, y12, y13, y14, y15, y16, y17, y18, y19, y20, y21, .int .u8 wd, .int .u8 stem.size]) false).run Try.prog ((w.alloc o).drew) = .ok (.pointer none) ((w.alloc o).drew)) :
    Calls Try.prog 24 #[.pointer (some ⟨X, 0, none⟩), .string stem, .int .i64 wd, (.bool true)] w fun e w' => e = .returned (.pointer none) ∧ ∃ o, w' = (w.alloc o).drew := by
  have h7a : ∀ o, (w.alloc o).cell? ⟨X, 7, none⟩ = some (.map (some M)) := fun o => (World.cell?_alloc_lt _ _ _ hX).trans h7
  have h8a : ∀ o, (w.alloc o).cell? ⟨X, 8, none⟩ = some (.pointer (some ⟨lb, 0, none⟩)) := fun o => (World.cell?_alloc_lt _ _ _ hX).trans h8
  have f8a : ∀ o, (w.alloc o).frozen? ⟨X, 8, none⟩ = false := fun o => (World.frozen?_alloc_old _ _ _ (Nat.ne_of_lt hX)).trans f8
  have hMl : M < w.heap.size := (Array.getElem?_eq_some_iff.1 hM).1
  have hln : ∀ o, (Builtin.len_ #[43] 3 #[.map (some M)]).run Try.prog (w.alloc o).drew = .ok (.int .i64 255) (w.alloc o).drew := fun o => by
    rw [run_len_map (W := (w.alloc o).drew) ((Below.heap_alloc w o M hMl).trans hM), hes]; rfl
  go_enter Try.func24, Try.ntmps24
  go_wp2
  refine region_still (by kernel_rfl) (by kernel_rfl) ?_
  iterate 4 still_step
  refine wpStill_load_row rfl 89 _ rfl w.heap.size rfl 89 _ (0, 0) _ _ (heap_alloc_new w _) Try.underlying89 Try.size89 ?_
  go_frame
  still_step
  still_step
  refine wpStill_nil ?_
  go_wp2
  go_ret
  exact ⟨rfl, _, rfl⟩

end Go.Proofs.Qxb6608971a
