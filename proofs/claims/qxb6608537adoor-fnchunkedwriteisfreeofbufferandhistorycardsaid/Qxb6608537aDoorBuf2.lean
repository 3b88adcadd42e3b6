import Derived.Test.Qxb6608537aDoorBuf
namespace Go.Proofs.Qxb6608537aDoor
open Go.RowKit
set_option linter.unusedVariables false

set_option maxRecDepth 100000 in
set_option maxHeartbeats 4000000 in
theorem grow_small (b n : Nat) (lr : Int) (w : World) (hbk : w.heap[b]? = some (.cells #[.slice none 0 0, .int .i64 0, .int .i8 lr] 46 (0, 0))) (hn : 1 ≤ n) (h64 : n ≤ 64) :
    Calls Tryd.prog 76 #[.pointer (some ⟨b, 0, none⟩), .int .i64 n] w fun e w' => e = .returned (.int .i64 0) ∧ GrewTo w b 0 n lr [] w' := by
  have HL := hideIt (len_any b none 0 0 lr w hbk (by omega))
  have hnil : ∀ W, (binOp .eql 30 (.slice none 0 0) (.slice none 0 0)).run Tryd.prog W = .ok (.bool true) W := fun W => Lib.run_eql_slice_nil_nil W _ _ Tryd.underlying30
  obtain ⟨i0, hi, hz0, hz1, hz2⟩ := info_parts Tryd.info5
  obtain ⟨M, hM⟩ : ∃ M, M = madeCells (Value.int .u8 0).cells ((64 : Int).toNat * i0.size) := ⟨_, rfl⟩
  have hMs : M.size = 64 := by rw [hM, size_madeCells, hz1]; rfl
  have hmk : ∀ W : World, (Instr.makeSlice 30 (.int .i64 (n : Int)) (.int .i64 64)).run Tryd.prog W = .ok (.slice (some ⟨W.heap.size, 0, none⟩) n 64) (W.alloc (.cells M 5)) := fun W => by
    have h := run_makeSlice (P := Tryd.prog) W 30 5 i0 (.int .u8 0) Tryd.underlying30 hi hz0 .i64 .i64 (n : Int) 64 (by omega) (by omega) (by rw [hz1]; decide) (by rw [hz2]; decide) (by decide)
    rw [← hM] at h
    simpa using h
  clear hM hi hz0 hz1 hz2
  have hbW := Lib.lt_of_heap hbk
  go_enter Tryd.func76, Tryd.ntmps76
  go_wp2_with (go_at_call 77; refine HL.out.mono ?_; rintro e W0 ⟨rfl, k, hW0⟩; have HW0 := hideIt hW0; clear hW0; refine Hid.out ?_)
  refine hideIt ?_
  have hbk0 : W0.heap[b]? = some (.cells #[.slice none 0 0, .int .i64 0, .int .i8 lr] 46 (0, 0)) := by rw [HW0.out]; exact hbk
  have c0 : W0.cell? ⟨b, 0, none⟩ = some (.slice none 0 0) := by rw [Lib.cell_of_heap hbk0]; rfl
  have c1 : W0.cell? ⟨b, 1, none⟩ = some (.int .i64 0) := by rw [Lib.cell_of_heap hbk0]; rfl
  have f0 : W0.frozen? ⟨b, 0, none⟩ = false := Lib.frozen_of_heap hbk0 0
  have f1 : W0.frozen? ⟨b, 1, none⟩ = false := Lib.frozen_of_heap hbk0 1
  have hbW0 := Lib.lt_of_heap hbk0
  have c0a : ∀ o, (W0.alloc o).cell? ⟨b, 0, none⟩ = some (.slice none 0 0) := fun o => (World.cell?_of_block (a := ⟨b, 0, none⟩) (Below.heap_alloc W0 o b hbW0)).trans c0
  have f0a : ∀ o, (W0.alloc o).frozen? ⟨b, 0, none⟩ = false := fun o => (World.frozen?_of_block (a := ⟨b, 0, none⟩) (Below.heap_alloc W0 o b hbW0)).trans f0
  have HT := hideIt (Tryd.Buffer_tryGrow_none b _ 0 0 n W0 c0 (Nat.le_refl _) (Nat.zero_le _) (by omega))
  have hgr : w.grownBy W0 (some b) := by rw [HW0.out]; exact ⟨rfl, rfl, rfl, Nat.le_refl _, fun _ _ _ => rfl⟩
  have hsz : W0.heap.size = w.heap.size := by rw [HW0.out]; rfl
  have HS := hideIt (And.intro hgr hsz)
  have HBK := hideIt hbk0
  clear hgr hsz hbk0 hbk
  go_wp2_with (go_at_call 75; refine HT.out.mono ?_; rintro e w' ⟨rfl, hw⟩; obtain rfl := hw.symm; clear hw)
  go_ret
  refine ⟨rfl, 64, M, ?_, ?_, hMs, rfl, by omega, by unfold maxLen; omega, ?_⟩
  · rw [Below.heap_alloc _ _ _ (by simpa [World.setCell] using hbW0), Go.heap_setCell_same W0 b 0 _ _ _ HBK.out, ← HS.out.2, Nat.zero_add]; rfl
  · have hz : (W0.setCell ⟨b, 0, none⟩ (.slice (some ⟨W0.heap.size, 0, none⟩) n 64)).heap.size = w.heap.size := by rw [← HS.out.2]; simp [World.setCell]
    rw [← hz]; exact heap_alloc_new _ _
  · exact Lib.grownBy_allocR (Lib.grownBy_setB HS.out.1 0 _) _

set_option maxRecDepth 100000 in
set_option maxHeartbeats 4000000 in
theorem grow_big (b n : Nat) (lr : Int) (w : World) (hbk : w.heap[b]? = some (.cells #[.slice none 0 0, .int .i64 0, .int .i8 lr] 46 (0, 0))) (hn : 64 < n) (hlim : n ≤ 140737488355328) :
    Calls Tryd.prog 76 #[.pointer (some ⟨b, 0, none⟩), .int .i64 n] w fun e w' => e = .returned (.int .i64 0) ∧ GrewTo w b 0 n lr [] w' := by
  have HL := hideIt (len_any b none 0 0 lr w hbk (by omega))
  have hnil : ∀ W, (binOp .eql 30 (.slice none 0 0) (.slice none 0 0)).run Tryd.prog W = .ok (.bool true) W := fun W => Lib.run_eql_slice_nil_nil W _ _ Tryd.underlying30
  have hbW := Lib.lt_of_heap hbk
  have hwn : IntKind.i64.wrap (n : Int) = n := by rw [IntKind.wrap_i64]; omega
  go_enter Tryd.func76, Tryd.ntmps76
  go_wp2_with (go_at_call 77; refine HL.out.mono ?_; rintro e W0 ⟨rfl, k, hW0⟩; have HW0 := hideIt hW0; clear hW0; refine Hid.out ?_)
  refine hideIt ?_
  have hbk0 : W0.heap[b]? = some (.cells #[.slice none 0 0, .int .i64 0, .int .i8 lr] 46 (0, 0)) := by rw [HW0.out]; exact hbk
  have c0 : W0.cell? ⟨b, 0, none⟩ = some (.slice none 0 0) := by rw [Lib.cell_of_heap hbk0]; rfl
  have c1 : W0.cell? ⟨b, 1, none⟩ = some (.int .i64 0) := by rw [Lib.cell_of_heap hbk0]; rfl
  have f0 : W0.frozen? ⟨b, 0, none⟩ = false := Lib.frozen_of_heap hbk0 0
  have f1 : W0.frozen? ⟨b, 1, none⟩ = false := Lib.frozen_of_heap hbk0 1
  have HT := hideIt (Tryd.Buffer_tryGrow_none b _ 0 0 n W0 c0 (Nat.le_refl _) (Nat.zero_le _) (by omega))
  have hgr : w.grownBy W0.drew (some b) := by rw [HW0.out]; exact ⟨rfl, rfl, rfl, Nat.le_refl _, fun _ _ _ => rfl⟩
  have hsz : W0.drew.heap.size = w.heap.size := by rw [HW0.out]; rfl
  have HS := hideIt (And.intro hgr hsz)
  have HG := hideIt (Tryd.bytes_growSlice_nil n W0.drew (by omega) hlim)
  have HBK := hideIt hbk0
  clear hgr hsz hbk0 hbk
  go_wp2_with (go_at_call 75; refine HT.out.mono ?_; rintro e w' ⟨rfl, hw⟩; obtain rfl := hw.symm; clear hw)
  go_region_with (
      go_at_call 78
      refine HG.out.mono ?_
      rintro e w2 ⟨cap2, cells, rfl, hN, hcsz, hcap2, hcm2, hbel⟩
      have hbk2 : w2.heap[b]? = some (.cells #[.slice none 0 0, .int .i64 0, .int .i8 lr] 46 (0, 0)) := (hbel.block b (by rw [HS.out.2]; exact hbW)).trans HBK.out
      have d0 : w2.cell? ⟨b, 0, none⟩ = some (.slice none 0 0) := by rw [Lib.cell_of_heap hbk2]; rfl
      have d1 : w2.cell? ⟨b, 1, none⟩ = some (.int .i64 0) := by rw [Lib.cell_of_heap hbk2]; rfl
      have e0 : w2.frozen? ⟨b, 0, none⟩ = false := Lib.frozen_of_heap hbk2 0
      have e1 : w2.frozen? ⟨b, 1, none⟩ = false := Lib.frozen_of_heap hbk2 1
      have HE := hideIt (And.intro hN (And.intro hcsz (And.intro hcap2 (And.intro hcm2 (And.intro hbel hbk2)))))
      clear hN hbel hbk2)
  all_goals (
    go_wp2
    go_ret
    exact ⟨rfl, grew_end (W0 := W0.drew) (bs := []) HS.out.2 (by omega) hbW HS.out.1 HE.out.2.2.2.2.1 HE.out.2.2.2.2.2 HE.out.1 HE.out.2.1 rfl (by have := HE.out.2.2.1; omega) HE.out.2.2.2.1⟩)
end Go.Proofs.Qxb6608537aDoor
