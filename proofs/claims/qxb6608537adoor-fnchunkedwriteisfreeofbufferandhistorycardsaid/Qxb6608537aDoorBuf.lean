import Derived.Test.Qxb6608537aDoorShelf
import Derived.Lib.Buffer
import Derived.Lib.BufferMore
import Derived.Lib.BufferWrite
import Derived.Lib.BufferOwn
import Derived.Laws.CopyRow
import Derived.Below
import Derived.WalkKit
import Derived.BigCall
import Derived.BigGuard
import Derived.RegionTactic
import Derived.Deep.RegionHeld3
import Derived.Deep.Draws
import Derived.Deep.QuietTactic
import Derived.Deep.RegionWith

namespace Go.Proofs.Qxb6608537aDoor
open Go.RowKit
set_option linter.unusedVariables false

theorem hideIt {p : Prop} (h : p) : Hid p := h

theorem Tryd.info5 : (Tryd.prog.info? 5).map (fun i => (i.zero, i.size, i.bytes)) = some (some (.int .u8 0), 1, 1) := by kernel_rfl
theorem Tryd.size5 : (Tryd.prog.info? 5).map (·.size) = some 1 := by kernel_rfl

/-- EVERY OLD BLOCK BUT b STANDS. -/
def Only (b : Nat) (w w' : World) : Prop := w.grownBy w' (some b)

set_option maxRecDepth 100000 in
set_option maxHeartbeats 1000000 in
theorem len_any (b : Nat) (ao : Option Addr) (l cap : Nat) (lr : Int) (w : World) (h : w.heap[b]? = some (.cells #[.slice ao l cap, .int .i64 0, .int .i8 lr] 46 (0, 0))) (hl : l ≤ 140737488355328) :
    Calls Tryd.prog 77 #[.pointer (some ⟨b, 0, none⟩)] w fun e w' => e = .returned (.int .i64 l) ∧ ∃ n, w' = w.drewN n := by
  have c0 : w.cell? ⟨b, 0, none⟩ = some (.slice ao l cap) := by rw [Lib.cell_of_heap h]; rfl
  have c1 : w.cell? ⟨b, 1, none⟩ = some (.int .i64 0) := by rw [Lib.cell_of_heap h]; rfl
  clear h
  go_enter Tryd.func77, Tryd.ntmps77
  go_wp2
  go_quiet (fail)
  go_wp2
  go_ret
  exact ⟨by simp [IntKind.wrap_i64]; omega, _, rfl⟩

/-- What 'grow' leaves: a new row. -/
def GrewTo (w : World) (b l n : Nat) (lr : Int) (bs : List Value) (w' : World) : Prop :=
  ∃ cap2 cells, w'.heap[b]? = some (.cells #[.slice (some ⟨w.heap.size, 0, none⟩) (l + n) cap2, .int .i64 0, .int .i8 lr] 46 (0, 0)) ∧ w'.heap[w.heap.size]? = some (.cells cells 5 (0, 0)) ∧ cells.size = cap2 ∧ cells.toList.take l = bs ∧ l + n ≤ cap2 ∧ cap2 ≤ maxLen ∧ w.grownBy w' (some b)

theorem grew_end {w W0 w2 : World} {b l n m cap2 : Nat} {lr : Int} {v v2 : Value} {cells : Array Value} {bs : List Value} (hs0 : W0.heap.size = w.heap.size) (hm' : m = l + n) (hb : b < w.heap.size) (hg : w.grownBy W0 (some b)) (hbel : Below W0.heap.size W0 w2) (hbk : w2.heap[b]? = some (.cells #[v, .int .i64 0, .int .i8 lr] 46 (0, 0))) (hN : w2.heap[W0.heap.size]? = some (.cells cells 5 (0, 0))) (hs : cells.size = cap2) (ht : cells.toList.take l = bs) (hle : l + n ≤ cap2) (hm : cap2 ≤ maxLen) :
    GrewTo w b l n lr bs (((w2.setCell ⟨b, 0, none⟩ v2).setCell ⟨b, 1, none⟩ (.int .i64 0)).setCell ⟨b, 0, none⟩ (.slice (some ⟨W0.heap.size, 0, none⟩) m cap2)) := by
  subst hm'
  rw [hs0] at hN ⊢
  refine ⟨cap2, cells, ?_, ?_, hs, ht, hle, hm, Lib.grownBy_setB (Lib.grownBy_setB (Lib.grownBy_setB (Lib.grownBy_below hg hbel) 0 _) 1 _) 0 _⟩
  · have q1 : (w2.setCell ⟨b, 0, none⟩ v2).heap[b]? = some (.cells #[v2, .int .i64 0, .int .i8 lr] 46 (0, 0)) := by rw [Go.heap_setCell_same w2 b 0 _ _ _ hbk]; rfl
    have q2 : ((w2.setCell ⟨b, 0, none⟩ v2).setCell ⟨b, 1, none⟩ (.int .i64 0)).heap[b]? = some (.cells #[v2, .int .i64 0, .int .i8 lr] 46 (0, 0)) := by rw [Go.heap_setCell_same _ b 1 _ _ _ q1]; rfl
    rw [Go.heap_setCell_same _ b 0 _ _ _ q2]; rfl
  · rw [Go.heap_setCell_other _ _ _ _ (by simp; omega), Go.heap_setCell_other _ _ _ _ (by simp; omega), Go.heap_setCell_other _ _ _ _ (by simp; omega)]
    exact hN

set_option maxRecDepth 100000 in
set_option maxHeartbeats 4000000 in
theorem grow_row (b g l cap n : Nat) (lr : Int) (cur : Array Value) (w : World) (hbk : w.heap[b]? = some (.cells #[.slice (some ⟨g, 0, none⟩) l cap, .int .i64 0, .int .i8 lr] 46 (0, 0))) (hg : w.heap[g]? = some (.cells cur 5 (0, 0))) (hlc : l ≤ cap) (hcm : cap ≤ maxLen) (hcs : cur.size = cap) (h1 : ∀ v ∈ cur.toList.take l, v.oneCell' = true) (hn : 1 ≤ n) (hroom : cap - l < n) (hlim : l + n ≤ 140737488355328) :
    Calls Tryd.prog 76 #[.pointer (some ⟨b, 0, none⟩), .int .i64 n] w fun e w' => e = .returned (.int .i64 l) ∧ GrewTo w b l n lr (cur.toList.take l) w' := by
  have HL := hideIt (len_any b (some ⟨g, 0, none⟩) l cap lr w hbk (by omega))
  have hnil : ∀ W, (binOp .eql 30 (.slice (some ⟨g, 0, none⟩) l cap) (.slice none 0 0)).run Tryd.prog W = .ok (.bool false) W := fun W => Lib.run_eql_slice_some_nil W _ _ _ Tryd.underlying30
  have hbW := Lib.lt_of_heap hbk
  have hc2 : cap ≤ 140737488355328 := by omega
  have hwn : IntKind.i64.wrap (n : Int) = n := by rw [IntKind.wrap_i64]; omega
  go_enter Tryd.func76, Tryd.ntmps76
  go_wp2_with (go_at_call 77; refine HL.out.mono ?_; rintro e W0 ⟨rfl, k, hW0⟩; have HW0 := hideIt hW0; clear hW0; refine Hid.out ?_)
  refine hideIt ?_
  have hbk0 : W0.heap[b]? = some (.cells #[.slice (some ⟨g, 0, none⟩) l cap, .int .i64 0, .int .i8 lr] 46 (0, 0)) := by rw [HW0.out]; exact hbk
  have hg0 : W0.heap[g]? = some (.cells cur 5 (0, 0)) := by rw [HW0.out]; exact hg
  have c0 : W0.cell? ⟨b, 0, none⟩ = some (.slice (some ⟨g, 0, none⟩) l cap) := by rw [Lib.cell_of_heap hbk0]; rfl
  have c1 : W0.cell? ⟨b, 1, none⟩ = some (.int .i64 0) := by rw [Lib.cell_of_heap hbk0]; rfl
  have f0 : W0.frozen? ⟨b, 0, none⟩ = false := Lib.frozen_of_heap hbk0 0
  have f1 : W0.frozen? ⟨b, 1, none⟩ = false := Lib.frozen_of_heap hbk0 1
  have HT := hideIt (Tryd.Buffer_tryGrow_none b _ l cap n W0 c0 hlc hcm hroom)
  have hcm' := hcm
  unfold maxLen at hcm'
  have hgr : w.grownBy W0.drew (some b) := by rw [HW0.out]; exact ⟨rfl, rfl, rfl, Nat.le_refl _, fun _ _ _ => rfl⟩
  have hsz : W0.drew.heap.size = w.heap.size := by rw [HW0.out]; rfl
  have HS := hideIt (And.intro hgr hsz)
  have HG := hideIt (Tryd.bytes_growSlice_row g l cap n cur W0.drew hg0 hcs hlc hn hlim hc2 h1)
  have HBK := hideIt hbk0
  clear hgr hsz hbk0 hbk
  by_cases hl0 : l = 0
  · subst hl0
    go_wp2_with (go_at_call 75; refine HT.out.mono ?_; rintro e w' ⟨rfl, hw⟩; obtain rfl := hw.symm; clear hw)
    go_region_with (
      go_at_call 78
      refine HG.out.mono ?_
      rintro e w2 ⟨cap2, cells, rfl, hN, hcsz, htk, hcap2, hcm2, hbel⟩
      have hbk2 : w2.heap[b]? = some (.cells #[.slice (some ⟨g, 0, none⟩) 0 cap, .int .i64 0, .int .i8 lr] 46 (0, 0)) := (hbel.block b (by rw [HS.out.2]; exact hbW)).trans HBK.out
      have d0 : w2.cell? ⟨b, 0, none⟩ = some (.slice (some ⟨g, 0, none⟩) 0 cap) := by rw [Lib.cell_of_heap hbk2]; rfl
      have d1 : w2.cell? ⟨b, 1, none⟩ = some (.int .i64 0) := by rw [Lib.cell_of_heap hbk2]; rfl
      have e0 : w2.frozen? ⟨b, 0, none⟩ = false := Lib.frozen_of_heap hbk2 0
      have e1 : w2.frozen? ⟨b, 1, none⟩ = false := Lib.frozen_of_heap hbk2 1
      have HE := hideIt (And.intro hN (And.intro hcsz (And.intro htk (And.intro hcap2 (And.intro hcm2 (And.intro hbel hbk2))))))
      clear hN htk hbel hbk2)
    all_goals (
      go_wp2
      go_ret
      exact ⟨rfl, grew_end (W0 := W0.drew) HS.out.2 (by omega) hbW HS.out.1 HE.out.2.2.2.2.2.1 HE.out.2.2.2.2.2.2 HE.out.1 HE.out.2.1 HE.out.2.2.1 HE.out.2.2.2.1 HE.out.2.2.2.2.1⟩)
  · have hl0' : ¬ (l : Int) = 0 := by omega
    go_wp2_with (go_at_call 75; refine HT.out.mono ?_; rintro e w' ⟨rfl, hw⟩; obtain rfl := hw.symm; clear hw)
    go_region_with (
      go_at_call 78
      refine HG.out.mono ?_
      rintro e w2 ⟨cap2, cells, rfl, hN, hcsz, htk, hcap2, hcm2, hbel⟩
      have hbk2 : w2.heap[b]? = some (.cells #[.slice (some ⟨g, 0, none⟩) l cap, .int .i64 0, .int .i8 lr] 46 (0, 0)) := (hbel.block b (by rw [HS.out.2]; exact hbW)).trans HBK.out
      have d0 : w2.cell? ⟨b, 0, none⟩ = some (.slice (some ⟨g, 0, none⟩) l cap) := by rw [Lib.cell_of_heap hbk2]; rfl
      have d1 : w2.cell? ⟨b, 1, none⟩ = some (.int .i64 0) := by rw [Lib.cell_of_heap hbk2]; rfl
      have e0 : w2.frozen? ⟨b, 0, none⟩ = false := Lib.frozen_of_heap hbk2 0
      have e1 : w2.frozen? ⟨b, 1, none⟩ = false := Lib.frozen_of_heap hbk2 1
      have HE := hideIt (And.intro hN (And.intro hcsz (And.intro htk (And.intro hcap2 (And.intro hcm2 (And.intro hbel hbk2))))))
      clear hN htk hbel hbk2)
    all_goals (
      go_wp2
      go_ret
      exact ⟨rfl, grew_end (W0 := W0.drew) HS.out.2 (by omega) hbW HS.out.1 HE.out.2.2.2.2.2.1 HE.out.2.2.2.2.2.2 HE.out.1 HE.out.2.1 HE.out.2.2.1 HE.out.2.2.2.1 HE.out.2.2.2.2.1⟩)
end Go.Proofs.Qxb6608537aDoor
