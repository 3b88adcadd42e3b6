import Derived.Test.Qxb6608537aDoorBuf4
namespace Go.Proofs.Qxb6608537aDoor
open Go.RowKit
set_option linter.unusedVariables false

/-- The cells of a bufio.Writer over the buffer b. -/
def wrC (b g size n : Nat) : Array Value := #[.nilIface, .slice (some ⟨g, 0, none⟩) size size, .int .i64 n, .iface 34 (.pointer (some ⟨b, 0, none⟩))]

/-- The blocks of a writer lie apart. -/
def Apart (b X g : Nat) (ro : Option Nat) : Prop := b ≠ X ∧ b ≠ g ∧ X ≠ g ∧ ro ≠ some X ∧ ro ≠ some g

/-- THE STATE OF A WRITER: the bytes.Buffer b holds bs; of the row g the first n cells wait. -/
def St (w : World) (b X g size n : Nat) (ro : Option Nat) (bs : List Value) (gc : Array Value) : Prop :=
  Buf w b ro bs ∧ w.heap[X]? = some (.cells (wrC b g size n) 53 (0, 0)) ∧ w.heap[g]? = some (.cells gc 5 (0, 0)) ∧ gc.size = size ∧ 1 ≤ size ∧ size ≤ 65536 ∧ n ≤ size ∧ (∀ v ∈ gc.toList.take n, v.oneCell' = true) ∧ Apart b X g ro

/-- THE FRAME: what is not the writer's stands. -/
def Fr (b X g : Nat) (ro : Option Nat) (w w' : World) : Prop :=
  w'.os = w.os ∧ w'.tape = w.tape ∧ w'.output = w.output ∧ w.heap.size ≤ w'.heap.size ∧ ∀ k, k < w.heap.size → k ≠ b → k ≠ X → k ≠ g → some k ≠ ro → w'.heap[k]? = w.heap[k]?

def NewRow (w : World) (ro ro' : Option Nat) : Prop := ro' = ro ∨ ∃ r, ro' = some r ∧ w.heap.size ≤ r

theorem Fr.refl (b X g : Nat) (ro : Option Nat) (w : World) : Fr b X g ro w w := ⟨rfl, rfl, rfl, Nat.le_refl _, fun _ _ _ _ _ _ => rfl⟩
theorem Fr.drewN {b X g : Nat} {ro : Option Nat} {w w' : World} (h : Fr b X g ro w w') (n : Nat) : Fr b X g ro w (w'.drewN n) := h
theorem Fr.drew {b X g : Nat} {ro : Option Nat} {w w' : World} (h : Fr b X g ro w w') : Fr b X g ro w w'.drew := h
theorem Fr.trans {b X g : Nat} {ro ro' : Option Nat} {w w1 w2 : World} (h : Fr b X g ro w w1) (hr : NewRow w ro ro') (k : Fr b X g ro' w1 w2) : Fr b X g ro w w2 := by
  obtain ⟨a1, a2, a3, a4, a5⟩ := h
  obtain ⟨c1, c2, c3, c4, c5⟩ := k
  refine ⟨c1.trans a1, c2.trans a2, c3.trans a3, Nat.le_trans a4 c4, fun i hi hb hX hg hro => ?_⟩
  refine (c5 i (Nat.lt_of_lt_of_le hi a4) hb hX hg ?_).trans (a5 i hi hb hX hg hro)
  rcases hr with rfl | ⟨r, rfl, hr⟩
  · exact hro
  · intro e; cases e; omega
theorem NewRow.trans {w w1 : World} {a b c : Option Nat} (h : NewRow w a b) (hs : w.heap.size ≤ w1.heap.size) (k : NewRow w1 b c) : NewRow w a c := by
  rcases k with rfl | ⟨r, rfl, hr⟩
  · exact h
  · exact Or.inr ⟨r, rfl, by omega⟩

theorem St.drewN {w : World} {b X g size n : Nat} {ro : Option Nat} {bs : List Value} {gc : Array Value} (h : St w b X g size n ro bs gc) (k : Nat) : St (w.drewN k) b X g size n ro bs gc := h
theorem St.drew {w : World} {b X g size n : Nat} {ro : Option Nat} {bs : List Value} {gc : Array Value} (h : St w b X g size n ro bs gc) : St w.drew b X g size n ro bs gc := h

set_option maxRecDepth 100000 in
set_option maxHeartbeats 1000000 in
theorem avail_any (b X g size n : Nat) (w : World) (h : w.heap[X]? = some (.cells (wrC b g size n) 53 (0, 0))) (hs : size ≤ 65536) (hn : n ≤ size) :
    Calls Tryd.prog 26 #[.pointer (some ⟨X, 0, none⟩)] w fun e w' => e = .returned (.int .i64 (size - n : Int)) ∧ ∃ k, w' = w.drewN k := by
  have c1 : w.cell? ⟨X, 1, none⟩ = some (.slice (some ⟨g, 0, none⟩) size size) := by rw [Lib.cell_of_heap h]; rfl
  have c2 : w.cell? ⟨X, 2, none⟩ = some (.int .i64 n) := by rw [Lib.cell_of_heap h]; rfl
  clear h
  go_enter Tryd.func26, Tryd.ntmps26
  go_wp2
  go_quiet (fail)
  go_wp2
  go_ret
  exact ⟨by simp [IntKind.wrap_i64]; omega, _, rfl⟩

set_option maxRecDepth 100000 in
set_option maxHeartbeats 1000000 in
theorem buffered_any (b X g size n : Nat) (w : World) (h : w.heap[X]? = some (.cells (wrC b g size n) 53 (0, 0))) :
    Calls Tryd.prog 27 #[.pointer (some ⟨X, 0, none⟩)] w fun e w' => e = .returned (.int .i64 n) ∧ w' = w := by
  have c2 : w.cell? ⟨X, 2, none⟩ = some (.int .i64 n) := by rw [Lib.cell_of_heap h]; rfl
  clear h
  go_enter Tryd.func27, Tryd.ntmps27
  go_wp2
  go_ret
  exact ⟨rfl, rfl⟩

set_option maxRecDepth 100000 in
set_option maxHeartbeats 1000000 in
theorem availbuf_any (b X g size n : Nat) (w : World) (h : w.heap[X]? = some (.cells (wrC b g size n) 53 (0, 0))) (hs : size ≤ 65536) (hn : n ≤ size) :
    Calls Tryd.prog 21 #[.pointer (some ⟨X, 0, none⟩)] w fun e w' => e = .returned (.slice (some ⟨g, if n = size then 0 else n, none⟩) 0 (size - n)) ∧ ∃ k, w' = w.drewN k := by
  have c1 : w.cell? ⟨X, 1, none⟩ = some (.slice (some ⟨g, 0, none⟩) size size) := by rw [Lib.cell_of_heap h]; rfl
  have c2 : w.cell? ⟨X, 2, none⟩ = some (.int .i64 n) := by rw [Lib.cell_of_heap h]; rfl
  clear h
  by_cases he : n = size
  · subst he
    rw [if_pos rfl, Nat.sub_self]
    go_enter Tryd.func21, Tryd.ntmps21
    go_wp2
    go_quiet (fail)
    go_wp2
    go_ret
    exact ⟨rfl, _, rfl⟩
  · rw [if_neg he]
    have hni : (n : Int) < size := by omega
    have hlt : n < size := by omega
    have hsub : ¬ size - n = 0 := by omega
    go_enter Tryd.func21, Tryd.ntmps21
    go_wp2
    go_quiet (fail)
    go_wp2
    go_ret
    exact ⟨rfl, _, rfl⟩
end Go.Proofs.Qxb6608537aDoor
