import Derived.Test.Qxb6608537aDoorFlush
namespace Go.Proofs.Qxb6608537aDoor
open Go.RowKit
set_option linter.unusedVariables false

/-- The row's cells behind a copy to place n. -/
def fillC (gc : Array Value) (n : Nat) (cs : List Value) : Array Value := (gc.toList.take n ++ cs ++ gc.toList.drop (n + cs.length)).toArray

theorem fillC_size {gc : Array Value} {n : Nat} {cs : List Value} (h : n + cs.length ≤ gc.size) : (fillC gc n cs).size = gc.size := by
  simp [fillC, List.length_take, List.length_drop]; omega
theorem fillC_take {gc : Array Value} {n : Nat} {cs : List Value} (h : n + cs.length ≤ gc.size) : (fillC gc n cs).toList.take (n + cs.length) = gc.toList.take n ++ cs := by
  have hl : (gc.toList.take n ++ cs).length = n + cs.length := by simp [List.length_take]; omega
  unfold fillC
  rw [← hl]
  exact List.take_left
theorem fillC_take0 {gc : Array Value} {n : Nat} {cs : List Value} (h : n + cs.length ≤ gc.size) : (fillC gc n cs).toList.take n = gc.toList.take n := by
  have hl : (gc.toList.take n).length = n := by simp [List.length_take]; omega
  have : (fillC gc n cs).toList = gc.toList.take n ++ (cs ++ gc.toList.drop (n + cs.length)) := by unfold fillC; simp
  rw [this, List.take_append_of_le_length (by omega), List.take_take, Nat.min_self]

/-- A COPY INTO THE WRITER's ROW. -/
theorem St.filled {w : World} {b X g size n : Nat} {ro : Option Nat} {bs : List Value} {gc : Array Value} (h : St w b X g size n ro bs gc) {cs : List Value} (hm : n + cs.length ≤ size) :
    St (w.setRow g (fillC gc n cs)) b X g size n ro bs (fillC gc n cs) ∧ Fr b X g ro w (w.setRow g (fillC gc n cs)) := by
  obtain ⟨q0, q1, q2, q3, q4, q5, q6, q7, a1, a2, a3, a4, a5⟩ := h
  have hm' : n + cs.length ≤ gc.size := by omega
  refine ⟨⟨q0.kept (setRow_other w g b _ a2) (fun r hr => setRow_other w g r _ (by rintro rfl; exact a5 hr)), (setRow_other w g X _ a3).trans q1, setRow_heap w g gc _ 5 (0, 0) q2, (fillC_size hm').trans q3, q4, q5, q6, by rw [fillC_take0 hm']; exact q7, a1, a2, a3, a4, a5⟩, rfl, rfl, rfl, by simp [World.setRow], fun k hk kb kX kg kr => setRow_other w g k _ kg⟩

/-- .. as the run of 'copy'. -/
theorem copy_in {w : World} {b X g size n : Nat} {ro : Option Nat} {bs : List Value} {gc : Array Value} (h : St w b X g size n ro bs gc) {cs : List Value} (hm : n + cs.length ≤ size) (h1 : ∀ v ∈ cs, v.oneCell' = true) (a : Addr) (sLen sCap : Nat) (hn : cs.length = Nat.min sLen (size - n)) (hsrc : ∀ j v, cs[j]? = some v → w.cell? (a.add j) = some v) :
    (Builtin.copy_ #[30, 30] 3 #[.slice (some ⟨g, n, none⟩) (size - n) (size - n), .slice (some a) sLen sCap]).run Tryd.prog w = .ok (goInt cs.length) (w.setRow g (fillC gc n cs)) :=
  run_copy_row (P := Tryd.prog) w 30 30 3 5 g n (size - n) (size - n) a sLen sCap gc 5 cs Tryd.underlying30 Tryd.size5 h.2.2.1 hn hsrc (by have := h.2.2.2.1; omega) h1

theorem copy_zero {w : World} (d a : Option Addr) (dLen dCap sLen sCap : Nat) (h : sLen = 0 ∨ dLen = 0) :
    (Builtin.copy_ #[30, 30] 3 #[.slice d dLen dCap, .slice a sLen sCap]).run Tryd.prog w = .ok (goInt 0) w :=
  run_copy_none (P := Tryd.prog) w 30 30 3 5 d a dLen dCap sLen sCap Tryd.underlying30 Tryd.size5 (by rcases h with h | h <;> simp [h])

/-- WHERE THE WRITER STANDS behind some writing. -/
def Went (w : World) (b X g size : Nat) (ro : Option Nat) (C : List Value) (w' : World) : Prop :=
  ∃ n ro' bs gc, St w' b X g size n ro' bs gc ∧ bs ++ gc.toList.take n = C ∧ NewRow w ro ro' ∧ Fr b X g ro w w'

theorem Went.next {w w1 w2 : World} {b X g size : Nat} {ro ro1 : Option Nat} {C : List Value} (hr : NewRow w ro ro1) (hf : Fr b X g ro w w1) (h : Went w1 b X g size ro1 C w2) : Went w b X g size ro C w2 := by
  obtain ⟨n, ro', bs, gc, q1, q2, q3, q4⟩ := h
  exact ⟨n, ro', bs, gc, q1, q2, hr.trans hf.2.2.2.1 q3, hf.trans hr q4⟩
/-- 'b.err = nil'. -/
theorem St.setErr {w : World} {b X g size n : Nat} {ro : Option Nat} {bs : List Value} {gc : Array Value} (h : St w b X g size n ro bs gc) : St (w.setCell ⟨X, 0, none⟩ .nilIface) b X g size n ro bs gc := by
  obtain ⟨q0, q1, q2, q3, q4, q5, q6, q7, a1, a2, a3, a4, a5⟩ := h
  refine ⟨q0.kept (Go.heap_setCell_other _ _ _ _ (by simpa using a1)) (fun r hr => Go.heap_setCell_other _ _ _ _ (by rintro rfl; exact a4 hr)), ?_, ?_, q3, q4, q5, q6, q7, a1, a2, a3, a4, a5⟩
  · rw [Go.heap_setCell_same w X 0 _ _ _ q1]; rfl
  · rw [Go.heap_setCell_other _ _ _ _ (by simpa using Ne.symm a3)]; exact q2

/-- The source lies apart from the writer. -/
def Src (w : World) (b X g : Nat) (ro : Option Nat) (pb poff : Nat) (cs : List Value) : Prop :=
  pb ≠ b ∧ pb ≠ X ∧ pb ≠ g ∧ some pb ≠ ro ∧ ∀ j v, cs[j]? = some v → w.cell? ⟨pb, poff + j, none⟩ = some v

theorem Src.on {w w' : World} {b X g : Nat} {ro ro' : Option Nat} {pb poff : Nat} {cs : List Value} (h : Src w b X g ro pb poff cs) (hlt : pb < w.heap.size) (hr : NewRow w ro ro') (hf : Fr b X g ro w w') : Src w' b X g ro' pb poff cs := by
  obtain ⟨h1, h2, h3, h4, h5⟩ := h
  refine ⟨h1, h2, h3, ?_, fun j v hj => ?_⟩
  · rcases hr with rfl | ⟨r, rfl, hr⟩
    · exact h4
    · intro e; cases e; omega
  · rw [World.cell?_of_block (w := w) (hf.2.2.2.2 pb hlt h1 h2 h3 h4)]; exact h5 j v hj

/-- A part of the source. -/
theorem Src.part {w : World} {b X g : Nat} {ro : Option Nat} {pb poff : Nat} {cs : List Value} (h : Src w b X g ro pb poff cs) (i m : Nat) : ∀ j v, ((cs.drop i).take m)[j]? = some v → w.cell? ((⟨pb, poff + i, none⟩ : Addr).add j) = some v := by
  intro j v hj
  have hadd : (⟨pb, poff + i, none⟩ : Addr).add j = ⟨pb, poff + (i + j), none⟩ := by unfold Addr.add; split <;> simp_all [Nat.add_assoc]
  rw [hadd]
  refine h.2.2.2.2 (i + j) v ?_
  rw [List.getElem?_take] at hj
  split at hj
  · rw [List.getElem?_drop] at hj; exact hj
  · cases hj

def lenV : Value → Nat
  | .slice _ n _ => n
  | _ => 0
def pend (X : Nat) (w : World) : Nat := match w.cell? ⟨X, 2, none⟩ with
  | some (.int _ z) => if z = 0 then 0 else 1
  | _ => 0
theorem pend_of {w : World} {b X g size n : Nat} (h : w.heap[X]? = some (.cells (wrC b g size n) 53 (0, 0))) : pend X w = if n = 0 then 0 else 1 := by
  have c2 : w.cell? ⟨X, 2, none⟩ = some (.int .i64 n) := by rw [Lib.cell_of_heap h]; rfl
  simp [pend, c2]
end Go.Proofs.Qxb6608537aDoor
