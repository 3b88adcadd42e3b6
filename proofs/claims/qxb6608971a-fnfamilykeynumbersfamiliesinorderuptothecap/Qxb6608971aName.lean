import Derived.Test.Qxb6608971aKey
namespace Go.Proofs.Qxb6608971a
open Go.RowKit

theorem beq_of_eq {a b : ByteArray} (h : a = b) : (a.toList == b.toList) = true := by rw [h]; simp
theorem beq_of_ne {a b : ByteArray} (h : a ≠ b) : (a.toList == b.toList) = false := by
  cases hb : (a.toList == b.toList) with
  | false => rfl
  | true =>
    rw [Lib.toList_data, Lib.toList_data] at hb
    have e : a.data.toList = b.data.toList := by simpa using hb
    exact absurd (ByteArray.ext (Array.toList_inj.1 e)) h

/-- The name's cells: the stem's bytes, zeros, the width, the stem's length. -/
def nameL (stem : ByteArray) (wd : Int) : List Value := (Lib.byteCells stem.data.toList ++ List.replicate (22 - stem.size) (.int .u8 0)) ++ [.int .u8 wd, .int .u8 stem.size]
def nameKey (stem : ByteArray) (wd : Int) : Value := .agg (nameL stem wd).toArray

theorem bc_len (s : ByteArray) : (Lib.byteCells s.data.toList).length = s.size := by rw [Lib.byteCells_length, ← Lib.size_eq]

theorem pre_len {s : ByteArray} (h : s.size ≤ 22) : (Lib.byteCells s.data.toList ++ List.replicate (22 - s.size) (Value.int .u8 0)).length = 22 := by
  rw [List.length_append, bc_len, List.length_replicate]; omega

theorem nameL_len {s : ByteArray} (wd : Int) (h : s.size ≤ 22) : (nameL s wd).length = 24 := by
  unfold nameL; rw [List.length_append, pre_len h]; rfl

theorem bc_inj : ∀ {a b : List UInt8}, Lib.byteCells a = Lib.byteCells b → a = b
  | [], [], _ => rfl
  | [], _ :: _, h => by simp [Lib.byteCells] at h
  | _ :: _, [], h => by simp [Lib.byteCells] at h
  | x :: a, y :: b, h => by
    simp only [Lib.byteCells, List.map_cons, List.cons.injEq] at h
    have e1 : (x.toNat : Int) = y.toNat := by have := h.1; injection this
    have e2 : x = y := UInt8.toNat_inj.1 (by omega)
    rw [e2, bc_inj (a := a) (b := b) h.2]

theorem nameL_inj {s t : ByteArray} {a b : Int} (hs : s.size ≤ 22) (ht : t.size ≤ 22) (h : nameL s a = nameL t b) : s = t ∧ a = b := by
  unfold nameL at h
  obtain ⟨h1, h2⟩ := List.append_inj h (by rw [pre_len hs, pre_len ht])
  simp only [List.cons.injEq, Value.int.injEq, and_true, true_and] at h2
  obtain ⟨e1, e2⟩ := h2
  have e3 : s.size = t.size := by omega
  obtain ⟨h3, _⟩ := List.append_inj h1 (by rw [bc_len, bc_len, e3])
  exact ⟨ByteArray.ext (Array.toList_inj.1 (bc_inj h3)), e1⟩

theorem nameKey_inj {s t : ByteArray} {a b : Int} (hs : s.size ≤ 22) (ht : t.size ≤ 22) (h : nameKey s a = nameKey t b) : s = t ∧ a = b := by
  unfold nameKey at h
  refine nameL_inj hs ht ?_
  have := Value.agg.inj h
  simpa using this

theorem nameL_u8 {s : ByteArray} {wd : Int} (hs : s.size ≤ 22) (h0 : 0 ≤ wd) (h1 : wd ≤ 255) : ∀ v ∈ nameL s wd, ∃ n : Int, v = .int .u8 n ∧ 0 ≤ n ∧ n ≤ 255 := by
  intro v hv
  unfold nameL at hv
  simp only [List.mem_append, List.mem_cons, List.not_mem_nil, or_false] at hv
  rcases hv with (hv | hv) | rfl | rfl
  · simp only [Lib.byteCells, List.mem_map] at hv
    obtain ⟨b, _, rfl⟩ := hv
    exact ⟨_, rfl, by omega, by have := b.toNat_lt; omega⟩
  · exact ⟨0, (List.mem_replicate.1 hv).2, by omega, by omega⟩
  · exact ⟨_, rfl, h0, h1⟩
  · exact ⟨_, rfl, by omega, by omega⟩

theorem nameKey_ok {s : ByteArray} {wd : Int} (hs : s.size ≤ 22) (h0 : 0 ≤ wd) (h1 : wd ≤ 255) : ∃ k, keyOf Try.prog 89 (nameKey s wd) = some k := by
  refine key_ok _ (nameL_len wd hs) fun i hi => ?_
  have hlt : i < (nameL s wd).length := by rw [nameL_len wd hs]; exact hi
  obtain ⟨n, hn, a, b⟩ := nameL_u8 hs h0 h1 _ (List.getElem_mem hlt)
  exact ⟨n, by rw [List.getElem?_eq_getElem hlt, hn], a, b⟩

theorem list22 : ∀ {l : List Value}, l.length = 22 → ∃ y0 y1 y2 y3 y4 y5 y6 y7 y8 y9 y10 y11 y12 y13 y14 y15 y16 y17 y18 y19 y20 y21, l = [y0, y1, y2, y3, y4, y5, y6, y7, y8, y9, y10, y11, y12, y13, y14, y15, y16, y17, y18, y19, y20, y21]
  | [y0, y1, y2, y3, y4, y5, y6, y7, y8, y9, y10, y11, y12, y13, y14, y15, y16, y17, y18, y19, y20, y21], _ => ⟨y0, y1, y2, y3, y4, y5, y6, y7, y8, y9, y10, y11, y12, y13, y14, y15, y16, y17, y18, y19, y20, y21, rfl⟩

theorem setRow_alloc (w : World) (M Y : Array Value) (t : TypeId) : (w.alloc (.cells M t)).setRow w.heap.size Y = w.alloc (.cells Y t) := by
  unfold World.setRow World.alloc
  congr 1
  apply Array.ext
  · simp
  · intro i h1 h2
    simp only [Array.size_modify, Array.size_push] at h1
    rw [Array.getElem_modify]
    by_cases hi : w.heap.size = i
    · subst hi; simp
    · rw [if_neg hi, Array.getElem_push, Array.getElem_push]
      rw [dif_pos (by omega), dif_pos (by omega)]

theorem Try.size5 : (Try.prog.info? 5).map (·.size) = some 1 := by kernel_rfl

/-- 'copy(name[:], stem)' over a new array of zeros. -/
theorem copy_name (w : World) (stem : ByteArray) (h : stem.size ≤ 22) : ∃ y0 y1 y2 y3 y4 y5 y6 y7 y8 y9 y10 y11 y12 y13 y14 y15 y16 y17 y18 y19 y20 y21, (∀ wd, nameL stem wd = [y0, y1, y2, y3, y4, y5, y6, y7, y8, y9, y10, y11, y12, y13, y14, y15, y16, y17, y18, y19, y20, y21, .int .u8 wd, .int .u8 stem.size]) ∧
    (Builtin.copy_ #[90, 9] 3 #[.slice (some ⟨w.heap.size, 0, none⟩) 24 24, .string stem]).run Try.prog (w.alloc (.cells #[.int .u8 0, .int .u8 0, .int .u8 0, .int .u8 0, .int .u8 0, .int .u8 0, .int .u8 0, .int .u8 0, .int .u8 0, .int .u8 0, .int .u8 0, .int .u8 0, .int .u8 0, .int .u8 0, .int .u8 0, .int .u8 0, .int .u8 0, .int .u8 0, .int .u8 0, .int .u8 0, .int .u8 0, .int .u8 0, .int .u8 0, .int .u8 0] 89)) = .ok (goInt stem.size) (w.alloc (.cells #[y0, y1, y2, y3, y4, y5, y6, y7, y8, y9, y10, y11, y12, y13, y14, y15, y16, y17, y18, y19, y20, y21, .int .u8 0, .int .u8 0] 89)) := by
  have hcp := Lib.run_copy_row_string (P := Try.prog) (w.alloc (.cells #[.int .u8 0, .int .u8 0, .int .u8 0, .int .u8 0, .int .u8 0, .int .u8 0, .int .u8 0, .int .u8 0, .int .u8 0, .int .u8 0, .int .u8 0, .int .u8 0, .int .u8 0, .int .u8 0, .int .u8 0, .int .u8 0, .int .u8 0, .int .u8 0, .int .u8 0, .int .u8 0, .int .u8 0, .int .u8 0, .int .u8 0, .int .u8 0] 89)) 90 9 3 5 w.heap.size 0 24 24 stem _ 89 Try.underlying90 Try.size5 (heap_alloc_new w _) (by omega) (by simp; omega)
  rw [setRow_alloc] at hcp
  obtain ⟨y0, y1, y2, y3, y4, y5, y6, y7, y8, y9, y10, y11, y12, y13, y14, y15, y16, y17, y18, y19, y20, y21, hl⟩ := list22 (pre_len h)
  refine ⟨y0, y1, y2, y3, y4, y5, y6, y7, y8, y9, y10, y11, y12, y13, y14, y15, y16, y17, y18, y19, y20, y21, fun wd => by unfold nameL; rw [hl]; rfl, ?_⟩
  have e : (List.take 0 (#[.int .u8 0, .int .u8 0, .int .u8 0, .int .u8 0, .int .u8 0, .int .u8 0, .int .u8 0, .int .u8 0, .int .u8 0, .int .u8 0, .int .u8 0, .int .u8 0, .int .u8 0, .int .u8 0, .int .u8 0, .int .u8 0, .int .u8 0, .int .u8 0, .int .u8 0, .int .u8 0, .int .u8 0, .int .u8 0, .int .u8 0, .int .u8 0] : Array Value).toList ++ Lib.byteCells stem.data.toList ++ List.drop (0 + stem.size) (#[.int .u8 0, .int .u8 0, .int .u8 0, .int .u8 0, .int .u8 0, .int .u8 0, .int .u8 0, .int .u8 0, .int .u8 0, .int .u8 0, .int .u8 0, .int .u8 0, .int .u8 0, .int .u8 0, .int .u8 0, .int .u8 0, .int .u8 0, .int .u8 0, .int .u8 0, .int .u8 0, .int .u8 0, .int .u8 0, .int .u8 0, .int .u8 0] : Array Value).toList).toArray = #[y0, y1, y2, y3, y4, y5, y6, y7, y8, y9, y10, y11, y12, y13, y14, y15, y16, y17, y18, y19, y20, y21, .int .u8 0, .int .u8 0] := by
    have e0 : (#[.int .u8 0, .int .u8 0, .int .u8 0, .int .u8 0, .int .u8 0, .int .u8 0, .int .u8 0, .int .u8 0, .int .u8 0, .int .u8 0, .int .u8 0, .int .u8 0, .int .u8 0, .int .u8 0, .int .u8 0, .int .u8 0, .int .u8 0, .int .u8 0, .int .u8 0, .int .u8 0, .int .u8 0, .int .u8 0, .int .u8 0, .int .u8 0] : Array Value).toList = List.replicate 22 (.int .u8 0) ++ [.int .u8 0, .int .u8 0] := rfl
    rw [e0, Nat.zero_add, List.drop_append, List.drop_replicate, List.length_replicate, show stem.size - 22 = 0 by omega, List.drop_zero, List.take_zero, List.nil_append, ← List.append_assoc, hl]
    rfl
  rw [e] at hcp
  exact hcp

end Go.Proofs.Qxb6608971a
