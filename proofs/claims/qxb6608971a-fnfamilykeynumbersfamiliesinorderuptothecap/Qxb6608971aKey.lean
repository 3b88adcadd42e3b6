import Derived.Test.Qxb6608971aFamAdd
import Derived.ProofKit
namespace Go.Proofs.Qxb6608971a
open Go.RowKit

theorem law89 : WideMaps.KeyLaw Try.prog 89 := deep_law_laid (m := Try.prog.types.size + 1) (by kernel_rfl) (of_decide_eq_true (by kernel_rfl)) (of_decide_eq_true (by kernel_rfl)) (by kernel_rfl) (by kernel_rfl)

theorem Try.cells89 : Try.prog.cellsOf 89 = 24 := by kernel_rfl
theorem Try.cells5 : Try.prog.cellsOf 5 = 1 := by kernel_rfl
theorem Try.keyType89 : Try.prog.keyType 89 = true := by kernel_rfl
theorem Try.typesSize : Try.prog.types.size = 141 := by kernel_rfl

theorem mapM_some {α β : Type} (f : α → Option β) : ∀ l : List α, (∀ x ∈ l, ∃ y, f x = some y) → ∃ ys, l.mapM f = some ys
  | [], _ => ⟨[], rfl⟩
  | x :: l, h => by
    obtain ⟨y, hy⟩ := h x (by simp)
    obtain ⟨ys, hys⟩ := mapM_some f l (fun z hz => h z (by simp [hz]))
    exact ⟨y :: ys, by simp [List.mapM_cons, hy, hys]⟩

theorem key_ok (l : List Value) (hlen : l.length = 24) (hb : ∀ i, i < 24 → ∃ n : Int, l[i]? = some (.int .u8 n) ∧ 0 ≤ n ∧ n ≤ 255) : ∃ k, keyOf Try.prog 89 (.agg l.toArray) = some k := by
  have hf : (Value.agg l.toArray).formed Try.prog 89 = true := by
    simp [Value.formed, Try.underlying89, Try.cells89, hlen]
  have hin : ∀ i ∈ List.range 24, ∃ y, Try.prog.keyLits 141 5 ((l.drop (i * Try.prog.cellsOf 5)).take (Try.prog.cellsOf 5)) = some y := by
    intro i hi
    have hi' : i < 24 := List.mem_range.1 hi
    obtain ⟨n, hn, h0, h1⟩ := hb i hi'
    have e : (l.drop (i * Try.prog.cellsOf 5)).take (Try.prog.cellsOf 5) = [.int .u8 n] := by
      rw [Try.cells5, Nat.mul_one]
      have hlt : i < l.length := by omega
      rw [List.getElem?_eq_getElem hlt] at hn
      rw [List.drop_eq_getElem_cons hlt]
      simp only [List.take_succ_cons, List.take_zero]
      rw [Option.some.inj hn]
    rw [e]
    have hw : (Lit.int .u8 n).wf = true := by
      have e1 : IntKind.u8.min = 0 := rfl
      have e2 : IntKind.u8.max = 255 := rfl
      simp [Lit.wf, e1, e2]
      omega
    exact ⟨[.int .u8 n], by simp [Program.keyLits, Try.underlying5, hw]⟩
  obtain ⟨ys, hys⟩ := mapM_some _ _ hin
  have hk : Try.prog.keyLits (Try.prog.types.size + 1) 89 (Value.agg l.toArray).cells.toList = some ys.flatten := by
    rw [Try.typesSize]
    show Try.prog.keyLits (141 + 1) 89 l.toArray.toList = _
    rw [List.toList_toArray]
    unfold Program.keyLits
    rw [Try.underlying89, Try.cells89]
    simp only [hlen, if_true, hys, Option.map_some]
  refine ⟨.string (keyBytes ys.flatten), ?_⟩
  unfold keyOf
  rw [Try.underlying89]
  simp only [Try.keyType89, hf, Bool.and_self, if_true]
  rw [hk]
  rfl

end Go.Proofs.Qxb6608971a
