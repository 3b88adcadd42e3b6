import Derived.Test.Qxb6608537aDoorGuard2
namespace Go.Proofs.Qxb6608537aDoor
open Go.RowKit
set_option linter.unusedVariables false

/-- What Bytes hands back: the slice's words. -/
def Out (ro : Option Nat) (bs : List Value) (w : World) (v : Value) : Prop :=
  ∃ (a : Option Addr) (cap : Nat), v = .slice a bs.length cap ∧ bs.length ≤ cap ∧ cap ≤ maxLen ∧ (bs = [] ∧ cap = 0 ∨ ∃ r, ro = some r ∧ a = some ⟨r, 0, none⟩ ∧ ∀ j v, bs[j]? = some v → w.cell? ⟨r, j, none⟩ = some v)

set_option maxRecDepth 100000 in
set_option maxHeartbeats 2000000 in
theorem bytes_any (b : Nat) (ro : Option Nat) (bs : List Value) (w : World) (h : Buf w b ro bs) :
    Calls Tryd.prog 14 #[.pointer (some ⟨b, 0, none⟩)] w fun e w' => RetR (fun v w' => Out ro bs w v ∧ ∃ k, w' = w.drewN k) e w' := by
  obtain ⟨h1, lr, h⟩ := h
  rcases h with ⟨rfl, rfl, hb⟩ | ⟨r, cap, cur, rfl, hne, hb, hr, hc1, hc2, hc3, hc4⟩
  · have c0 : w.cell? ⟨b, 0, none⟩ = some (.slice none 0 0) := by rw [Lib.cell_of_heap hb]; rfl
    have c1 : w.cell? ⟨b, 1, none⟩ = some (.int .i64 0) := by rw [Lib.cell_of_heap hb]; rfl
    clear hb
    go_enter Tryd.func14, Tryd.ntmps14
    go_wp2
    go_quiet (fail)
    go_wp2
    go_ret
    exact ⟨_, rfl, ⟨none, 0, rfl, Nat.le_refl _, Nat.zero_le _, Or.inl ⟨rfl, rfl⟩⟩, _, rfl⟩
  · have c0 : w.cell? ⟨b, 0, none⟩ = some (.slice (some ⟨r, 0, none⟩) bs.length cap) := by rw [Lib.cell_of_heap hb]; rfl
    have c1 : w.cell? ⟨b, 1, none⟩ = some (.int .i64 0) := by rw [Lib.cell_of_heap hb]; rfl
    have HO : Hid (Out (some r) bs w (.slice (some ⟨r, 0, none⟩) bs.length cap)) := by
      refine ⟨_, cap, rfl, hc2, hc3, Or.inr ⟨r, rfl, rfl, fun j v hj => ?_⟩⟩
      rw [Lib.cell_of_heap hr]
      rw [← hc4, List.getElem?_take] at hj
      split at hj
      · simpa using hj
      · cases hj
    clear hb hr hc4 h1
    unfold maxLen at hc3
    go_enter Tryd.func14, Tryd.ntmps14
    go_wp2
    go_quiet (fail)
    go_wp2
    go_ret
    exact ⟨_, rfl, HO.out, _, rfl⟩
end Go.Proofs.Qxb6608537aDoor
