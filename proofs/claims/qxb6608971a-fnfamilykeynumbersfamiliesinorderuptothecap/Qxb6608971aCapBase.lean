import Derived.Test.Qxb6608971aFkey
namespace Go.Proofs.Qxb6608971a
open Go.RowKit

/-- The strings of the slice that came in. -/
def Strs (w : World) (b off len : Nat) (ss : Nat → ByteArray) : Prop := ∀ i, i < len → w.cell? ⟨b, off + i, none⟩ = some (.string (ss i)) ∧ (ss i).size ≤ maxLen

def IsBool (e : Ending) : Prop := ∃ r, e = .returned (.bool r)
def IsI64 (e : Ending) : Prop := ∃ r, e = .returned (.int .i64 r)

set_option maxHeartbeats 400000 in
theorem bytesS_any (b off len cap : Nat) (ss : Nat → ByteArray) (x y : Value) (w : World) (hlen : len ≤ maxLen) (hss : Strs w b off len ss) :
    Calls Try.prog 11 #[.slice (some ⟨b, off, none⟩) len cap, x, y] w fun e w' => IsBool e ∧ w' = w := by
  unfold maxLen at hlen
  go_enter Try.func11, Try.ntmps11
  go_wp2
  · go_ret
    exact ⟨⟨_, rfl⟩, rfl⟩
  · go_loop [7, 8] (fun z i => ∃ (k : Nat) (q : Int), k ≤ len ∧ i = .int .i64 k ∧ z = .int .i64 q) (fun _ i => len - (intOf i).toNat)
    case atStart => exact ⟨0, _, Nat.zero_le _, rfl, rfl⟩
    case round =>
      obtain ⟨k, q, hk, rfl, rfl⟩ := hrel
      by_cases hlt : k < len
      · obtain ⟨hc, hsz⟩ := hss k hlt
        unfold maxLen at hsz
        go_wp2
        · go_ret
          exact ⟨⟨_, rfl⟩, rfl⟩
        · go_ret
          exact ⟨⟨_, rfl⟩, rfl⟩
        · go_round
          case rel => exact ⟨k + 1, _, by omega, by go_num, rfl⟩
          case measure => simp [intOf]; omega
      · go_wp2
        go_ret
        exact ⟨⟨_, rfl⟩, rfl⟩

set_option maxHeartbeats 400000 in
theorem addS_any (b off len cap : Nat) (ss : Nat → ByteArray) (w : World) (hlen : len ≤ maxLen) (hss : Strs w b off len ss) :
    Calls Try.prog 12 #[.int .i64 0, .slice (some ⟨b, off, none⟩) len cap] w fun e w' => IsI64 e ∧ w' = w := by
  unfold maxLen at hlen
  go_enter Try.func12, Try.ntmps12
  go_wp2
  go_loop [0, 5] (fun z i => ∃ (k : Nat) (q : Int), k ≤ len ∧ i = .int .i64 k ∧ z = .int .i64 q) (fun _ i => len - (intOf i).toNat)
  case atStart => exact ⟨0, _, Nat.zero_le _, rfl, rfl⟩
  case round =>
    obtain ⟨k, q, hk, rfl, rfl⟩ := hrel
    by_cases hlt : k < len
    · obtain ⟨hc, hsz⟩ := hss k hlt
      unfold maxLen at hsz
      go_wp2
      · go_ret
        exact ⟨⟨_, rfl⟩, rfl⟩
      · go_round
        case rel => exact ⟨k + 1, _, by omega, by go_num, rfl⟩
        case measure => simp [intOf]; omega
      · go_ret
        exact ⟨⟨_, rfl⟩, rfl⟩
    · go_wp2
      go_ret
      exact ⟨⟨_, rfl⟩, rfl⟩

variable {X M m lb : Nat} {fs : List Fam} {w : World}

/-- Blocks of another kind are written. -/
theorem Idx.keepT {w' : World} (h : Idx X M m fs lb w) {k0 : Nat} {cs : Array Value} {t : TypeId} (ht : t ≠ 60) (ht' : t ≠ 50) (hk0 : w.heap[k0]? = some (.cells cs t (0, 0))) (hb : ∀ k, k < w.heap.size → k ≠ k0 → w'.heap[k]? = w.heap[k]?) : Idx X M m fs lb w' := by
  refine ⟨(hb X h.xlt (fun e => ?_)).trans h.hx, ?_, fun j f hf => ?_, h.apart, h.last, h.few⟩
  · rw [← e, h.hx] at hk0
    simp at hk0
    exact ht hk0.2.symm
  · obtain ⟨es, clk, h1, h2⟩ := h.map
    refine ⟨es, clk, (hb M h.mlt (fun e => ?_)).trans h1, h2⟩
    rw [← e, h1] at hk0
    cases hk0
  · obtain ⟨a, b, c, m', hm⟩ := h.fams j f hf
    refine ⟨a, b, c, m', (hb _ (Array.getElem?_eq_some_iff.1 hm).1 (fun e => ?_)).trans hm⟩
    rw [← e, hm] at hk0
    simp at hk0
    exact ht' hk0.2.symm

def stemsV (fs : List Fam) : List Value := fs.map fun f => Value.string f.stem

/-- WHAT HOLDS AT EACH ROUND's HEAD. -/
structure Inv (B X M m G : Nat) (wd : Int) (fs : List Fam) (w wr : World) : Prop where
  idx : ∃ lb, Idx X M m fs lb wr
  own : wr.ownsRow B 9 1 (.slice (some ⟨G, 0, none⟩) fs.length 255) fs.length (stemsV fs)
  wds : ∀ f ∈ fs, f.wd = wd
  bel : Below B w wr
  bs : B ≤ w.heap.size
  bx : B ≤ X
  bm : B ≤ M
  bg : B ≤ G

variable {B G : Nat} {wd : Int} {wr : World}

theorem row_of {n cap : Nat} {xs : List Value} {v : World} (h : v.ownsRow B 9 1 (.slice (some ⟨G, 0, none⟩) n cap) n xs) : ∃ cur, v.heap[G]? = some (.cells cur 9 (0, 0)) ∧ cur.toList.take n = xs := by
  obtain ⟨_, h2⟩ := h
  rcases h2 with ⟨h, _⟩ | ⟨g, c, cur, hv, _, hh, _, _, _, ht⟩
  · cases h
  · cases hv
    exact ⟨cur, hh, by simpa using ht⟩

theorem Inv.gne (h : Inv B X M m G wd fs w wr) : G ≠ X ∧ G ≠ M := by
  obtain ⟨cur, hG, _⟩ := row_of h.own
  obtain ⟨lb, hI⟩ := h.idx
  constructor
  · intro e
    rw [e, hI.hx] at hG
    simp at hG
  · intro e
    obtain ⟨es, clk, h1, _⟩ := hI.map
    rw [e, h1] at hG
    cases hG

/-- What 'seen' holds at place i. -/
theorem Inv.cell (h : Inv B X M m G wd fs w wr) {i : Nat} {f : Fam} (hf : fs[i]? = some f) : wr.cell? ⟨G, i, none⟩ = some (.string f.stem) := by
  obtain ⟨cur, hG, ht⟩ := row_of h.own
  rw [cell_of_row wr G i _ _ _ hG]
  have hi : i < fs.length := (List.getElem?_eq_some_iff.1 hf).1
  have h2 : (cur.toList.take fs.length)[i]? = some (.string f.stem) := by rw [ht]; simp [stemsV, hf]
  rw [List.getElem?_take_of_lt hi] at h2
  simpa using h2

theorem own_heap {n cap : Nat} {xs : List Value} {v v' : World} (h : v.ownsRow B 9 1 (.slice (some ⟨G, 0, none⟩) n cap) n xs) (hk : v'.heap[G]? = v.heap[G]?) : v'.ownsRow B 9 1 (.slice (some ⟨G, 0, none⟩) n cap) n xs := by
  obtain ⟨h1, h2⟩ := h
  refine ⟨h1, ?_⟩
  rcases h2 with h2 | ⟨g, c, cur, hv, a, hh, r⟩
  · exact Or.inl h2
  · cases hv
    exact Or.inr ⟨_, _, cur, rfl, a, hk.trans hh, r⟩

/-- The shim was called; the families are as they were. -/
theorem Inv.same (h : Inv B X M m G wd fs w wr) {w' : World} {lb' : Nat} (hI : Idx X M m fs lb' w') (hK : Kept X M wr w') : Inv B X M m G wd fs w w' := by
  obtain ⟨cur, hG, _⟩ := row_of h.own
  have hlt : G < wr.heap.size := (Array.getElem?_eq_some_iff.1 hG).1
  refine ⟨⟨lb', hI⟩, own_heap h.own (hK.block G hlt h.gne.1 h.gne.2), h.wds, h.bel.trans (hK.below (Nat.le_trans h.bs h.bel.size) h.bx h.bm), h.bs, h.bx, h.bm, h.bg⟩

theorem Inv.ownAt (h : Inv B X M m G wd fs w wr) {w' : World} (hK : Kept X M wr w') : w'.ownsRow B 9 1 (.slice (some ⟨G, 0, none⟩) fs.length 255) fs.length (stemsV fs) := by
  obtain ⟨cur, hG, _⟩ := row_of h.own
  have hlt : G < wr.heap.size := (Array.getElem?_eq_some_iff.1 hG).1
  exact own_heap h.own (hK.block G hlt h.gne.1 h.gne.2)

theorem Inv.cellAt (h : Inv B X M m G wd fs w wr) {w' : World} (hK : Kept X M wr w') {i : Nat} {f : Fam} (hf : fs[i]? = some f) : w'.cell? ⟨G, i, none⟩ = some (.string f.stem) := by
  obtain ⟨cur, hG, _⟩ := row_of h.own
  have hlt : G < wr.heap.size := (Array.getElem?_eq_some_iff.1 hG).1
  rw [World.cell?_of_block (w := wr) (hK.block G hlt h.gne.1 h.gne.2)]
  exact h.cell hf

/-- A new family, its stem appended to 'seen'. -/
theorem Inv.push (h : Inv B X M m G wd fs w wr) {w' w2 : World} {lb' : Nat} {f : Fam} (hfw : f.wd = wd) (hI : Idx X M m (fs ++ [f]) lb' w') (hK : Kept X M wr w') {o : Obj}
    (hown : w2.ownsRow B 9 1 (.slice (some ⟨G, 0, none⟩) (fs.length + 1) 255) (fs.length + 1) (stemsV fs ++ [.string f.stem])) (hg : (w'.alloc o).grownBy w2 (some G)) : Inv B X M m G wd (fs ++ [f]) w w2 := by
  obtain ⟨cur, hG, _⟩ := row_of (h.ownAt hK)
  have hlt : G < w'.heap.size := (Array.getElem?_eq_some_iff.1 hG).1
  have hoth : ∀ k, k < w'.heap.size → k ≠ G → w2.heap[k]? = w'.heap[k]? := fun k hk hne => (hg.block k (by simp; omega) (by simpa using hne)).trans (Below.heap_alloc w' o k hk)
  have hb' : Below B w w' := h.bel.trans (hK.below (Nat.le_trans h.bs h.bel.size) h.bx h.bm)
  refine ⟨⟨lb', hI.keepT (t := 9) (by decide) (by decide) hG hoth⟩, ?_, ?_, ?_, h.bs, h.bx, h.bm, h.bg⟩
  · have e1 : (fs ++ [f]).length = fs.length + 1 := by simp
    have e2 : stemsV (fs ++ [f]) = stemsV fs ++ [.string f.stem] := by simp [stemsV]
    rw [e1, e2]
    exact hown
  · intro g hg'
    rcases List.mem_append.1 hg' with a | a
    · exact h.wds g a
    · simp only [List.mem_singleton] at a
      rw [a]; exact hfw
  · refine (hb'.alloc (Nat.le_trans h.bs hb'.size) o).trans ⟨hg.os, hg.tape, hg.output, hg.size, fun k hk => ?_⟩
    refine hg.block k (by have := hb'.size; have := h.bs; simp; omega) (fun e => ?_)
    have := h.bg
    simp at e
    omega
end Go.Proofs.Qxb6608971a
