import Derived.Test.Qxb6609105aSlices
namespace Go.Proofs.Qxb6609105a
open Go.RowKit
set_option linter.unusedVariables false

theorem Try.info5 : (Try.prog.info? 5).map (fun i => (i.zero, i.size, i.bytes)) = some (some (.int .u8 0), 1, 1) := by kernel_rfl
theorem Try.info31 : (Try.prog.info? 31).map (fun i => (i.zero, i.size, i.bytes)) = some (some (.slice none 0 0), 1, 24) := by kernel_rfl

/-- THE BYTES OF A SLICE, in a block from B on. -/
def Byts (B : Nat) (w : World) (a : Option Addr) (len : Nat) (bs : Nat → Int) : Prop := len = 0 ∨ ∃ b off, a = some ⟨b, off, none⟩ ∧ B ≤ b ∧ ∀ i, i < len → w.cell? ⟨b, off + i, none⟩ = some (.int .u8 (bs i))

theorem Byts.up {B : Nat} {w w' : World} {a : Option Addr} {len : Nat} {bs : Nat → Int} (h : Byts B w a len bs) (hb : Below w.heap.size w w') : Byts B w' a len bs := by
  rcases h with h | ⟨b, off, rfl, hB, hz⟩
  · exact Or.inl h
  · exact Or.inr ⟨b, off, rfl, hB, fun i hi => (hb.cell (p := ⟨b, off + i, none⟩) (block_lt_of_cell (hz i hi))).trans (hz i hi)⟩

theorem Byts.low {B B' : Nat} {w : World} {a : Option Addr} {len : Nat} {bs : Nat → Int} (h : Byts B w a len bs) (hB : B' ≤ B) : Byts B' w a len bs := by
  rcases h with h | ⟨b, off, rfl, h1, hz⟩
  · exact Or.inl h
  · exact Or.inr ⟨b, off, rfl, Nat.le_trans hB h1, hz⟩

/-- A store into a block below B. -/
theorem Byts.set {B : Nat} {w : World} {a : Option Addr} {len : Nat} {bs : Nat → Int} (h : Byts B w a len bs) {p : Addr} (hp : p.block < B) (v : Value) : Byts B (w.setCell p v) a len bs := by
  rcases h with h | ⟨b, off, rfl, h1, hz⟩
  · exact Or.inl h
  · refine Or.inr ⟨b, off, rfl, h1, fun i hi => ?_⟩
    rw [World.cell?_of_block (w := w) (heap_setCell_other w p b v (by omega))]
    exact hz i hi

theorem get_set_lt {cur : Array Value} {k i : Nat} {v x : Value} (hi : i ≠ k) (h : cur[i]? = some x) : (cur.setIfInBounds k v)[i]? = some x := by
  rw [Array.getElem?_setIfInBounds_ne (by omega)]; exact h
theorem get_set_eq {cur : Array Value} {k : Nat} {v : Value} (hk : k < cur.size) : (cur.setIfInBounds k v)[k]? = some v := by
  simp [hk]

/-- What the new row holds after k rounds. -/
def UpTo (cur : Array Value) (bs : Nat → Int) (k : Nat) : Prop := ∀ i, i < k → cur[i]? = some (.int .u8 (bs i))
theorem UpTo.succ {cur : Array Value} {bs : Nat → Int} {k : Nat} (h : UpTo cur bs k) (hk : k < cur.size) : UpTo (cur.setIfInBounds k (.int .u8 (bs k))) bs (k + 1) := fun i hi => by
  by_cases e : i = k
  · subst e; exact get_set_eq hk
  · exact get_set_lt e (h i (by omega))

/-- What a clone of bytes leaves. -/
def CloneB (w : World) (len : Nat) (bs : Nat → Int) (e : Ending) (w' : World) : Prop := ∃ a' c', e = .returned (.slice a' len c') ∧ Byts w.heap.size w' a' len bs ∧ Below w.heap.size w w'

set_option maxRecDepth 100000 in
set_option maxHeartbeats 1000000 in
theorem cloneB_any (a : Option Addr) (len cap : Nat) (bs : Nat → Int) (w : World) (hl : len ≤ 1048576) (hss : Byts 0 w a len bs) :
    Calls Try.prog 33 #[.slice a len cap] w fun e w' => CloneB w len bs e w' := by
  have hnil := fun W => Lib.run_eql_slice_nil (P := Try.prog) W 31 5 a len cap 0 0 Try.underlying31
  cases a with
  | none =>
    have h0 : len = 0 := by rcases hss with h | ⟨_, _, h, _⟩; exact h; cases h
    subst h0
    simp only [Option.isNone_none] at hnil
    go_enter Try.func33, Try.ntmps33
    go_wp2
    go_ret
    exact ⟨_, _, rfl, Or.inl rfl, Below.refl _ _⟩
  | some x =>
    simp only [Option.isNone_some] at hnil
    obtain ⟨i0, hi, hz0, hz1, hz2⟩ := info_parts Try.info5
    obtain ⟨M, hMs, hmk⟩ : ∃ M : Array Value, M.size = len ∧ ∀ W : World, (Instr.makeSlice 31 (.int .i64 (len : Int)) (.int .i64 (len : Int))).run Try.prog W = .ok (.slice (some ⟨W.heap.size, 0, none⟩) len len) (W.alloc (.cells M 5)) := by
      refine ⟨madeCells (Value.int .u8 0).cells (((len : Nat) : Int).toNat * i0.size), by rw [size_madeCells, hz1]; simp, fun W => ?_⟩
      have h := run_make (P := Try.prog) W 31 5 i0 (.int .u8 0) Try.underlying31 hi hz0 .i64 .i64 (len : Int) (len : Int) (by omega) (by omega) (by rw [hz2]; omega) (by omega)
      simpa using h
    clear hi hz0 hz1 hz2
    have HS := hideIt hss
    clear hss
    go_enter Try.func33, Try.ntmps33
    go_wp2
    go_loopw [4] (fun i wr => ∃ (k : Nat) (cur : Array Value), k ≤ len ∧ i = .int .i64 k ∧ cur.size = len ∧ wr.heap[w.heap.size]? = some (.cells cur 5 (0, 0)) ∧ Below w.heap.size w wr ∧ UpTo cur bs k) (fun i _ => len - (intOf i).toNat)
    case atStart => exact ⟨0, M, Nat.zero_le _, rfl, hMs, heap_alloc_new _ _, (Below.refl _ w).alloc (Nat.le_refl _) _, fun i hi => absurd hi (Nat.not_lt_zero i)⟩
    case round =>
      obtain ⟨k, cur, hk, rfl, hcs, hN, hb, hu⟩ := hrel
      have HB := hideIt hb
      have HU := hideIt hu
      clear hu
      by_cases hlt : k < len
      · rcases HS.out with h0 | ⟨b, off, hx, _, hss⟩
        · omega
        · injection hx with hx
          subst hx
          have hc := hss k hlt
          have hcr : wr.cell? ⟨b, off + k, none⟩ = some (.int .u8 (bs k)) := (hb.cell (p := ⟨b, off + k, none⟩) (block_lt_of_cell hc)).trans hc
          have hcw : ∃ v, wr.cell? ⟨w.heap.size, k, none⟩ = some v := ⟨cur[k], by rw [cell_of_row wr _ k _ _ _ hN]; exact Array.getElem?_eq_getElem (by omega)⟩
          obtain ⟨v, hcv⟩ := hcw
          have hfv := frozen_of_row wr w.heap.size k _ _ hN
          have HN := hideIt hN
          clear hss hc hb hN HS
          go_wp2
          go_roundw
          case rel => exact ⟨k + 1, cur.setIfInBounds k (.int .u8 (bs k)), by omega, by go_num, by simpa using hcs, row_set HN.out, HB.out.setCell (Nat.le_refl _) _, HU.out.succ (by omega)⟩
          case measure => simp [intOf]; omega
      · have HN := hideIt hN
        clear hb hN
        go_wp2
        go_ret
        have hkl : k = len := by omega
        subst hkl
        exact ⟨_, _, rfl, Or.inr ⟨w.heap.size, 0, rfl, Nat.le_refl _, fun i hi => by rw [Nat.zero_add, cell_of_row wr _ i _ _ _ HN.out]; exact HU.out i hi⟩, HB.out⟩
end Go.Proofs.Qxb6609105a
