import Derived.Test.Qxb6609105aBytes
namespace Go.Proofs.Qxb6609105a
open Go.RowKit
set_option linter.unusedVariables false

/-- A SLICE OF BYTE SLICES: the j-th has length tl j and holds the bytes bs j; outer block from B on, inner ones from B' on. -/
def Lists (B B' : Nat) (w : World) (a : Option Addr) (len : Nat) (tl : Nat → Nat) (bs : Nat → Nat → Int) : Prop :=
  len = 0 ∨ ∃ b off, a = some ⟨b, off, none⟩ ∧ B ≤ b ∧ ∀ i, i < len → ∃ ta tc, w.cell? ⟨b, off + i, none⟩ = some (.slice ta (tl i) tc) ∧ Byts B' w ta (tl i) (bs i)

theorem Lists.up {B B' : Nat} {w w' : World} {a : Option Addr} {len : Nat} {tl : Nat → Nat} {bs : Nat → Nat → Int} (h : Lists B B' w a len tl bs) (hb : Below w.heap.size w w') : Lists B B' w' a len tl bs := by
  rcases h with h | ⟨b, off, rfl, hB, hz⟩
  · exact Or.inl h
  · refine Or.inr ⟨b, off, rfl, hB, fun i hi => ?_⟩
    obtain ⟨ta, tc, hc, hy⟩ := hz i hi
    exact ⟨ta, tc, (hb.cell (p := ⟨b, off + i, none⟩) (block_lt_of_cell hc)).trans hc, hy.up hb⟩

/-- What the new outer row holds after k rounds. -/
def UpToL (B' : Nat) (w : World) (cur : Array Value) (tl : Nat → Nat) (bs : Nat → Nat → Int) (k : Nat) : Prop := ∀ i, i < k → ∃ ta tc, cur[i]? = some (.slice ta (tl i) tc) ∧ Byts B' w ta (tl i) (bs i)

theorem UpToL.step {N : Nat} {w w1 : World} {cur : Array Value} {tl : Nat → Nat} {bs : Nat → Nat → Int} {k : Nat} (h : UpToL (N + 1) w cur tl bs k) (hk : k < cur.size) (hb : Below w.heap.size w w1) {ta : Option Addr} {tc : Nat} (hy : Byts (N + 1) w1 ta (tl k) (bs k)) :
    UpToL (N + 1) (w1.setCell ⟨N, k, none⟩ (.slice ta (tl k) tc)) (cur.setIfInBounds k (.slice ta (tl k) tc)) tl bs (k + 1) := fun i hi => by
  by_cases e : i = k
  · subst e
    exact ⟨ta, tc, get_set_eq hk, hy.set (by simp) _⟩
  · obtain ⟨a, c, h1, h2⟩ := h i (by omega)
    exact ⟨a, c, get_set_lt e h1, (h2.up hb).set (by simp) _⟩

def CloneL (w : World) (len : Nat) (tl : Nat → Nat) (bs : Nat → Nat → Int) (e : Ending) (w' : World) : Prop := ∃ a' c', e = .returned (.slice a' len c') ∧ Lists w.heap.size w.heap.size w' a' len tl bs ∧ Below w.heap.size w w'

set_option maxRecDepth 100000 in
set_option maxHeartbeats 1000000 in
theorem cloneL_any (a : Option Addr) (len cap : Nat) (tl : Nat → Nat) (bs : Nat → Nat → Int) (w : World) (hl : len ≤ 16384) (htl : ∀ i, i < len → tl i ≤ 1048576) (hss : Lists 0 0 w a len tl bs) :
    Calls Try.prog 12 #[.slice a len cap] w fun e w' => CloneL w len tl bs e w' := by
  have hnil := fun W => Lib.run_eql_slice_nil (P := Try.prog) W 26 31 a len cap 0 0 Try.underlying26
  have HT := hideIt htl
  clear htl
  cases a with
  | none =>
    have h0 : len = 0 := by rcases hss with h | ⟨_, _, h, _⟩; exact h; cases h
    subst h0
    simp only [Option.isNone_none] at hnil
    go_enter Try.func12, Try.ntmps12
    go_wp2
    go_ret
    exact ⟨_, _, rfl, Or.inl rfl, Below.refl _ _⟩
  | some x =>
    simp only [Option.isNone_some] at hnil
    obtain ⟨i0, hi, hz0, hz1, hz2⟩ := info_parts Try.info31
    obtain ⟨M, hMs, hmk⟩ : ∃ M : Array Value, M.size = len ∧ ∀ W : World, (Instr.makeSlice 26 (.int .i64 (len : Int)) (.int .i64 (len : Int))).run Try.prog W = .ok (.slice (some ⟨W.heap.size, 0, none⟩) len len) (W.alloc (.cells M 31)) := by
      refine ⟨madeCells (Value.slice none 0 0).cells (((len : Nat) : Int).toNat * i0.size), by rw [size_madeCells, hz1]; simp, fun W => ?_⟩
      have h := run_make (P := Try.prog) W 26 31 i0 (.slice none 0 0) Try.underlying26 hi hz0 .i64 .i64 (len : Int) (len : Int) (by omega) (by omega) (by rw [hz2]; omega) (by omega)
      simpa using h
    clear hi hz0 hz1 hz2
    have HS := hideIt hss
    clear hss
    go_enter Try.func12, Try.ntmps12
    go_wp2
    go_loopw [4] (fun i wr => ∃ (k : Nat) (cur : Array Value), k ≤ len ∧ i = .int .i64 k ∧ cur.size = len ∧ wr.heap[w.heap.size]? = some (.cells cur 31 (0, 0)) ∧ Below w.heap.size w wr ∧ UpToL (w.heap.size + 1) wr cur tl bs k) (fun i _ => len - (intOf i).toNat)
    case atStart => exact ⟨0, M, Nat.zero_le _, rfl, hMs, heap_alloc_new _ _, (Below.refl _ w).alloc (Nat.le_refl _) _, fun i hi => absurd hi (Nat.not_lt_zero i)⟩
    case round =>
      obtain ⟨k, cur, hk, rfl, hcs, hN, hb, hu⟩ := hrel
      have HB := hideIt hb
      have HU := hideIt hu
      have HN := hideIt hN
      have hNl : w.heap.size < wr.heap.size := (Array.getElem?_eq_some_iff.1 hN).1
      clear hu hN
      by_cases hlt : k < len
      · rcases HS.out with h0 | ⟨b, off, hx, _, hss⟩
        · omega
        · injection hx with hx
          subst hx
          obtain ⟨ta, tc, hc, hy⟩ := hss k hlt
          have hcr : wr.cell? ⟨b, off + k, none⟩ = some (.slice ta (tl k) tc) := (hb.cell (p := ⟨b, off + k, none⟩) (block_lt_of_cell hc)).trans hc
          have HY := hideIt (hy.up (HB.out.mono (Nat.le_refl _)))
          have htk := HT.out k hlt
          clear hss hc hy hb HS
          go_wp2_with fail
          refine (cloneB_any ta (tl k) tc (bs k) wr htk HY.out).mono ?_
          rintro e w1 ⟨a', c', rfl, hby, hb1⟩
          have hN1 : w1.heap[w.heap.size]? = some (.cells cur 31 (0, 0)) := (hb1.block _ hNl).trans HN.out
          have hcw : ∃ v, w1.cell? ⟨w.heap.size, k, none⟩ = some v := ⟨cur[k], by rw [cell_of_row w1 _ k _ _ _ hN1]; exact Array.getElem?_eq_getElem (by omega)⟩
          obtain ⟨v, hcv⟩ := hcw
          have hfv := frozen_of_row w1 w.heap.size k _ _ hN1
          have HN1 := hideIt hN1
          have HU1 := hideIt (HU.out.step (tc := c') (by omega) hb1 (hby.low (by omega)))
          have HB1 : Hid (Below w.heap.size w w1) := HB.out.trans (hb1.mono (Nat.le_of_lt hNl))
          clear hby hb1 hN1 HU HB HN HY hcr
          go_wp2
          go_roundw
          case rel => exact ⟨k + 1, cur.setIfInBounds k (.slice a' (tl k) c'), by omega, by go_num, by simpa using hcs, row_set HN1.out, HB1.out.setCell (Nat.le_refl _) _, HU1.out⟩
          case measure => simp [intOf]; omega
      · clear hb
        go_wp2
        go_ret
        have hkl : k = len := by omega
        subst hkl
        refine ⟨_, _, rfl, Or.inr ⟨w.heap.size, 0, rfl, Nat.le_refl _, fun i hi => ?_⟩, HB.out⟩
        obtain ⟨ta, tc, h1, h2⟩ := HU.out i hi
        exact ⟨ta, tc, by rw [Nat.zero_add, cell_of_row wr _ i _ _ _ HN.out]; exact h1, h2.low (Nat.le_succ _)⟩

/-! ### element or zero -/
def NumsF (w : World) (a : Option Addr) (len : Nat) (zs : Nat → Int) : Prop := len = 0 ∨ ∃ b off, a = some ⟨b, off, none⟩ ∧ ∀ i, i < len → w.cell? ⟨b, off + i, none⟩ = some (.int .u64 (zs i))
def StrsF (w : World) (a : Option Addr) (len : Nat) (ss : Nat → ByteArray) : Prop := len = 0 ∨ ∃ b off, a = some ⟨b, off, none⟩ ∧ ∀ i, i < len → w.cell? ⟨b, off + i, none⟩ = some (.string (ss i)) ∧ (ss i).size ≤ maxLen
def BoolsF (w : World) (a : Option Addr) (len : Nat) (zs : Nat → Bool) : Prop := len = 0 ∨ ∃ b off, a = some ⟨b, off, none⟩ ∧ ∀ i, i < len → w.cell? ⟨b, off + i, none⟩ = some (.bool (zs i))

theorem NumsF.up {w w' : World} {a : Option Addr} {len : Nat} {zs : Nat → Int} (h : NumsF w a len zs) (hb : Below w.heap.size w w') : NumsF w' a len zs := by
  rcases h with h | ⟨b, off, rfl, hz⟩
  · exact Or.inl h
  · exact Or.inr ⟨b, off, rfl, fun i hi => (hb.cell (p := ⟨b, off + i, none⟩) (block_lt_of_cell (hz i hi))).trans (hz i hi)⟩
theorem StrsF.up {w w' : World} {a : Option Addr} {len : Nat} {zs : Nat → ByteArray} (h : StrsF w a len zs) (hb : Below w.heap.size w w') : StrsF w' a len zs := by
  rcases h with h | ⟨b, off, rfl, hz⟩
  · exact Or.inl h
  · exact Or.inr ⟨b, off, rfl, fun i hi => ⟨(hb.cell (p := ⟨b, off + i, none⟩) (block_lt_of_cell (hz i hi).1)).trans (hz i hi).1, (hz i hi).2⟩⟩
theorem BoolsF.up {w w' : World} {a : Option Addr} {len : Nat} {zs : Nat → Bool} (h : BoolsF w a len zs) (hb : Below w.heap.size w w') : BoolsF w' a len zs := by
  rcases h with h | ⟨b, off, rfl, hz⟩
  · exact Or.inl h
  · exact Or.inr ⟨b, off, rfl, fun i hi => (hb.cell (p := ⟨b, off + i, none⟩) (block_lt_of_cell (hz i hi))).trans (hz i hi)⟩

def numAt (len : Nat) (zs : Nat → Int) (k : Nat) : Int := if k < len then zs k else 0
def strAt (len : Nat) (ss : Nat → ByteArray) (k : Nat) : ByteArray := if k < len then ss k else ⟨#[]⟩
def boolAt (len : Nat) (zs : Nat → Bool) (k : Nat) : Bool := if k < len then zs k else false

theorem ret_u64 {a b : Int} (h : a = b) : Ending.returned (.int .u64 a) = .returned (.int .u64 b) := by rw [h]
theorem ret_str {a b : ByteArray} (h : a = b) : Ending.returned (.string a) = .returned (.string b) := by rw [h]

set_option maxHeartbeats 1000000 in
theorem u64at_any (a : Option Addr) (len cap : Nat) (zs : Nat → Int) (k : Nat) (w : World) (hl : len ≤ 16384) (hk : k ≤ 16384) (h : NumsF w a len zs) :
    Calls Try.prog 14 #[.slice a len cap, .int .i64 k] w fun e w' => e = .returned (.int .u64 (numAt len zs k)) ∧ w' = w := by
  by_cases hlt : k < len
  · rcases h with h0 | ⟨b, off, rfl, hz⟩
    · omega
    · have hc := hz k hlt
      have hv : numAt len zs k = zs k := if_pos hlt
      rw [hv]
      clear hv hz
      go_enter Try.func14, Try.ntmps14
      go_wp2
      go_ret
      exact ⟨rfl, rfl⟩
  · have hv : numAt len zs k = 0 := if_neg hlt
    rw [hv]
    clear hv h
    go_enter Try.func14, Try.ntmps14
    go_wp2
    go_ret
    exact ⟨rfl, rfl⟩

set_option maxHeartbeats 1000000 in
theorem strat_any (a : Option Addr) (len cap : Nat) (zs : Nat → ByteArray) (k : Nat) (w : World) (hl : len ≤ 16384) (hk : k ≤ 16384) (h : StrsF w a len zs) :
    Calls Try.prog 17 #[.slice a len cap, .int .i64 k] w fun e w' => e = .returned (.string (strAt len zs k)) ∧ w' = w := by
  by_cases hlt : k < len
  · rcases h with h0 | ⟨b, off, rfl, hz⟩
    · omega
    · have hc := (hz k hlt).1
      have hv : strAt len zs k = zs k := if_pos hlt
      rw [hv]
      clear hv hz
      go_enter Try.func17, Try.ntmps17
      go_wp2
      go_ret
      exact ⟨rfl, rfl⟩
  · have hv : strAt len zs k = ⟨#[]⟩ := if_neg hlt
    rw [hv]
    clear hv h
    go_enter Try.func17, Try.ntmps17
    go_wp2
    go_ret
    exact ⟨rfl, rfl⟩

set_option maxHeartbeats 1000000 in
theorem boolat_any (a : Option Addr) (len cap : Nat) (zs : Nat → Bool) (k : Nat) (w : World) (hl : len ≤ 65536) (hk : k ≤ 16384) (h : BoolsF w a len zs) :
    Calls Try.prog 18 #[.slice a len cap, .int .i64 k] w fun e w' => e = .returned (.bool (boolAt len zs k)) ∧ w' = w := by
  by_cases hlt : k < len
  · rcases h with h0 | ⟨b, off, rfl, hz⟩
    · omega
    · have hc := hz k hlt
      have hv : boolAt len zs k = zs k := if_pos hlt
      rw [hv]
      clear hv hz
      go_enter Try.func18, Try.ntmps18
      go_wp2
      go_ret
      exact ⟨rfl, rfl⟩
  · have hv : boolAt len zs k = false := if_neg hlt
    rw [hv]
    clear hv h
    go_enter Try.func18, Try.ntmps18
    go_wp2
    go_ret
    exact ⟨rfl, rfl⟩

set_option maxRecDepth 100000 in
set_option maxHeartbeats 1000000 in
theorem eqB_any (a a' : Option Addr) (len c c' : Nat) (bs : Nat → Int) (w : World) (hl : len ≤ 1048576) (h : Byts 0 w a len bs) (h' : Byts 0 w a' len bs) :
    Calls Try.prog 22 #[.slice a len c, .slice a' len c'] w fun e w' => e = .returned (.bool true) ∧ ∃ n, w' = w.drewN n := by
  have H := hideIt h
  have H' := hideIt h'
  clear h h'
  go_enter Try.func22, Try.ntmps22
  go_wp2
  go_loopw [5] (fun i wr => ∃ (k n : Nat), k ≤ len ∧ i = .int .i64 k ∧ wr = w.drewN n) (fun i _ => len - (intOf i).toNat)
  case atStart => exact ⟨0, 0, Nat.zero_le _, rfl, rfl⟩
  case round =>
    obtain ⟨k, n, hk, rfl, rfl⟩ := hrel
    by_cases hlt : k < len
    · rcases H.out with h0 | ⟨b, off, rfl, _, hz⟩
      · omega
      · rcases H'.out with h0 | ⟨b', off', rfl, _, hz'⟩
        · omega
        · have hc := hz k hlt
          have hc' := hz' k hlt
          have hki : (k : Int) < (len : Int) := by omega
          clear hz hz' H H'
          go_wp2
          go_quiet (fail)
          go_wp2
          go_roundw
          case rel => exact ⟨k + 1, _, by omega, by go_num, rfl⟩
          case measure => simp [intOf]; omega
    · go_wp2
      go_ret
      exact ⟨rfl, n, rfl⟩

set_option maxRecDepth 100000 in
set_option maxHeartbeats 4000000 in
theorem bytesP_any (s1 : ByteArray) (x1 x2 x3 : Value) (s2 s3 : ByteArray) (a : Option Addr) (len cap : Nat) (tl : Nat → Nat) (bs : Nat → Nat → Int) (sa : Option Addr) (sl sc : Nat) (na : Option Addr) (nl nc : Nat) (ss : Nat → ByteArray) (ia : Option Addr) (il ic : Nat) (ra : Option Addr) (rl rc : Nat)
    (w : World) (h1 : s1.size ≤ maxLen) (h2 : s2.size ≤ maxLen) (h3 : s3.size ≤ maxLen) (hl : len ≤ maxLen) (hsl : sl ≤ maxLen) (hnl : nl ≤ maxLen) (hil : il ≤ maxLen) (hrl : rl ≤ maxLen) (htl : ∀ i, i < len → tl i ≤ maxLen) (hss : Lists 0 0 w a len tl bs) (hns : StrsF w na nl ss) :
    Calls Try.prog 11 #[.string s1, x1, x2, x3, .string s2, .string s3, .slice a len cap, .slice sa sl sc, .slice na nl nc, .slice ia il ic, .slice ra rl rc] w fun e w' => IsBool e ∧ w' = w := by
  have HS := hideIt hss
  have HN := hideIt hns
  have HT := hideIt htl
  clear hss hns htl
  unfold maxLen at h1 h2 h3 hl hsl hnl hil hrl
  go_enter Try.func11, Try.ntmps11
  go_wp2
  all_goals first | (go_ret; exact ⟨⟨_, rfl⟩, rfl⟩) | skip
  go_loop [23, 24] (fun z i => ∃ (k : Nat) (q : Int), k ≤ len ∧ i = .int .i64 k ∧ z = .int .i64 q) (fun _ i => len - (intOf i).toNat)
  case atStart => exact ⟨0, _, Nat.zero_le _, rfl, rfl⟩
  case round =>
    obtain ⟨k, q, hk, rfl, rfl⟩ := hrel
    by_cases hlt : k < len
    · rcases HS.out with h0 | ⟨b', off, rfl, _, hss⟩
      · omega
      · obtain ⟨ta, tc, hc, _⟩ := hss k hlt
        have hsz := HT.out k hlt
        unfold maxLen at hsz
        clear hss HS HN HT
        go_wp2
        all_goals first | (go_ret; exact ⟨⟨_, rfl⟩, rfl⟩) | skip
        go_round
        case rel => exact ⟨k + 1, _, by omega, by go_num, rfl⟩
        case measure => simp [intOf]; omega
    · clear HS HT
      go_wp2
      all_goals first | (go_ret; exact ⟨⟨_, rfl⟩, rfl⟩) | skip
      go_loop [23, 25] (fun z i => ∃ (k : Nat) (q : Int), k ≤ nl ∧ i = .int .i64 k ∧ z = .int .i64 q) (fun _ i => nl - (intOf i).toNat)
      case atStart => exact ⟨0, _, Nat.zero_le _, rfl, rfl⟩
      case round =>
        obtain ⟨k', q', hk', rfl, rfl⟩ := hrel
        by_cases hlt' : k' < nl
        · rcases HN.out with h0 | ⟨b', off, rfl, hss⟩
          · omega
          · obtain ⟨hc, hsz⟩ := hss k' hlt'
            unfold maxLen at hsz
            clear hss HN
            go_wp2
            all_goals first | (go_ret; exact ⟨⟨_, rfl⟩, rfl⟩) | skip
            go_round
            case rel => exact ⟨k' + 1, _, by omega, by go_num, rfl⟩
            case measure => simp [intOf]; omega
        · clear HN
          go_wp2
          all_goals go_ret
          all_goals exact ⟨⟨_, rfl⟩, rfl⟩
end Go.Proofs.Qxb6609105a
