import Derived.Test.Qxb6609105aAsker
import Derived.Lib.SliceRun
import Derived.Laws.MakeOwn
namespace Go.Proofs.Qxb6609105a
open Go.RowKit
set_option linter.unusedVariables false

/-- The strings of a slice that came in: none, or they lie at an address. -/
def Strs (w : World) (b off len : Nat) (ss : Nat → ByteArray) : Prop := ∀ i, i < len → w.cell? ⟨b, off + i, none⟩ = some (.string (ss i)) ∧ (ss i).size ≤ maxLen
def IsStrs (w : World) (a : Option Addr) (len : Nat) : Prop := len = 0 ∨ ∃ b off ss, a = some ⟨b, off, none⟩ ∧ Strs w b off len ss

def Nums (w : World) (b off len : Nat) (zs : Nat → Int) : Prop := ∀ i, i < len → w.cell? ⟨b, off + i, none⟩ = some (.int .u64 (zs i))
def IsNums (w : World) (a : Option Addr) (len : Nat) : Prop := len = 0 ∨ ∃ b off zs, a = some ⟨b, off, none⟩ ∧ Nums w b off len zs

set_option maxRecDepth 100000 in
set_option maxHeartbeats 1000000 in
theorem bytesQ_any (s1 s2 : ByteArray) (a : Option Addr) (len cap : Nat) (x : Value) (b : Option Addr) (lenb capb : Nat) (s3 : ByteArray) (w : World) (h1 : s1.size ≤ maxLen) (h2 : s2.size ≤ maxLen) (h3 : s3.size ≤ maxLen) (hl : len ≤ maxLen) (hlb : lenb ≤ maxLen) (hss : IsStrs w a len) :
    Calls Try.prog 23 #[.string s1, .string s2, .slice a len cap, x, .slice b lenb capb, .string s3] w fun e w' => IsBool e ∧ w' = w := by
  have HS := hideIt hss
  clear hss
  unfold maxLen at h1 h2 h3 hl hlb
  go_enter Try.func23, Try.ntmps23
  go_wp2
  all_goals first | (go_ret; exact ⟨⟨_, rfl⟩, rfl⟩) | skip
  go_loop [13, 14] (fun z i => ∃ (k : Nat) (q : Int), k ≤ len ∧ i = .int .i64 k ∧ z = .int .i64 q) (fun _ i => len - (intOf i).toNat)
  case atStart => exact ⟨0, _, Nat.zero_le _, rfl, rfl⟩
  case round =>
    obtain ⟨k, q, hk, rfl, rfl⟩ := hrel
    by_cases hlt : k < len
    · rcases HS.out with h0 | ⟨b', off, ss, rfl, hss⟩
      · omega
      · obtain ⟨hc, hsz⟩ := hss k hlt
        unfold maxLen at hsz
        clear hss HS
        go_wp2
        all_goals first | (go_ret; exact ⟨⟨_, rfl⟩, rfl⟩) | skip
        go_round
        case rel => exact ⟨k + 1, _, by omega, by go_num, rfl⟩
        case measure => simp [intOf]; omega
    · clear HS
      go_wp2
      all_goals go_ret
      all_goals exact ⟨⟨_, rfl⟩, rfl⟩

theorem Try.info9 : (Try.prog.info? 9).map (fun i => (i.zero, i.size, i.bytes)) = some (some (.string ⟨#[]⟩), 1, 16) := by kernel_rfl
theorem Try.info25 : (Try.prog.info? 25).map (fun i => (i.zero, i.size, i.bytes)) = some (some (.int .u64 0), 1, 8) := by kernel_rfl

def IsSlice (e : Ending) : Prop := ∃ a n c, e = .returned (.slice a n c)

theorem row_set {w : World} {N k : Nat} {cur : Array Value} {t : TypeId} {v : Value} (h : w.heap[N]? = some (.cells cur t (0, 0))) : (w.setCell ⟨N, k, none⟩ v).heap[N]? = some (.cells (cur.setIfInBounds k v) t (0, 0)) := heap_setCell_same w N k cur t v h

set_option maxRecDepth 100000 in
set_option maxHeartbeats 1000000 in
theorem cloneS_any (a : Option Addr) (len cap : Nat) (w : World) (hl : len ≤ 16384) (hss : IsStrs w a len) :
    Calls Try.prog 24 #[.slice a len cap] w fun e w' => IsSlice e ∧ Below w.heap.size w w' := by
  have hnil := fun W => Lib.run_eql_slice_nil (P := Try.prog) W 28 9 a len cap 0 0 Try.underlying28
  cases a with
  | none =>
    simp only [Option.isNone_none] at hnil
    go_enter Try.func24, Try.ntmps24
    go_wp2
    go_ret
    exact ⟨⟨_, _, _, rfl⟩, Below.refl _ _⟩
  | some x =>
    simp only [Option.isNone_some] at hnil
    obtain ⟨i0, hi, hz0, hz1, hz2⟩ := info_parts Try.info9
    obtain ⟨M, hMs, hmk⟩ : ∃ M : Array Value, M.size = len ∧ ∀ W : World, (Instr.makeSlice 28 (.int .i64 (len : Int)) (.int .i64 (len : Int))).run Try.prog W = .ok (.slice (some ⟨W.heap.size, 0, none⟩) len len) (W.alloc (.cells M 9)) := by
      refine ⟨madeCells (Value.string ⟨#[]⟩).cells (((len : Nat) : Int).toNat * i0.size), by rw [size_madeCells, hz1]; simp, fun W => ?_⟩
      have h := run_make (P := Try.prog) W 28 9 i0 (.string ⟨#[]⟩) Try.underlying28 hi hz0 .i64 .i64 (len : Int) (len : Int) (by omega) (by omega) (by rw [hz2]; omega) (by omega)
      simpa using h
    clear hi hz0 hz1 hz2
    have HS := hideIt hss
    clear hss
    go_enter Try.func24, Try.ntmps24
    go_wp2
    go_loopw [4] (fun i wr => ∃ (k : Nat) (cur : Array Value), k ≤ len ∧ i = .int .i64 k ∧ cur.size = len ∧ wr.heap[w.heap.size]? = some (.cells cur 9 (0, 0)) ∧ Below w.heap.size w wr) (fun i _ => len - (intOf i).toNat)
    case atStart => exact ⟨0, M, Nat.zero_le _, rfl, hMs, heap_alloc_new _ _, (Below.refl _ w).alloc (Nat.le_refl _) _⟩
    case round =>
      obtain ⟨k, cur, hk, rfl, hcs, hN, hb⟩ := hrel
      have HB := hideIt hb
      by_cases hlt : k < len
      · rcases HS.out with h0 | ⟨b, off, ss, hx, hss⟩
        · omega
        · injection hx with hx
          subst hx
          obtain ⟨hc, hsz⟩ := hss k hlt
          have hcr : wr.cell? ⟨b, off + k, none⟩ = some (.string (ss k)) := (hb.cell (p := ⟨b, off + k, none⟩) (block_lt_of_cell hc)).trans hc
          have hcw : ∃ v, wr.cell? ⟨w.heap.size, k, none⟩ = some v := ⟨cur[k], by rw [cell_of_row wr _ k _ _ _ hN]; exact Array.getElem?_eq_getElem (by omega)⟩
          obtain ⟨v, hcv⟩ := hcw
          have hfv := frozen_of_row wr w.heap.size k _ _ hN
          have HN := hideIt hN
          clear hss hc hsz hb hN HS
          go_wp2
          go_roundw
          case rel => exact ⟨k + 1, cur.setIfInBounds k (.string (ss k)), by omega, by go_num, by simpa using hcs, row_set HN.out, HB.out.setCell (Nat.le_refl _) _⟩
          case measure => simp [intOf]; omega
      · clear hb hN
        go_wp2
        go_ret
        exact ⟨⟨_, _, _, rfl⟩, HB.out⟩
set_option maxRecDepth 100000 in
set_option maxHeartbeats 1000000 in
theorem cloneU_any (a : Option Addr) (len cap : Nat) (w : World) (hl : len ≤ 16384) (hss : IsNums w a len) :
    Calls Try.prog 25 #[.slice a len cap] w fun e w' => IsSlice e ∧ Below w.heap.size w w' := by
  have hnil := fun W => Lib.run_eql_slice_nil (P := Try.prog) W 27 25 a len cap 0 0 Try.underlying27
  cases a with
  | none =>
    simp only [Option.isNone_none] at hnil
    go_enter Try.func25, Try.ntmps25
    go_wp2
    go_ret
    exact ⟨⟨_, _, _, rfl⟩, Below.refl _ _⟩
  | some x =>
    simp only [Option.isNone_some] at hnil
    obtain ⟨i0, hi, hz0, hz1, hz2⟩ := info_parts Try.info25
    obtain ⟨M, hMs, hmk⟩ : ∃ M : Array Value, M.size = len ∧ ∀ W : World, (Instr.makeSlice 27 (.int .i64 (len : Int)) (.int .i64 (len : Int))).run Try.prog W = .ok (.slice (some ⟨W.heap.size, 0, none⟩) len len) (W.alloc (.cells M 25)) := by
      refine ⟨madeCells (Value.int .u64 0).cells (((len : Nat) : Int).toNat * i0.size), by rw [size_madeCells, hz1]; simp, fun W => ?_⟩
      have h := run_make (P := Try.prog) W 27 25 i0 (.int .u64 0) Try.underlying27 hi hz0 .i64 .i64 (len : Int) (len : Int) (by omega) (by omega) (by rw [hz2]; omega) (by omega)
      simpa using h
    clear hi hz0 hz1 hz2
    have HS := hideIt hss
    clear hss
    go_enter Try.func25, Try.ntmps25
    go_wp2
    go_loopw [4] (fun i wr => ∃ (k : Nat) (cur : Array Value), k ≤ len ∧ i = .int .i64 k ∧ cur.size = len ∧ wr.heap[w.heap.size]? = some (.cells cur 25 (0, 0)) ∧ Below w.heap.size w wr) (fun i _ => len - (intOf i).toNat)
    case atStart => exact ⟨0, M, Nat.zero_le _, rfl, hMs, heap_alloc_new _ _, (Below.refl _ w).alloc (Nat.le_refl _) _⟩
    case round =>
      obtain ⟨k, cur, hk, rfl, hcs, hN, hb⟩ := hrel
      have HB := hideIt hb
      by_cases hlt : k < len
      · rcases HS.out with h0 | ⟨b, off, zs, hx, hss⟩
        · omega
        · injection hx with hx
          subst hx
          have hc := hss k hlt
          have hcr : wr.cell? ⟨b, off + k, none⟩ = some (.int .u64 (zs k)) := (hb.cell (p := ⟨b, off + k, none⟩) (block_lt_of_cell hc)).trans hc
          have hcw : ∃ v, wr.cell? ⟨w.heap.size, k, none⟩ = some v := ⟨cur[k], by rw [cell_of_row wr _ k _ _ _ hN]; exact Array.getElem?_eq_getElem (by omega)⟩
          obtain ⟨v, hcv⟩ := hcw
          have hfv := frozen_of_row wr w.heap.size k _ _ hN
          have HN := hideIt hN
          clear hss hc hb hN HS
          go_wp2
          go_roundw
          case rel => exact ⟨k + 1, cur.setIfInBounds k (.int .u64 (zs k)), by omega, by go_num, by simpa using hcs, row_set HN.out, HB.out.setCell (Nat.le_refl _) _⟩
          case measure => simp [intOf]; omega
      · clear hb hN
        go_wp2
        go_ret
        exact ⟨⟨_, _, _, rfl⟩, HB.out⟩

/-- The cells of a query. -/
def qCells (id co : ByteArray) (v : Int) (a : Option Addr) (n c : Nat) (b : Option Addr) (l d : Nat) : Array Value := #[.int .u8 8, .string id, .slice a n c, .slice none 0 0, .bool false, .string ⟨#[]⟩, .string co, .string ⟨#[]⟩, .int .u64 0, .int .u64 v, .string ⟨#[]⟩, .string ⟨#[]⟩, .int .u64 0, .slice none 0 0, .int .u64 0, .int .u64 0, .bool false, .string ⟨#[]⟩, .int .u64 0, .int .u64 0, .int .u64 0, .slice none 0 0, .slice none 0 0, .string ⟨#[]⟩, .string ⟨#[]⟩, .slice none 0 0, .slice none 0 0, .bool false, .int .u64 0, .bool false, .bool false, .slice none 0 0, .int .u64 0, .int .u64 0, .bool false, .bool false, .string ⟨#[]⟩, .string ⟨#[]⟩, .string ⟨#[]⟩, .int .u64 0, .slice b l d]

theorem q_one (id co : ByteArray) (v : Int) (a : Option Addr) (n c : Nat) (b : Option Addr) (l d : Nat) : (qCells id co v a n c b l d).all (·.oneCell') = true := by kernel_rfl
theorem isMsg_q (id co : ByteArray) (v : Int) (a : Option Addr) (n c : Nat) (b : Option Addr) (l d : Nat) : IsMsg (qCells id co v a n c b l d) 8 0 v ⟨#[]⟩ ⟨#[]⟩ false ⟨#[]⟩ :=
  ⟨rfl, q_one _ _ _ _ _ _ _ _ _, rfl, rfl, rfl, rfl, rfl, rfl, rfl⟩
theorem q_size82 (id co : ByteArray) (v : Int) (a : Option Addr) (n c : Nat) (b : Option Addr) (l d : Nat) : (Try.prog.info? 82).map (·.size) = some (qCells id co v a n c b l d).size := Try.size82

set_option maxRecDepth 100000 in
set_option maxHeartbeats 1000000 in
theorem newtx_any (id co : ByteArray) (v : Int) (a : Option Addr) (n c : Nat) (b : Option Addr) (l d : Nat) (w : World) :
    Calls Try.prog 26 #[.string co, .slice a n c, .int .u64 v, .slice b l d] w fun e w' => e = .returned (.agg #[.string co, .slice a n c, .int .u64 v, .slice b l d]) ∧ Below w.heap.size w w' := by
  go_enter Try.func26, Try.ntmps26
  go_wp2
  exact bodyPost_ret (v := .agg #[.string co, .slice a n c, .int .u64 v, .slice b l d]) (by simp [results, Try.results26, go_sem]) rfl ⟨rfl, (Below.refl _ w).alloc (Nat.le_refl _) _⟩

set_option maxRecDepth 100000 in
set_option maxHeartbeats 1000000 in
theorem query_any (id co : ByteArray) (v : Int) (a : Option Addr) (n c : Nat) (b : Option Addr) (l d : Nat) (w : World) :
    Calls Try.prog 36 #[.agg #[.string co, .slice a n c, .int .u64 v, .slice b l d], .string id] w fun e w' => e = .returned (.agg (qCells id co v a n c b l d)) ∧ Below w.heap.size w w' := by
  go_enter Try.func36, Try.ntmps36
  go_wp2_with (first
    | (refine wpList_buildTo rfl 82 _ rfl _ rfl (qCells id co v a n c b l d) (by kernel_rfl) ?_)
    | (refine wpList_store_new' rfl 82 _ _ rfl (qCells id co v a n c b l d) _ (w.heap.size + 1) rfl rfl (by simp) (q_size82 _ _ _ _ _ _ _ _ _) rfl (q_one _ _ _ _ _ _ _ _ _) ?_))
  exact bodyPost_ret (v := .agg (qCells id co v a n c b l d)) (results_cell_row Try.results36 _ _ (w.heap.size + 1) 82 _ (0, 0) _ rfl (heap_alloc2_new w _ _) Try.underlying82 rfl (q_size82 _ _ _ _ _ _ _ _ _)) rfl ⟨rfl, ((Below.refl _ w).alloc (Nat.le_refl _) _).alloc (by simp) _⟩

set_option maxRecDepth 100000 in
set_option maxHeartbeats 1000000 in
theorem zzquery_any (id co : ByteArray) (v : Int) (a : Option Addr) (n c : Nat) (b : Option Addr) (l d : Nat) (w : World) :
    Calls Try.prog 28 #[.agg #[.string co, .slice a n c, .int .u64 v, .slice b l d], .string id] w fun e w' => e = .returned (.agg (qCells id co v a n c b l d)) ∧ Below w.heap.size w w' := by
  go_enter Try.func28, Try.ntmps28
  go_wp2_with (first
    | (go_at_call 36; refine (query_any _ _ _ _ _ _ _ _ _ _).mono ?_; rintro e w1 ⟨rfl, hb⟩; have hg := (hb.block (w.heap.size + 1) (by simp)).trans (heap_alloc2_new w _ _); have HB := hideIt hb; clear hb)
    | (refine wpList_store_row rfl 82 _ _ rfl (w.heap.size + 1) _ rfl rfl 82 _ hg (q_size82 _ _ _ _ _ _ _ _ _) rfl (q_one _ _ _ _ _ _ _ _ _) ?_))
  refine bodyPost_ret (v := .agg (qCells id co v a n c b l d)) (results_cell_row Try.results28 _ _ (w.heap.size + 1) 82 _ (0, 0) _ rfl (setRow_heap _ _ _ _ 82 (0, 0) hg) Try.underlying82 rfl (q_size82 _ _ _ _ _ _ _ _ _)) rfl ⟨rfl, ?_⟩
  exact below_setRow ((((Below.refl _ w).alloc (Nat.le_refl _) _).alloc (by simp) _).trans (HB.out.mono (by simp <;> omega))) (by omega) _
end Go.Proofs.Qxb6609105a
