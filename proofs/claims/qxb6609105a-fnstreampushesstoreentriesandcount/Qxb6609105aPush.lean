import Derived.Test.Qxb6609105aLists
import Derived.Deep.AppendLies
import Derived.Deep.RegionLaw
import Derived.Deep.CutRange
namespace Go.Proofs.Qxb6609105a
open Go.RowKit
set_option linter.unusedVariables false

def stCells (name : ByteArray) (inc base : Int) (v : Value) (by_ tu del : Int) (holder : ByteArray) : Array Value :=
  #[.string name, .int .u64 inc, .int .u64 base, v, .int .i64 by_, .int .i64 tu, .int .u64 del, .map none, .int .u64 0, .int .u64 0, .string holder]

def entCells (t : Value) (ord : ByteArray) (seq : Int) (ln : ByteArray) (id : Int) (rel : Bool) : Array Value :=
  #[t, .string ord, .slice none 0 0, .string ⟨#[]⟩, .int .u64 0, .int .u64 seq, .string ⟨#[]⟩, .string ln, .int .u64 id, .bool rel]

theorem Try.size95 : (Try.prog.info? 95).map (·.size) = some 11 := by kernel_rfl
theorem Try.size46 : (Try.prog.info? 46).map (·.size) = some 10 := by kernel_rfl
theorem ent_one (ta : Option Addr) (n c : Nat) (ord : ByteArray) (seq : Int) (ln : ByteArray) (id : Int) (rel : Bool) : (entCells (.slice ta n c) ord seq ln id rel).all (·.oneCell') = true := by kernel_rfl

set_option maxRecDepth 100000 in
set_option maxHeartbeats 1000000 in
theorem newstream_any (name : ByteArray) (inc base del : Int) (holder : ByteArray) (w : World) :
    Calls Try.prog 13 #[.string name, .int .u64 inc, .int .u64 base, .int .u64 del, .string holder] w fun e w' => e = .returned (.pointer (some ⟨w.heap.size, 0, none⟩)) ∧ w' = w.alloc (.cells (stCells name inc base (.slice none 0 0) 0 0 del holder) 95) := by
  go_enter Try.func13, Try.ntmps13
  go_wp2_with (refine wpList_buildTo rfl 95 _ rfl _ rfl (stCells name inc base (.slice none 0 0) 0 0 del holder) (by kernel_rfl) ?_)
  go_ret
  exact ⟨rfl, rfl⟩

set_option maxRecDepth 100000 in
set_option maxHeartbeats 1000000 in
theorem newentry_any (ta : Option Addr) (n c : Nat) (ord : ByteArray) (seq : Int) (ln : ByteArray) (id : Int) (rel : Bool) (w : World) :
    Calls Try.prog 16 #[.slice ta n c, .string ord, .int .u64 seq, .string ln, .int .u64 id, .bool rel] w fun e w' => e = .returned (.agg (entCells (.slice ta n c) ord seq ln id rel)) ∧ Below w.heap.size w w' := by
  go_enter Try.func16, Try.ntmps16
  go_wp2_with (first
    | (refine wpList_buildTo rfl 46 _ rfl _ rfl (entCells (.slice ta n c) ord seq ln id rel) (by kernel_rfl) ?_)
    | (refine wpList_store_new rfl 46 _ _ rfl (entCells (.slice ta n c) ord seq ln id rel) _ rfl rfl Try.size46 rfl (ent_one _ _ _ _ _ _ _ _) ?_))
  exact bodyPost_ret (v := .agg (entCells (.slice ta n c) ord seq ln id rel)) (results_cell_row Try.results16 _ _ w.heap.size 46 _ (0, 0) _ rfl (heap_alloc_new w _) Try.underlying46 rfl Try.size46) rfl ⟨rfl, (Below.refl _ w).alloc (Nat.le_refl _) _⟩

set_option maxRecDepth 100000 in
set_option maxHeartbeats 1000000 in
theorem isturn_any (t : Value) (ord : ByteArray) (seq : Int) (ln : ByteArray) (id : Int) (rel : Bool) (w : World) :
    Calls Try.prog 37 #[.agg (entCells t ord seq ln id rel)] w fun e w' => e = .returned (.bool (decide (0 < seq))) ∧ w' = w.alloc (.cells (entCells t ord seq ln id rel) 46) := by
  have e5 : (entCells t ord seq ln id rel)[5]? = some (.int .u64 seq) := rfl
  go_enter Try.func37, Try.ntmps37
  go_wp2
  go_ret
  exact ⟨rfl, rfl⟩

set_option maxRecDepth 100000 in
set_option maxHeartbeats 1000000 in
theorem entfields_any (ta : Option Addr) (n c : Nat) (ord : ByteArray) (seq : Int) (ln : ByteArray) (id : Int) (rel : Bool) (w : World) :
    Calls Try.prog 20 #[.agg (entCells (.slice ta n c) ord seq ln id rel)] w fun e w' => e = .returned (.tuple #[.slice ta n c, .string ord, .int .u64 seq, .string ln, .int .u64 id, .bool rel]) ∧ Below w.heap.size w w' := by
  have e0 : (entCells (.slice ta n c) ord seq ln id rel)[0]? = some (.slice ta n c) := rfl
  have e1 : (entCells (.slice ta n c) ord seq ln id rel)[1]? = some (.string ord) := rfl
  have e5 : (entCells (.slice ta n c) ord seq ln id rel)[5]? = some (.int .u64 seq) := rfl
  have e7 : (entCells (.slice ta n c) ord seq ln id rel)[7]? = some (.string ln) := rfl
  have e8 : (entCells (.slice ta n c) ord seq ln id rel)[8]? = some (.int .u64 id) := rfl
  have e9 : (entCells (.slice ta n c) ord seq ln id rel)[9]? = some (.bool rel) := rfl
  go_enter Try.func20, Try.ntmps20
  go_wp2
  go_quiet (fail)
  go_wp2
  exact bodyPost_ret (v := .tuple #[.slice ta n c, .string ord, .int .u64 seq, .string ln, .int .u64 id, .bool rel]) (by simp [results, Try.results20, go_sem]) rfl ⟨rfl, below_drewN ((Below.refl _ w).alloc (Nat.le_refl _) _) _⟩

set_option maxRecDepth 100000 in
set_option maxHeartbeats 1000000 in
theorem stfields_any (X : Nat) (name : ByteArray) (inc base : Int) (ga : Option Addr) (gn gc : Nat) (by_ tu del : Int) (holder : ByteArray) (w : World) (h : w.heap[X]? = some (.cells (stCells name inc base (.slice ga gn gc) by_ tu del holder) 95 (0, 0))) :
    Calls Try.prog 19 #[.pointer (some ⟨X, 0, none⟩)] w fun e w' => e = .returned (.tuple #[.string name, .int .u64 inc, .int .u64 base, .int .i64 gn, .int .i64 by_, .int .i64 tu, .int .u64 del, .string holder]) ∧ ∃ n, w' = w.drewN n := by
  have e0 : w.cell? ⟨X, 0, none⟩ = some (.string name) := cell_of_row w X 0 _ _ _ h
  have e1 : w.cell? ⟨X, 1, none⟩ = some (.int .u64 inc) := cell_of_row w X 1 _ _ _ h
  have e2 : w.cell? ⟨X, 2, none⟩ = some (.int .u64 base) := cell_of_row w X 2 _ _ _ h
  have e3 : w.cell? ⟨X, 3, none⟩ = some (.slice ga gn gc) := cell_of_row w X 3 _ _ _ h
  have e4 : w.cell? ⟨X, 4, none⟩ = some (.int .i64 by_) := cell_of_row w X 4 _ _ _ h
  have e5 : w.cell? ⟨X, 5, none⟩ = some (.int .i64 tu) := cell_of_row w X 5 _ _ _ h
  have e6 : w.cell? ⟨X, 6, none⟩ = some (.int .u64 del) := cell_of_row w X 6 _ _ _ h
  have e10 : w.cell? ⟨X, 10, none⟩ = some (.string holder) := cell_of_row w X 10 _ _ _ h
  clear h
  go_enter Try.func19, Try.ntmps19
  go_wp2
  go_quiet (fail)
  go_wp2
  exact bodyPost_ret (v := .tuple #[.string name, .int .u64 inc, .int .u64 base, .int .i64 gn, .int .i64 by_, .int .i64 tu, .int .u64 del, .string holder]) (by simp [results, Try.results19, go_sem]) rfl ⟨rfl, _, rfl⟩
end Go.Proofs.Qxb6609105a
