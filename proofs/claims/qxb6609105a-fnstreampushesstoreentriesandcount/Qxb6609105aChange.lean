import Derived.Test.Qxb6609105aKind
import Derived.BigQuiet
import Derived.Deep.QuietTactic
import Derived.Deep.WholeRow
import Derived.Great.BuildSlice
namespace Go.Proofs.Qxb6609105a
open Go.RowKit

theorem Try.size82 : (Try.prog.info? 82).map (·.size) = some 41 := by kernel_rfl

/-- The cells of a message. -/
def msgCells (t q n : Int) (mn ma : ByteArray) (tk : Bool) (av : ByteArray) : Array Value := #[.int .u8 t, .string ⟨#[]⟩, .slice none 0 0, .slice none 0 0, .bool false, .string ⟨#[]⟩, .string ⟨#[]⟩, .string ⟨#[]⟩, .int .u64 q, .int .u64 n, .string mn, .string ma, .int .u64 0, .slice none 0 0, .int .u64 0, .int .u64 0, .bool false, .string ⟨#[]⟩, .int .u64 0, .int .u64 0, .int .u64 0, .slice none 0 0, .slice none 0 0, .string ⟨#[]⟩, .string ⟨#[]⟩, .slice none 0 0, .slice none 0 0, .bool false, .int .u64 0, .bool false, .bool false, .slice none 0 0, .int .u64 0, .int .u64 0, .bool tk, .bool false, .string ⟨#[]⟩, .string ⟨#[]⟩, .string av, .int .u64 0, .slice none 0 0]

theorem msg_one (t q n : Int) (mn ma : ByteArray) (tk : Bool) (av : ByteArray) : (msgCells t q n mn ma tk av).all (·.oneCell') = true := by kernel_rfl
theorem msg_size (t q n : Int) (mn ma : ByteArray) (tk : Bool) (av : ByteArray) : (msgCells t q n mn ma tk av).size = 41 := rfl

/-- A whole row into the block that was made last. -/
theorem wpList_store_new {P : Program} {ops : Array Oper} {rest : List Oper} {o : Oper} {a : Act} {w : World} {Q : Exit → Act → World → Prop} (hgd : o.guard = none) (ty : TypeId) (x y : Operand) (ho : o.op = .store ty x y)
    (cells old : Array Value) (hx : a.eval x = .pointer (some ⟨w.heap.size, 0, none⟩)) (hy : a.eval y = .agg cells) (hi : (P.info? ty).map (·.size) = some cells.size)
    (hold : old.size = cells.size) (h1 : cells.all (·.oneCell') = true)
    (h : wpList P ops Q rest (a.put o.dst undef) (w.alloc (.cells cells ty))) : wpList P ops Q (o :: rest) a (w.alloc (.cells old ty)) := by
  refine wpList_store_row hgd ty x y ho w.heap.size cells hx hy ty old (heap_alloc_last w _) hi hold h1 ?_
  rw [World.setRow_alloc_new]
  exact h

set_option maxRecDepth 100000 in
set_option maxHeartbeats 1000000 in
theorem newmsg_any (t q n : Int) (mn ma : ByteArray) (tk : Bool) (av : ByteArray) (w : World) :
    Calls Try.prog 31 #[.int .u8 t, .int .u64 q, .int .u64 n, .string mn, .string ma, .bool tk, .string av] w fun e w' => e = .returned (.agg (msgCells t q n mn ma tk av)) ∧ w' = w.alloc (.cells (msgCells t q n mn ma tk av) 82) := by
  go_enter Try.func31, Try.ntmps31
  go_wp2_with (first
    | (refine wpList_buildTo rfl 82 _ rfl _ rfl (msgCells t q n mn ma tk av) (by kernel_rfl) ?_)
    | (refine wpList_store_new rfl 82 _ _ rfl (msgCells t q n mn ma tk av) _ rfl rfl Try.size82 rfl (msg_one t q n mn ma tk av) ?_))
  exact bodyPost_ret (v := .agg (msgCells t q n mn ma tk av)) (results_cell_row Try.results31 _ _ w.heap.size 82 _ (0, 0) _ rfl (heap_alloc_new w _) Try.underlying82 rfl Try.size82) rfl ⟨rfl, rfl⟩

theorem below3 (w : World) (a b c : Obj) : Below w.heap.size w (((w.alloc a).alloc b).alloc c) := (((Below.refl _ w).alloc (Nat.le_refl _) _).alloc (by simp) _).alloc (by simp <;> omega) _

/-- WHAT A MESSAGE's CELLS ARE ASKED FOR. -/
structure IsMsg (MC : Array Value) (t q n : Int) (mn ma : ByteArray) (tk : Bool) (av : ByteArray) : Prop where
  size : MC.size = 41
  one : MC.all (·.oneCell') = true
  c0 : MC[0]? = some (.int .u8 t)
  c8 : MC[8]? = some (.int .u64 q)
  c9 : MC[9]? = some (.int .u64 n)
  c10 : MC[10]? = some (.string mn)
  c11 : MC[11]? = some (.string ma)
  c34 : MC[34]? = some (.bool tk)
  c38 : MC[38]? = some (.string av)

set_option maxRecDepth 100000 in
set_option maxHeartbeats 1000000 in
theorem chof_state (MC : Array Value) (fr : ByteArray) (t q n : Int) (mn ma : ByteArray) (tk : Bool) (av : ByteArray) (w : World) (h : IsMsg MC t q n mn ma tk av) (h10 : (t == 10) = false) (h11 : (t == 11) = false) :
    Calls Try.prog 35 #[.string fr, .agg MC] w fun e w' => e = .returned (.agg #[.int .u64 q, .string fr, .int .u64 n, .int .i64 2, .string fr, .string ⟨#[]⟩, .bool false, .string av]) ∧ Below w.heap.size w w' := by
  obtain ⟨hs, ho, c0, c8, c9, c10, c11, c34, c38⟩ := h
  have HO := hideIt ho
  clear ho hs
  go_enter Try.func35, Try.ntmps35
  go_wp2
  go_region
  all_goals
    go_wp2
    exact bodyPost_ret (v := .agg #[.int .u64 q, .string fr, .int .u64 n, .int .i64 2, .string fr, .string ⟨#[]⟩, .bool false, .string av]) (by simp [results, Try.results35, go_sem]) rfl ⟨rfl, (below3 w _ _ _).drew⟩

set_option maxRecDepth 100000 in
set_option maxHeartbeats 1000000 in
theorem chof_add (MC : Array Value) (fr : ByteArray) (t q n : Int) (mn ma : ByteArray) (tk : Bool) (av : ByteArray) (w : World) (h : IsMsg MC t q n mn ma tk av) (h10 : (t == 10) = true) :
    Calls Try.prog 35 #[.string fr, .agg MC] w fun e w' => e = .returned (.agg #[.int .u64 q, .string fr, .int .u64 n, .int .i64 0, .string mn, .string ma, .bool tk, .string ⟨#[]⟩]) ∧ Below w.heap.size w w' := by
  obtain ⟨hs, ho, c0, c8, c9, c10, c11, c34, c38⟩ := h
  clear ho hs
  go_enter Try.func35, Try.ntmps35
  go_wp2
  go_region
  all_goals
    go_wp2
    exact bodyPost_ret (v := .agg #[.int .u64 q, .string fr, .int .u64 n, .int .i64 0, .string mn, .string ma, .bool tk, .string ⟨#[]⟩]) (by simp [results, Try.results35, go_sem]) rfl ⟨rfl, (below3 w _ _ _).drew⟩

set_option maxRecDepth 100000 in
set_option maxHeartbeats 1000000 in
theorem chof_rem (MC : Array Value) (fr : ByteArray) (t q n : Int) (mn ma : ByteArray) (tk : Bool) (av : ByteArray) (w : World) (h : IsMsg MC t q n mn ma tk av) (h10 : (t == 10) = false) (h11 : (t == 11) = true) :
    Calls Try.prog 35 #[.string fr, .agg MC] w fun e w' => e = .returned (.agg #[.int .u64 q, .string fr, .int .u64 n, .int .i64 1, .string mn, .string ma, .bool false, .string ⟨#[]⟩]) ∧ Below w.heap.size w w' := by
  obtain ⟨hs, ho, c0, c8, c9, c10, c11, c34, c38⟩ := h
  clear ho hs
  go_enter Try.func35, Try.ntmps35
  go_wp2
  exact bodyPost_ret (v := .agg #[.int .u64 q, .string fr, .int .u64 n, .int .i64 1, .string mn, .string ma, .bool false, .string ⟨#[]⟩]) (by simp [results, Try.results35, go_sem]) rfl ⟨rfl, below3 w _ _ _⟩

theorem Try.size66 : (Try.prog.info? 66).map (·.size) = some 8 := by kernel_rfl

theorem one8 (q : Int) (f : ByteArray) (n k : Int) (nm ad : ByteArray) (tk : Bool) (av : ByteArray) : (#[.int .u64 q, .string f, .int .u64 n, .int .i64 k, .string nm, .string ad, .bool tk, .string av] : Array Value).all (·.oneCell') = true := by kernel_rfl

theorem below_setRow {B : Nat} {a w : World} (h : Below B a w) {g : Nat} (hg : B ≤ g) (cs : Array Value) : Below B a (w.setRow g cs) :=
  h.trans ⟨rfl, rfl, rfl, by simp, fun k hk => setRow_other _ _ _ _ (by omega)⟩

set_option maxRecDepth 100000 in
set_option maxHeartbeats 1000000 in
theorem zzch_any (MC : Array Value) (fr : ByteArray) (q : Int) (f : ByteArray) (n k : Int) (nm ad : ByteArray) (tk : Bool) (av : ByteArray) (hs : MC.size = 41)
    (H : ∀ w, Calls Try.prog 35 #[.string fr, .agg MC] w fun e w' => e = .returned (.agg #[.int .u64 q, .string f, .int .u64 n, .int .i64 k, .string nm, .string ad, .bool tk, .string av]) ∧ Below w.heap.size w w') (w : World) :
    Calls Try.prog 27 #[.string fr, .agg MC] w fun e w' => e = .returned (.agg #[.int .u64 q, .string f, .int .u64 n, .int .i64 k, .string nm, .string ad, .bool tk, .string av]) ∧ Below w.heap.size w w' := by
  have HC := hideIt H
  have HZ : Hid ((Try.prog.info? 82).map (·.size) = some MC.size) := by rw [hs]; exact Try.size82
  clear H hs
  go_enter Try.func27, Try.ntmps27
  go_wp2_with (first
    | (refine wpList_load_row rfl 82 _ rfl w.heap.size rfl 82 MC (0, 0) _ (heap_alloc2_old w _ _) Try.underlying82 rfl HZ.out ?_)
    | (go_at_call 35; refine (HC.out _).mono ?_; rintro e w1 ⟨rfl, hb⟩; have hg := (hb.block (w.heap.size + 1) (by simp)).trans (heap_alloc2_new w _ _); have HB := hideIt hb; clear hb)
    | (refine wpList_store_row rfl 66 _ _ rfl (w.heap.size + 1) _ rfl rfl 66 _ hg Try.size66 rfl (one8 _ _ _ _ _ _ _ _) ?_))
  refine bodyPost_ret (v := .agg #[.int .u64 q, .string f, .int .u64 n, .int .i64 k, .string nm, .string ad, .bool tk, .string av]) (results_cell_row Try.results27 _ _ (w.heap.size + 1) 66 _ (0, 0) _ rfl (setRow_heap _ _ _ _ 66 (0, 0) hg) Try.underlying66 rfl Try.size66) rfl ⟨rfl, ?_⟩
  exact below_setRow ((((Below.refl _ w).alloc (Nat.le_refl _) _).alloc (by simp) _).trans (HB.out.mono (by simp <;> omega))) (by omega) _

set_option maxRecDepth 100000 in
set_option maxHeartbeats 1000000 in
theorem chfields_any (q : Int) (f : ByteArray) (n k : Int) (nm ad : ByteArray) (tk : Bool) (av : ByteArray) (w : World) :
    Calls Try.prog 29 #[.agg #[.int .u64 q, .string f, .int .u64 n, .int .i64 k, .string nm, .string ad, .bool tk, .string av]] w fun e w' => e = .returned (.tuple #[.int .u64 q, .string f, .int .u64 n, .int .i64 k, .string nm, .string ad, .bool tk, .string av]) ∧ Below w.heap.size w w' := by
  go_enter Try.func29, Try.ntmps29
  go_wp2
  go_quiet (fail)
  go_wp2
  exact bodyPost_ret (v := .tuple #[.int .u64 q, .string f, .int .u64 n, .int .i64 k, .string nm, .string ad, .bool tk, .string av]) (by simp [results, Try.results29, go_sem]) rfl ⟨rfl, below_drewN ((Below.refl _ w).alloc (Nat.le_refl _) _) _⟩
end Go.Proofs.Qxb6609105a
