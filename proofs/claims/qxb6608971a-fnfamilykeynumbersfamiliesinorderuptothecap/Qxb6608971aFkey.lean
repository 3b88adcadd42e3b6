import Derived.Test.Qxb6608971aFamily
namespace Go.Proofs.Qxb6608971a
open Go.RowKit
variable {X M m lb : Nat} {fs : List Fam} {w : World}

set_option maxHeartbeats 400000 in
theorem fkey_bad (p : Value) (stem : ByteArray) (wd n : Int) (add : Bool) (w : World) (hs : stem.size ≤ maxLen) (hbad : argsB stem wd n = false) :
    Calls Try.prog 22 #[p, .string stem, .int .i64 wd, .int .u64 n, .bool add] w fun e w' => e = .returned (.agg #[.pointer none, .int .u64 0]) ∧ w' = w.alloc (.cells #[.pointer none, .int .u64 0] 65) := by
  unfold maxLen at hs
  have hb : wd = -1 ∨ (wd ≠ -1 ∧ 22 < stem.size) ∨ (wd ≠ -1 ∧ stem.size ≤ 22 ∧ 18014398509481984 ≤ n) := by
    unfold argsB at hbad
    simp only [decide_eq_false_iff_not] at hbad
    omega
  clear hbad
  rcases hb with h1 | ⟨h1, h2⟩ | ⟨h1, h2, h3⟩
  · subst h1
    go_enter Try.func22, Try.ntmps22
    go_wp2
    exact bodyPost_ret (v := .agg #[.pointer none, .int .u64 0]) (by simp [results, Try.results22, go_sem]) rfl ⟨rfl, rfl⟩
  · have h1' : (wd == -1) = false := by simpa using h1
    clear h1
    go_enter Try.func22, Try.ntmps22
    go_wp2
    exact bodyPost_ret (v := .agg #[.pointer none, .int .u64 0]) (by simp [results, Try.results22, go_sem]) rfl ⟨rfl, rfl⟩
  · have h1' : (wd == -1) = false := by simpa using h1
    clear h1
    go_enter Try.func22, Try.ntmps22
    go_wp2
    exact bodyPost_ret (v := .agg #[.pointer none, .int .u64 0]) (by simp [results, Try.results22, go_sem]) rfl ⟨rfl, rfl⟩

/-- What 'familyKey' hands back beside 'family'. -/
def numOf (p : Value) (n : Int) : Int := match p with | .pointer (some _) => n | _ => 0

theorem famPost_ptr {stem : ByteArray} {wd : Int} {add : Bool} {p : Value} {w' : World} (h : FamPost X M m fs w stem wd add p w') : ∃ u, p = .pointer u := by
  obtain ⟨_, _, _, _, ⟨_, f, _, _, rfl, _⟩ | ⟨rfl, _⟩⟩ := h
  · exact ⟨_, rfl⟩
  · exact ⟨_, rfl⟩

theorem family_ptr (h : Idx X M m fs lb w) (stem : ByteArray) (wd : Int) (add : Bool) (hs : stem.size ≤ 22) (h0 : 0 ≤ wd) (h1 : wd ≤ 255) (hne : ¬ (stem = ⟨#[]⟩ ∧ wd = 0)) :
    Calls Try.prog 24 #[.pointer (some ⟨X, 0, none⟩), .string stem, .int .i64 wd, .bool add] w fun e w' => ∃ u, e = .returned (.pointer u) ∧ FamPost X M m fs w stem wd add (.pointer u) w' := by
  refine (family_any h stem wd add hs h0 h1 hne).mono ?_
  rintro e w' ⟨p, rfl, hp⟩
  obtain ⟨u, rfl⟩ := famPost_ptr hp
  exact ⟨u, rfl, hp⟩

theorem famPost_cells {W : World} {stem : ByteArray} {wd : Int} {add : Bool} {p : Value} {w' : World} {k : Nat} {cs : Array Value} {t : TypeId} (h : FamPost X M m fs W stem wd add p w') (hX : k ≠ X) (hM : k ≠ M) (hk : W.heap[k]? = some (.cells cs t (0, 0))) :
    w'.heap[k]? = some (.cells cs t (0, 0)) := by
  obtain ⟨_, _, _, hK, _⟩ := h
  exact (hK.block k (Array.getElem?_eq_some_iff.1 hk).1 hX hM).trans hk

set_option maxHeartbeats 1000000 in
theorem fkey_good (h : Idx X M m fs lb w) (stem : ByteArray) (wd n : Int) (add : Bool) (hs : stem.size ≤ 22) (h0 : 0 ≤ wd) (h1 : wd ≤ 255) (hn : n < 18014398509481984) (hne : ¬ (stem = ⟨#[]⟩ ∧ wd = 0)) :
    Calls Try.prog 22 #[.pointer (some ⟨X, 0, none⟩), .string stem, .int .i64 wd, .int .u64 n, .bool add] w fun e w' =>
      ∃ u w1, e = .returned (.agg #[.pointer u, .int .u64 (numOf (.pointer u) n)]) ∧ FamPost X M m fs (w.alloc (.cells #[.pointer none, .int .u64 0] 65)) stem wd add (.pointer u) w1 ∧ (∃ a b, w' = (w1.setCell ⟨w.heap.size, 0, none⟩ a).setCell ⟨w.heap.size, 1, none⟩ b) := by
  have hf : (wd == -1) = false := by simp; omega
  have hXl := h.xlt
  have hMl := h.mlt
  have hI := h.keep (w' := w.alloc (.cells #[.pointer none, .int .u64 0] 65)) fun k hk => Below.heap_alloc w _ k hk
  have H := hideIt (family_ptr hI stem wd add hs h0 h1 hne)
  clear hne
  go_enter Try.func22, Try.ntmps22
  go_wp2_with (go_at_call 24; refine H.out.mono ?_; rintro e w1 ⟨u, rfl, hp⟩; have HP := hideIt hp; have hc := famPost_cells hp (by omega) (by omega) (heap_alloc_new w _); clear hp; have c0 := cell_of_row w1 _ 0 _ _ _ hc; have c1 := cell_of_row w1 _ 1 _ _ _ hc; have f0 := frozen_of_row w1 _ 0 _ _ hc; have f1 := frozen_of_row w1 _ 1 _ _ hc; clear hc; rcases u with _ | a)
  · exact bodyPost_ret (v := .agg #[.pointer none, .int .u64 0]) (by simp [results, Try.results22, go_sem, c0, c1]) rfl ⟨none, w1, rfl, HP.out, _, _, rfl⟩
  · exact bodyPost_ret (v := .agg #[.pointer (some a), .int .u64 n]) (by simp [results, Try.results22, go_sem, c0, c1]) rfl ⟨some a, w1, rfl, HP.out, _, _, rfl⟩

/-- A block of another kind is written. -/
theorem Idx.keepAt {w' : World} (h : Idx X M m fs lb w) {k0 : Nat} {cs : Array Value} (hk0 : w.heap[k0]? = some (.cells cs 65 (0, 0))) (hb : ∀ k, k < w.heap.size → k ≠ k0 → w'.heap[k]? = w.heap[k]?) : Idx X M m fs lb w' := by
  refine ⟨(hb X h.xlt (fun e => ?_)).trans h.hx, ?_, fun j f hf => ?_, h.apart, h.last, h.few⟩
  · rw [← e, h.hx] at hk0
    simp at hk0
  · obtain ⟨es, clk, h1, h2⟩ := h.map
    refine ⟨es, clk, (hb M h.mlt (fun e => ?_)).trans h1, h2⟩
    rw [← e, h1] at hk0
    cases hk0
  · obtain ⟨a, b, c, m', hm⟩ := h.fams j f hf
    refine ⟨a, b, c, m', (hb _ (Array.getElem?_eq_some_iff.1 hm).1 (fun e => ?_)).trans hm⟩
    rw [← e, hm] at hk0
    simp at hk0

theorem famPost_up {stem : ByteArray} {wd : Int} {add : Bool} {p : Value} {w1 : World} {a b : Value} (hXl : X < w.heap.size) (hMl : M < w.heap.size) (h : FamPost X M m fs (w.alloc (.cells #[.pointer none, .int .u64 0] 65)) stem wd add p w1) :
    FamPost X M m fs w stem wd add p ((w1.setCell ⟨w.heap.size, 0, none⟩ a).setCell ⟨w.heap.size, 1, none⟩ b) := by
  have hc := famPost_cells h (by omega) (by omega) (heap_alloc_new w _)
  obtain ⟨fs', lb', hI, hK, hr⟩ := h
  have hoth : ∀ k, k ≠ w.heap.size → ((w1.setCell ⟨w.heap.size, 0, none⟩ a).setCell ⟨w.heap.size, 1, none⟩ b).heap[k]? = w1.heap[k]? := fun k hk => by
    rw [heap_setCell_other _ _ k _ (by exact hk), heap_setCell_other _ _ k _ (by exact hk)]
  have hh : Kept X M w w1 := (Kept.alloc X M w _).trans hK
  refine ⟨fs', lb', hI.keepAt hc fun k _ hk => hoth k hk, ⟨hh.os, hh.tape, hh.output, ?_, fun k hk h1 h2 => ?_⟩, hr⟩
  · have := hh.size
    simpa [World.setCell] using this
  · rw [hoth k (by omega)]
    exact hh.block k hk h1 h2

theorem fkey_ok (h : Idx X M m fs lb w) (stem : ByteArray) (wd n : Int) (add : Bool) (hs : stem.size ≤ 22) (h0 : 0 ≤ wd) (h1 : wd ≤ 255) (hn : n < 18014398509481984) (hne : ¬ (stem = ⟨#[]⟩ ∧ wd = 0)) :
    Calls Try.prog 22 #[.pointer (some ⟨X, 0, none⟩), .string stem, .int .i64 wd, .int .u64 n, .bool add] w fun e w' =>
      ∃ u, e = .returned (.agg #[.pointer u, .int .u64 (numOf (.pointer u) n)]) ∧ FamPost X M m fs w stem wd add (.pointer u) w' := by
  refine (fkey_good h stem wd n add hs h0 h1 hn hne).mono ?_
  rintro e w' ⟨u, w1, rfl, hp, a, b, rfl⟩
  exact ⟨u, rfl, famPost_up h.xlt h.mlt hp⟩

set_option maxHeartbeats 400000 in
theorem zz_bad (p : Value) (stem : ByteArray) (wd n : Int) (add : Bool) (w : World) (hs : stem.size ≤ maxLen) (hbad : argsB stem wd n = false) :
    Calls Try.prog 9 #[p, .string stem, .int .i64 wd, .int .u64 n, .bool add] w fun e w' => e = .returned (.tuple #[.bool false, .string ⟨#[]⟩, .int .i64 0, .int .u64 0, .int .u64 0]) ∧ Below w.heap.size w w' := by
  have H := hideIt (fkey_bad p stem wd n add w hs hbad)
  clear hbad
  go_enter Try.func9, Try.ntmps9
  go_wp2_with (go_at_call 22; refine H.out.mono ?_; rintro e w1 ⟨rfl, rfl⟩)
  go_quiet (fail)
  go_wp2
  exact bodyPost_ret (v := .tuple #[.bool false, .string ⟨#[]⟩, .int .i64 0, .int .u64 0, .int .u64 0]) (by simp [results, Try.results9, go_sem]) rfl ⟨rfl, below_drewN (((Below.refl _ w).alloc (Nat.le_refl _) _).alloc (by simp) _) _⟩

/-- What the shim leaves, and hands back. -/
def ZPost (X M m : Nat) (fs : List Fam) (w : World) (stem : ByteArray) (wd n : Int) (add : Bool) (e : Ending) (w' : World) : Prop :=
  ∃ fs' lb', Idx X M m fs' lb' w' ∧ Kept X M w w' ∧
    ((∃ (j : Nat) (f : Fam), fs'[j]? = some f ∧ f.is stem wd ∧ argsB stem wd n = true ∧ e = .returned (.tuple #[.bool true, .string stem, .int .i64 wd, .int .u64 n, .int .u64 (10000000000000000000 + j * 18014398509481984)]) ∧
        (fs' = fs ∨ (add = true ∧ fs.length < 255 ∧ (∀ g ∈ fs, ¬ g.is stem wd) ∧ fs' = fs ++ [f]))) ∨
     (e = .returned (.tuple #[.bool false, .string ⟨#[]⟩, .int .i64 0, .int .u64 0, .int .u64 0]) ∧ fs' = fs ∧ (argsB stem wd n = false ∨ (argsB stem wd n = true ∧ (∀ g ∈ fs, ¬ g.is stem wd) ∧ (add = false ∨ fs.length = 255)))))

theorem Idx.famAt (h : Idx X M m fs lb w) {j : Nat} {f : Fam} (hf : fs[j]? = some f) : w.cell? ⟨f.blk, 0, none⟩ = some (.string f.stem) ∧ w.cell? ⟨f.blk, 1, none⟩ = some (.int .i64 f.wd) ∧ w.cell? ⟨f.blk, 6, none⟩ = some (.int .u64 (10000000000000000000 + j * 18014398509481984)) := by
  obtain ⟨_, _, _, m', hm⟩ := h.fams j f hf
  exact ⟨cell_of_row w _ 0 _ _ _ hm, cell_of_row w _ 1 _ _ _ hm, cell_of_row w _ 6 _ _ _ hm⟩

theorem zpost_of {w1 w' : World} {stem : ByteArray} {wd n : Int} {add : Bool} {u : Option Addr} {e : Ending} (hp : FamPost X M m fs w stem wd add (.pointer u) w1) (hb : Below w1.heap.size w1 w') (ha : argsB stem wd n = true)
    (hnone : u = none → e = .returned (.tuple #[.bool false, .string ⟨#[]⟩, .int .i64 0, .int .u64 0, .int .u64 0]))
    (hsome : ∀ (a : Addr) (tok : Int), u = some a → w1.cell? ⟨a.block, 6, none⟩ = some (.int .u64 tok) → e = .returned (.tuple #[.bool true, .string stem, .int .i64 wd, .int .u64 n, .int .u64 tok])) :
    ZPost X M m fs w stem wd n add e w' := by
  obtain ⟨fs', lb', hI, hK, hr⟩ := hp
  refine ⟨fs', lb', hI.keep hb.block, hK.trans (Kept.ofBelow hb), ?_⟩
  rcases hr with ⟨j, f, hf, his, hu, hr⟩ | ⟨hu, hfs, hno, hr⟩
  · have hu' : u = some ⟨f.blk, 0, none⟩ := by injection hu
    obtain ⟨c0, c1, c6⟩ := hI.famAt hf
    exact Or.inl ⟨j, f, hf, his, ha, hsome _ _ hu' c6, hr⟩
  · have hu' : u = none := by injection hu
    exact Or.inr ⟨hnone hu', hfs, Or.inr ⟨ha, hno, hr⟩⟩

theorem famPost_at {w1 : World} {stem : ByteArray} {wd : Int} {add : Bool} {a : Addr} (hp : FamPost X M m fs w stem wd add (.pointer (some a)) w1) :
    ∃ b tok, a = ⟨b, 0, none⟩ ∧ w1.cell? ⟨b, 0, none⟩ = some (.string stem) ∧ w1.cell? ⟨b, 1, none⟩ = some (.int .i64 wd) ∧ w1.cell? ⟨b, 6, none⟩ = some (.int .u64 tok) ∧ b < w1.heap.size := by
  obtain ⟨fs', lb', hI, hK, hr⟩ := hp
  rcases hr with ⟨j, f, hf, his, hu, hr⟩ | ⟨hu, _⟩
  · obtain ⟨c0, c1, c6⟩ := hI.famAt hf
    have hu' : a = ⟨f.blk, 0, none⟩ := by injection hu with h1; injection h1
    exact ⟨f.blk, _, hu', by rw [c0, his.1], by rw [c1, his.2], c6, block_lt_of_cell c0⟩
  · injection hu with h1
    cases h1

set_option maxHeartbeats 1000000 in
theorem zz_good (h : Idx X M m fs lb w) (stem : ByteArray) (wd n : Int) (add : Bool) (hs : stem.size ≤ 22) (h0 : 0 ≤ wd) (h1 : wd ≤ 255) (hn : n < 18014398509481984) (hne : ¬ (stem = ⟨#[]⟩ ∧ wd = 0)) (ha : argsB stem wd n = true) :
    Calls Try.prog 9 #[.pointer (some ⟨X, 0, none⟩), .string stem, .int .i64 wd, .int .u64 n, .bool add] w fun e w' => ZPost X M m fs w stem wd n add e w' := by
  have H := hideIt (fkey_ok h stem wd n add hs h0 h1 hn hne)
  have HA := hideIt ha
  clear ha hne
  go_enter Try.func9, Try.ntmps9
  go_wp2_with fail
  refine H.out.mono ?_
  rintro e w1 ⟨u, rfl, hp⟩
  have HP := hideIt hp
  rcases u with _ | a
  · clear hp
    simp only [numOf]
    go_wp2
    go_quiet (fail)
    go_wp2
    exact bodyPost_ret (v := .tuple #[.bool false, .string ⟨#[]⟩, .int .i64 0, .int .u64 0, .int .u64 0]) (by simp [results, Try.results9, go_sem]) rfl
      (zpost_of HP.out (below_drewN ((Below.refl _ w1).alloc (Nat.le_refl _) _) _) HA.out (fun _ => rfl) (fun a _ he => by cases he))
  · obtain ⟨b, tok, rfl, c0, c1, c6, hlt⟩ := famPost_at hp
    clear hp
    simp only [numOf]
    have d0 : ∀ o, (w1.alloc o).cell? ⟨b, 0, none⟩ = some (.string stem) := fun o => (World.cell?_alloc_lt _ _ _ hlt).trans c0
    have d1 : ∀ o, (w1.alloc o).cell? ⟨b, 1, none⟩ = some (.int .i64 wd) := fun o => (World.cell?_alloc_lt _ _ _ hlt).trans c1
    have d6 : ∀ o, (w1.alloc o).cell? ⟨b, 6, none⟩ = some (.int .u64 tok) := fun o => (World.cell?_alloc_lt _ _ _ hlt).trans c6
    go_wp2
    go_quiet (fail)
    go_wp2
    exact bodyPost_ret (v := .tuple #[.bool true, .string stem, .int .i64 wd, .int .u64 n, .int .u64 tok]) (by simp [results, Try.results9, go_sem]) rfl
      (zpost_of HP.out (below_drewN ((Below.refl _ w1).alloc (Nat.le_refl _) _) _) HA.out (fun he => by cases he) (fun a t he hc => by
        injection he with he
        subst he
        rw [c6] at hc
        injection hc with hc
        injection hc with _ hc
        rw [hc]))

theorem args_true {stem : ByteArray} {wd n : Int} (ha : argsB stem wd n = true) : wd ≠ -1 ∧ stem.size ≤ 22 ∧ n < 18014398509481984 := by
  unfold argsB at ha
  simpa using ha

/-- THE SHIM, at every id that the law asks about. -/
theorem zz_any (h : Idx X M m fs lb w) (stem : ByteArray) (wd n : Int) (add : Bool) (hs : stem.size ≤ maxLen) (h0 : -1 ≤ wd) (h1 : wd ≤ 255) (hne : ¬ (stem = ⟨#[]⟩ ∧ wd = 0)) :
    Calls Try.prog 9 #[.pointer (some ⟨X, 0, none⟩), .string stem, .int .i64 wd, .int .u64 n, .bool add] w fun e w' => ZPost X M m fs w stem wd n add e w' := by
  cases ha : argsB stem wd n with
  | false =>
    refine (zz_bad _ stem wd n add w hs ha).mono ?_
    rintro e w' ⟨rfl, hb⟩
    exact ⟨fs, lb, h.keep hb.block, Kept.ofBelow hb, Or.inr ⟨rfl, rfl, Or.inl ha⟩⟩
  | true =>
    obtain ⟨a, b, c⟩ := args_true ha
    exact zz_good h stem wd n add b (by omega) h1 c hne ha

set_option maxHeartbeats 400000 in
theorem newidx_any (w : World) : Calls Try.prog 8 #[] w fun e w' => ∃ X M m, e = .returned (.pointer (some ⟨X, 0, none⟩)) ∧ w.heap.size ≤ X ∧ w.heap.size ≤ M ∧ Idx X M m [] X w' ∧ Below w.heap.size w w' := by
  have hmm := @run_makeMap Try.prog
  go_enter Try.func8, Try.ntmps8
  go_wp2_with (go_at_call 21; refine (newtab_exact _).mono ?_; rintro e w' ⟨rfl, rfl⟩)
  go_ret
  refine ⟨w.heap.size + 1, w.heap.size, w.heap.size + 1 + 1 + 1, rfl, by omega, by omega, ⟨?_, ⟨#[], 0, ?_, rfl⟩, fun j f hf => by simp at hf, fun i j f g hf => by simp at hf, Or.inl rfl, by simp⟩, ?_⟩
  · rw [Below.heap_alloc _ _ _ (by simp), Below.heap_alloc _ _ _ (by simp)]
    exact heap_alloc2_new w _ _
  · rw [Below.heap_alloc _ _ _ (by simp <;> omega), Below.heap_alloc _ _ _ (by simp <;> omega), Below.heap_alloc _ _ _ (by simp)]
    exact (heap_alloc_new _ _)
  · exact ((((Below.refl _ w).alloc (Nat.le_refl _) _).alloc (by simp) _).alloc (by simp <;> omega) _).alloc (by simp <;> omega) _
end Go.Proofs.Qxb6608971a
