import Derived.Test.Qxb6608971aName
namespace Go.Proofs.Qxb6608971a
open Go.RowKit
set_option maxHeartbeats 400000 in
theorem newtab_exact (w : World)  :
    Calls Try.prog 21 #[] w fun e w' => e = .returned (.agg #[.slice none 0 0, .int .u64 0, .map (some (w.heap.size + 1)), .int .i64 0]) ∧
      w' = (w.alloc (.cells #[.slice none 0 0, .int .u64 0, .map (some (w.heap.size + 1)), .int .i64 0] 47)).alloc (.map #[] 0) := by
  have hmm := @run_makeMap Try.prog
  go_enter Try.func21, Try.ntmps21
  go_wp2
  exact bodyPost_ret (v := .agg #[.slice none 0 0, .int .u64 0, .map (some (w.heap.size + 1)), .int .i64 0]) (by simp [results, Try.results21, go_sem]) rfl ⟨rfl, rfl⟩

/-- The index's own cells. -/
def xcells (m M lb : Nat) : Array Value := #[.string ⟨#[]⟩, .int .i64 0, .slice none 0 0, .int .u64 0, .map (some m), .int .i64 0, .int .u64 0, .map (some M), .pointer (some ⟨lb, 0, none⟩), .slice none 0 0, .int .u64 0, .int .i64 0, .slice none 0 0, .int .u64 0]

structure Fam where
  stem : ByteArray
  wd : Int
  blk : Nat

def famCells (f : Fam) (m : Nat) (j : Nat) : Array Value := #[.string f.stem, .int .i64 f.wd, .slice none 0 0, .int .u64 0, .map (some m), .int .i64 0, .int .u64 (10000000000000000000 + j * 18014398509481984)]

def Fam.is (f : Fam) (stem : ByteArray) (wd : Int) : Prop := f.stem = stem ∧ f.wd = wd

/-- THE INDEX LIES IN BLOCK X, ITS MAP IN BLOCK M; IT HOLDS THE FAMILIES fs, IN THEIR ORDER; the last one found lies in block lb. -/
structure Idx (X M m : Nat) (fs : List Fam) (lb : Nat) (w : World) : Prop where
  hx : w.heap[X]? = some (.cells (xcells m M lb) 60 (0, 0))
  map : ∃ es clk, w.heap[M]? = some (.map es clk) ∧ es.toList.map (fun e => (e.key, e.val)) = fs.map (fun f => (nameKey f.stem f.wd, Value.pointer (some ⟨f.blk, 0, none⟩)))
  fams : ∀ (j : Nat) (f : Fam), fs[j]? = some f → f.stem.size ≤ 22 ∧ 0 ≤ f.wd ∧ f.wd ≤ 255 ∧ ∃ m', w.heap[f.blk]? = some (.cells (famCells f m' j) 50 (0, 0))
  apart : ∀ (i j : Nat) (f g : Fam), fs[i]? = some f → fs[j]? = some g → f.stem = g.stem → f.wd = g.wd → i = j
  last : lb = X ∨ ∃ f ∈ fs, lb = f.blk
  few : fs.length ≤ 255

variable {X M m lb : Nat} {fs : List Fam} {w : World}

theorem Idx.xlt (h : Idx X M m fs lb w) : X < w.heap.size := (Array.getElem?_eq_some_iff.1 h.hx).1
theorem Idx.mlt (h : Idx X M m fs lb w) : M < w.heap.size := by
  obtain ⟨es, clk, h1, _⟩ := h.map
  exact (Array.getElem?_eq_some_iff.1 h1).1
theorem Idx.xm (h : Idx X M m fs lb w) : X ≠ M := by
  intro e
  obtain ⟨es, clk, h1, _⟩ := h.map
  rw [← e, h.hx] at h1
  cases h1

theorem Idx.cellx (h : Idx X M m fs lb w) (j : Nat) : w.cell? ⟨X, j, none⟩ = (xcells m M lb)[j]? := cell_of_row w X j _ _ _ h.hx
theorem Idx.frozenx (h : Idx X M m fs lb w) (j : Nat) : w.frozen? ⟨X, j, none⟩ = false := frozen_of_row w X j _ _ h.hx

/-- Where no block of the index has turned. -/
theorem Idx.keep {w' : World} (h : Idx X M m fs lb w) (hb : ∀ k, k < w.heap.size → w'.heap[k]? = w.heap[k]?) : Idx X M m fs lb w' := by
  refine ⟨(hb X h.xlt).trans h.hx, ?_, fun j f hf => ?_, h.apart, h.last, h.few⟩
  · obtain ⟨es, clk, h1, h2⟩ := h.map
    exact ⟨es, clk, (hb M h.mlt).trans h1, h2⟩
  · obtain ⟨a, b, c, m', hm⟩ := h.fams j f hf
    exact ⟨a, b, c, m', (hb _ (Array.getElem?_eq_some_iff.1 hm).1).trans hm⟩

theorem set8 (m M lb fb : Nat) : (xcells m M lb).setIfInBounds 8 (.pointer (some ⟨fb, 0, none⟩)) = xcells m M fb := rfl

theorem fam_ne {w : World} {X M m lb : Nat} {fs : List Fam} (h : Idx X M m fs lb w) {f : Fam} {j : Nat} (hf : fs[j]? = some f) : f.blk ≠ X ∧ f.blk ≠ M := by
  obtain ⟨_, _, _, m', hm⟩ := h.fams j f hf
  constructor
  · intro e
    rw [e, h.hx] at hm
    simp at hm
  · intro e
    obtain ⟨es, clk, h1, _⟩ := h.map
    rw [e, h1] at hm
    cases hm

/-- x.last has turned to one of the families. -/
theorem Idx.turn {w' : World} (h : Idx X M m fs lb w) (f : Fam) (hf : f ∈ fs) (hX : w'.heap[X]? = (w.setCell ⟨X, 8, none⟩ (.pointer (some ⟨f.blk, 0, none⟩))).heap[X]?) (hb : ∀ k, k < w.heap.size → k ≠ X → w'.heap[k]? = w.heap[k]?) : Idx X M m fs f.blk w' := by
  refine ⟨?_, ?_, fun j g hg => ?_, h.apart, Or.inr ⟨f, hf, rfl⟩, h.few⟩
  · rw [hX, heap_setCell_same w X 8 _ _ _ h.hx, set8]
  · obtain ⟨es, clk, h1, h2⟩ := h.map
    exact ⟨es, clk, (hb M h.mlt h.xm.symm).trans h1, h2⟩
  · obtain ⟨a, b, c, m', hm⟩ := h.fams j g hg
    exact ⟨a, b, c, m', (hb _ (Array.getElem?_eq_some_iff.1 hm).1 (fam_ne h hg).1).trans hm⟩

/-- The last one found. -/
theorem Idx.lastIs (h : Idx X M m fs lb w) : ∃ ls lw, w.cell? ⟨lb, 0, none⟩ = some (.string ls) ∧ w.cell? ⟨lb, 1, none⟩ = some (.int .i64 lw) ∧ ((ls = ⟨#[]⟩ ∧ lw = 0) ∨ ∃ (j : Nat) (f : Fam), fs[j]? = some f ∧ lb = f.blk ∧ ls = f.stem ∧ lw = f.wd) := by
  rcases h.last with e | ⟨f, hf, e⟩
  · subst e
    exact ⟨_, _, h.cellx 0, h.cellx 1, Or.inl ⟨rfl, rfl⟩⟩
  · obtain ⟨j, hj⟩ := List.getElem?_of_mem hf
    obtain ⟨_, _, _, m', hm⟩ := h.fams j f hj
    subst e
    exact ⟨_, _, cell_of_row w _ 0 _ _ _ hm, cell_of_row w _ 1 _ _ _ hm, Or.inr ⟨j, f, hj, rfl, rfl, rfl⟩⟩

/-- THE MAP ASKED FOR A NAME. -/
theorem Idx.find (h : Idx X M m fs lb w) {stem : ByteArray} {wd : Int} (hs : stem.size ≤ 22) (h0 : 0 ≤ wd) (h1 : wd ≤ 255) :
    ((∀ W : World, W.heap[M]? = w.heap[M]? → (Instr.lookup 43 (.map (some M)) (nameKey stem wd) false).run Try.prog W = .ok (.pointer none) W) ∧ (∀ f ∈ fs, ¬ f.is stem wd)) ∨
    ∃ (j : Nat) (f : Fam), fs[j]? = some f ∧ f.is stem wd ∧ ∀ W : World, W.heap[M]? = w.heap[M]? → (Instr.lookup 43 (.map (some M)) (nameKey stem wd) false).run Try.prog W = .ok (.pointer (some ⟨f.blk, 0, none⟩)) W := by
  obtain ⟨k, hk⟩ := nameKey_ok hs h0 h1
  obtain ⟨es, clk, hM, hes⟩ := h.map
  have hlen : es.toList.length = fs.length := by have := congrArg List.length hes; simpa using this
  have hat : ∀ (j : Nat) (e : MapEntry), es.toList[j]? = some e → ∃ f : Fam, fs[j]? = some f ∧ e.key = nameKey f.stem f.wd ∧ e.val = .pointer (some ⟨f.blk, 0, none⟩) := fun j e he => by
    have h2 := congrArg (fun l => l[j]?) hes
    simp only [List.getElem?_map, he, Option.map_some] at h2
    cases hf : fs[j]? with
    | none => rw [hf] at h2; cases h2
    | some f =>
      rw [hf] at h2
      simp only [Option.map_some, Option.some.injEq, Prod.mk.injEq] at h2
      exact ⟨f, rfl, h2.1, h2.2⟩
  have hkeys : ∀ e ∈ es.toList, ∃ l, keyOf Try.prog 89 e.key = some l := fun e he => by
    obtain ⟨j, hj⟩ := List.getElem?_of_mem he
    obtain ⟨f, hf, hkey, _⟩ := hat j e hj
    obtain ⟨a, b, c, _⟩ := h.fams j f hf
    rw [hkey]
    exact nameKey_ok a b c
  -- the search does not hang on the world
  have hfind := fun W => law89.find W hk es.toList hkeys
  by_cases hex : ∃ e ∈ es.toList, e.key = nameKey stem wd
  · obtain ⟨e, he, hek⟩ := hex
    obtain ⟨j, hj⟩ := List.getElem?_of_mem he
    obtain ⟨f, hf, hkey, hval⟩ := hat j e hj
    obtain ⟨a, b, c, _⟩ := h.fams j f hf
    have his : f.is stem wd := nameKey_inj a hs (hkey.symm.trans hek)
    refine Or.inr ⟨j, f, hf, his, fun W hW => ?_⟩
    rcases hfind W with ⟨_, h2⟩ | ⟨i, e', h1', h2', h3'⟩
    · exact absurd hek (h2 e he)
    · -- one key, one entry: the value found is a family of the same name
      obtain ⟨g, hg, hgk, hgv⟩ := hat i e' h2'
      obtain ⟨a', b', c', _⟩ := h.fams i g hg
      have hgis : g.is stem wd := nameKey_inj a' hs (hgk.symm.trans h3')
      have hij : i = j := h.apart i j g f hg hf (hgis.1.trans his.1.symm) (hgis.2.trans his.2.symm)
      subst hij
      obtain rfl : g = f := Option.some.inj (hg.symm.trans hf)
      have hWM := hW.trans hM
      simp [Instr.lookup, run_underlying Try.underlying43, MapKept.run_getObj_map hWM, law89.check W _ hk, h1', hgv, Result.andThen]
  · refine Or.inl ⟨fun W hW => ?_, fun f hf his => ?_⟩
    · rcases hfind W with ⟨h2, _⟩ | ⟨i, e', h1', h2', h3'⟩
      · have hWM := hW.trans hM
        simp [Instr.lookup, run_underlying Try.underlying43, MapKept.run_getObj_map hWM, law89.check W _ hk, h2, Result.andThen]
      · exact absurd ⟨e', List.mem_of_getElem? h2', h3'⟩ hex
    · obtain ⟨j, hj⟩ := List.getElem?_of_mem hf
      have h2 := congrArg (fun l => l[j]?) hes
      simp only [List.getElem?_map, hj, Option.map_some] at h2
      cases he : es.toList[j]? with
      | none => rw [he] at h2; cases h2
      | some e =>
        rw [he] at h2
        simp only [Option.map_some, Option.some.injEq, Prod.mk.injEq] at h2
        refine hex ⟨e, List.mem_of_getElem? he, ?_⟩
        rw [h2.1, his.1, his.2]
end Go.Proofs.Qxb6608971a
