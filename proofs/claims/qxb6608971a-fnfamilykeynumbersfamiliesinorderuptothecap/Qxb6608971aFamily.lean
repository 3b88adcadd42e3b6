import Derived.Test.Qxb6608971aIdx
namespace Go.Proofs.Qxb6608971a
open Go.RowKit
variable {X M m lb : Nat} {fs : List Fam} {w : World}

/-- A NEW NAME STORED. -/
theorem Idx.store {stem : ByteArray} {wd : Int} (hs : stem.size ≤ 22) (h0 : 0 ≤ wd) (h1 : wd ≤ 255) {es : Array MapEntry} {clk : Nat} (hes : es.toList.map (fun e => (e.key, e.val)) = fs.map (fun f => (nameKey f.stem f.wd, Value.pointer (some ⟨f.blk, 0, none⟩))))
    (h : Idx X M m fs lb w) (hno : ∀ f ∈ fs, ¬ f.is stem wd) (W : World) (v : Value) (hW : W.heap[M]? = some (.map es clk)) :
    (Instr.mapUpdate 43 (.map (some M)) (nameKey stem wd) v).run Try.prog W = .ok () (ChangeMaps.setBlock W M (.map (es.push ⟨nameKey stem wd, v, clk⟩) (clk + 1))) := by
  obtain ⟨k, hk⟩ := nameKey_ok hs h0 h1
  have hat : ∀ (j : Nat) (e : MapEntry), es.toList[j]? = some e → ∃ f : Fam, fs[j]? = some f ∧ e.key = nameKey f.stem f.wd := fun j e he => by
    have h2 := congrArg (fun l => l[j]?) hes
    simp only [List.getElem?_map, he, Option.map_some] at h2
    cases hf : fs[j]? with
    | none => rw [hf] at h2; cases h2
    | some f =>
      rw [hf] at h2
      simp only [Option.map_some, Option.some.injEq, Prod.mk.injEq] at h2
      exact ⟨f, rfl, h2.1⟩
  have hkeys : ∀ e ∈ es.toList, ∃ l, keyOf Try.prog 89 e.key = some l := fun e he => by
    obtain ⟨j, hj⟩ := List.getElem?_of_mem he
    obtain ⟨f, hf, hkey⟩ := hat j e hj
    obtain ⟨a, b, c, _⟩ := h.fams j f hf
    rw [hkey]
    exact nameKey_ok a b c
  rcases law89.find W hk es.toList hkeys with ⟨h2, _⟩ | ⟨i, e', _, h2', h3'⟩
  · simp [Instr.mapUpdate, run_underlying Try.underlying43, MapKept.run_getObj_map hW, law89.check W false hk, h2, MapKept.run_setObj_map _ hW, Result.andThen, ChangeMaps.setBlock]
  · obtain ⟨f, hf, hkey⟩ := hat i e' h2'
    obtain ⟨a, _, _, _⟩ := h.fams i f hf
    exact absurd (nameKey_inj a hs (hkey.symm.trans h3')) (hno f (List.mem_of_getElem? hf))

theorem Idx.added {stem : ByteArray} {wd : Int} (hs : stem.size ≤ 22) (h0 : 0 ≤ wd) (h1 : wd ≤ 255) {es : Array MapEntry} {clk : Nat} (hes : es.toList.map (fun e => (e.key, e.val)) = fs.map (fun f => (nameKey f.stem f.wd, Value.pointer (some ⟨f.blk, 0, none⟩))))
    (h : Idx X M m fs lb w) (hno : ∀ f ∈ fs, ¬ f.is stem wd) (hlen : fs.length < 255) {nb : Nat} {W3 : World} (A : AddsTo w M es clk (nameKey stem wd) stem wd (10000000000000000000 + fs.length * 18014398509481984) nb W3) :
    Idx X M m (fs ++ [⟨stem, wd, nb⟩]) nb (W3.setCell ⟨X, 8, none⟩ (.pointer (some ⟨nb, 0, none⟩))) := by
  have hX3 : W3.heap[X]? = some (.cells (xcells m M lb) 60 (0, 0)) := (A.old X h.xlt h.xm).trans h.hx
  have hoth : ∀ k, k ≠ X → (W3.setCell ⟨X, 8, none⟩ (.pointer (some ⟨nb, 0, none⟩))).heap[k]? = W3.heap[k]? := fun k hk => heap_setCell_other W3 ⟨X, 8, none⟩ k _ hk
  have hab := A.above
  have hxl := h.xlt
  refine ⟨?_, ?_, fun j f hf => ?_, fun i j f g hf hg e1 e2 => ?_, Or.inr ⟨⟨stem, wd, nb⟩, by simp, rfl⟩, by simp; omega⟩
  · rw [heap_setCell_same W3 X 8 _ _ _ hX3, set8]
  · refine ⟨_, _, (hoth M h.xm.symm).trans A.mapped, ?_⟩
    rw [Array.toList_push, List.map_append, hes, List.map_append]
    rfl
  · by_cases hj : j < fs.length
    · rw [List.getElem?_append_left hj] at hf
      obtain ⟨a, b, c, m', hm⟩ := h.fams j f hf
      exact ⟨a, b, c, m', (hoth _ (fam_ne h hf).1).trans ((A.old _ (Array.getElem?_eq_some_iff.1 hm).1 (fam_ne h hf).2).trans hm)⟩
    · rw [List.getElem?_append_right (by omega)] at hf
      have hj0 : j - fs.length = 0 := by
        have := (List.getElem?_eq_some_iff.1 hf).1
        simp at this
        omega
      rw [hj0] at hf
      simp only [List.getElem?_cons_zero, Option.some.injEq] at hf
      subst hf
      obtain ⟨m', hm⟩ := A.fam
      refine ⟨hs, h0, h1, m', (hoth nb (by omega)).trans ?_⟩
      rw [hm]
      have hjl : j = fs.length := by omega
      rw [hjl]
      rfl
  · have hnew : ∀ (k : Nat) (f : Fam), (fs ++ [(⟨stem, wd, nb⟩ : Fam)])[k]? = some f → fs[k]? = some f ∨ (k = fs.length ∧ f = ⟨stem, wd, nb⟩) := fun k f hk => by
      by_cases hj : k < fs.length
      · rw [List.getElem?_append_left hj] at hk
        exact Or.inl hk
      · rw [List.getElem?_append_right (by omega)] at hk
        have hj0 : k - fs.length = 0 := by
          have := (List.getElem?_eq_some_iff.1 hk).1
          simp at this
          omega
        rw [hj0] at hk
        simp only [List.getElem?_cons_zero, Option.some.injEq] at hk
        exact Or.inr ⟨by omega, hk.symm⟩
    rcases hnew i f hf with a | ⟨a, rfl⟩ <;> rcases hnew j g hg with b | ⟨b, rfl⟩
    · exact h.apart i j f g a b e1 e2
    · exact absurd ⟨e1, e2⟩ (hno f (List.mem_of_getElem? a))
    · exact absurd ⟨e1.symm, e2.symm⟩ (hno g (List.mem_of_getElem? b))
    · omega

/-- But for the blocks X and M, nothing that was there has turned. -/
structure Kept (X M : Nat) (w w' : World) : Prop where
  os : w'.os = w.os
  tape : w'.tape = w.tape
  output : w'.output = w.output
  size : w.heap.size ≤ w'.heap.size
  block : ∀ k, k < w.heap.size → k ≠ X → k ≠ M → w'.heap[k]? = w.heap[k]?

theorem Kept.refl (X M : Nat) (w : World) : Kept X M w w := ⟨rfl, rfl, rfl, Nat.le_refl _, fun _ _ _ _ => rfl⟩
theorem Kept.trans {X M : Nat} {a b c : World} (h : Kept X M a b) (k : Kept X M b c) : Kept X M a c :=
  ⟨k.os.trans h.os, k.tape.trans h.tape, k.output.trans h.output, Nat.le_trans h.size k.size, fun i hi h1 h2 => (k.block i (Nat.lt_of_lt_of_le hi h.size) h1 h2).trans (h.block i hi h1 h2)⟩
theorem Kept.ofBelow {X M : Nat} {w w' : World} (h : Below w.heap.size w w') : Kept X M w w' := ⟨h.os, h.tape, h.output, h.size, fun k hk _ _ => h.block k hk⟩
theorem Kept.alloc (X M : Nat) (w : World) (o : Obj) : Kept X M w (w.alloc o) := Kept.ofBelow ((Below.refl _ _).alloc (Nat.le_refl _) o)
theorem Kept.drew {X M : Nat} {a w : World} (h : Kept X M a w) : Kept X M a w.drew := ⟨h.os, h.tape, h.output, h.size, h.block⟩
theorem Kept.below {X M B : Nat} {w w' : World} (h : Kept X M w w') (hB : B ≤ w.heap.size) (h1 : B ≤ X) (h2 : B ≤ M) : Below B w w' := ⟨h.os, h.tape, h.output, h.size, fun k hk => h.block k (by omega) (by omega) (by omega)⟩

/-- What 'family' leaves. -/
def FamPost (X M m : Nat) (fs : List Fam) (w : World) (stem : ByteArray) (wd : Int) (add : Bool) (p : Value) (w' : World) : Prop :=
  ∃ fs' lb', Idx X M m fs' lb' w' ∧ Kept X M w w' ∧
    ((∃ (j : Nat) (f : Fam), fs'[j]? = some f ∧ f.is stem wd ∧ p = .pointer (some ⟨f.blk, 0, none⟩) ∧ (fs' = fs ∨ (add = true ∧ fs.length < 255 ∧ (∀ g ∈ fs, ¬ g.is stem wd) ∧ fs' = fs ++ [f]))) ∨
     (p = .pointer none ∧ fs' = fs ∧ (∀ g ∈ fs, ¬ g.is stem wd) ∧ (add = false ∨ fs.length = 255)))

theorem heap_setalloc (w : World) (a : Addr) (v : Value) (o : Obj) (k : Nat) (hk : k < w.heap.size) : ((w.setCell a v).alloc o).drew.heap[k]? = (w.setCell a v).heap[k]? :=
  Below.heap_alloc (w.setCell a v) o k (by simpa [World.setCell] using hk)

set_option maxHeartbeats 1000000 in
theorem family_any (h : Idx X M m fs lb w) (stem : ByteArray) (wd : Int) (add : Bool) (hs : stem.size ≤ 22) (h0 : 0 ≤ wd) (h1 : wd ≤ 255) (hne : ¬ (stem = ⟨#[]⟩ ∧ wd = 0)) :
    Calls Try.prog 24 #[.pointer (some ⟨X, 0, none⟩), .string stem, .int .i64 wd, .bool add] w fun e w' => ∃ p, e = .returned p ∧ FamPost X M m fs w stem wd add p w' := by
  obtain ⟨ls, lw, hl0, hl1, hlast⟩ := h.lastIs
  by_cases hsame : ls = stem ∧ lw = wd
  · obtain ⟨rfl, rfl⟩ := hsame
    rcases hlast with hl | ⟨j, f, hf, rfl, e1, e2⟩
    · exact absurd hl hne
    · refine (fam_same X _ ls lw add w (h.cellx 8) hl0 hl1).mono ?_
      rintro e w' ⟨rfl, rfl⟩
      exact ⟨_, rfl, fs, _, h, Kept.refl _ _ _, Or.inl ⟨j, f, hf, ⟨e1.symm, e2.symm⟩, rfl, Or.inl rfl⟩⟩
  · have hoff : (ls.toList == stem.toList) = false ∨ ((ls.toList == stem.toList) = true ∧ (lw == wd) = false) := by
      by_cases e : ls = stem
      · exact Or.inr ⟨beq_of_eq e, by simpa using fun e2 => hsame ⟨e, e2⟩⟩
      · exact Or.inl (beq_of_ne e)
    obtain ⟨y0, y1, y2, y3, y4, y5, y6, y7, y8, y9, y10, y11, y12, y13, y14, y15, y16, y17, y18, y19, y20, y21, hy, hcp⟩ := copy_name w stem hs
    have hkey : nameKey stem wd = .agg #[y0, y1, y2, y3, y4, y5, y6, y7, y8, y9, y10, y11, y12, y13, y14, y15, y16, y17, y18, y19, y20, y21, .int .u8 wd, .int .u8 stem.size] := by unfold nameKey; rw [hy]
    have hMl := h.mlt
    have hXl := h.xlt
    have hMa : ∀ o, (w.alloc o).drew.heap[M]? = w.heap[M]? := fun o => Below.heap_alloc w o M hMl
    obtain ⟨es, clk, hM, hes⟩ := h.map
    rcases h.find hs h0 h1 with ⟨hlk, hno⟩ | ⟨j, f, hf, his, hlk⟩
    · have hlk' := fun o => hlk _ (hMa o)
      rw [hkey] at hlk'
      cases add with
      | false =>
        have post : ∀ (e : Ending) (w' : World), (e = .returned (.pointer none) ∧ ∃ o, w' = (w.alloc o).drew) → ∃ p, e = .returned p ∧ FamPost X M m fs w stem wd false p w' := by
          rintro e w' ⟨rfl, o, rfl⟩
          exact ⟨_, rfl, fs, lb, h.keep fun k hk => Below.heap_alloc w o k hk, (Kept.alloc X M w o).drew, Or.inr ⟨rfl, rfl, hno, Or.inl rfl⟩⟩
        rcases hoff with a | ⟨a, b⟩
        · exact (fam_skip X lb M stem ls wd lw w hXl (h.cellx 8) (h.frozenx 8) (h.cellx 7) hl0 hl1 a hs h0 h1 y0 y1 y2 y3 y4 y5 y6 y7 y8 y9 y10 y11 y12 y13 y14 y15 y16 y17 y18 y19 y20 y21 hcp hlk').mono post
        · exact (fam_skip_b X lb M stem ls wd lw w hXl (h.cellx 8) (h.frozenx 8) (h.cellx 7) hl0 hl1 a b hs h0 h1 y0 y1 y2 y3 y4 y5 y6 y7 y8 y9 y10 y11 y12 y13 y14 y15 y16 y17 y18 y19 y20 y21 hcp hlk').mono post
      | true =>
        have hlen : es.size = fs.length := by have := congrArg List.length hes; simpa using this
        by_cases h255 : fs.length = 255
        · have post : ∀ (e : Ending) (w' : World), (e = .returned (.pointer none) ∧ ∃ o, w' = (w.alloc o).drew) → ∃ p, e = .returned p ∧ FamPost X M m fs w stem wd true p w' := by
            rintro e w' ⟨rfl, o, rfl⟩
            exact ⟨_, rfl, fs, lb, h.keep fun k hk => Below.heap_alloc w o k hk, (Kept.alloc X M w o).drew, Or.inr ⟨rfl, rfl, hno, Or.inr h255⟩⟩
          rcases hoff with a | ⟨a, b⟩
          · exact (fam_full X lb M es clk stem ls wd lw w hXl (h.cellx 8) (h.frozenx 8) (h.cellx 7) hl0 hl1 a hs h0 h1 y0 y1 y2 y3 y4 y5 y6 y7 y8 y9 y10 y11 y12 y13 y14 y15 y16 y17 y18 y19 y20 y21 hcp hM (hlen.trans h255) hlk').mono post
          · exact (fam_full_b X lb M es clk stem ls wd lw w hXl (h.cellx 8) (h.frozenx 8) (h.cellx 7) hl0 hl1 a b hs h0 h1 y0 y1 y2 y3 y4 y5 y6 y7 y8 y9 y10 y11 y12 y13 y14 y15 y16 y17 y18 y19 y20 y21 hcp hM (hlen.trans h255) hlk').mono post
        · have hlt : fs.length < 255 := by have := h.few; omega
          have hmu := fun W v hW => h.store (clk := clk) hs h0 h1 hes hno W v hW
          rw [hkey] at hmu
          have post : ∀ (e : Ending) (w' : World), (∃ nb W3, e = .returned (.pointer (some ⟨nb, 0, none⟩)) ∧ w' = W3.setCell ⟨X, 8, none⟩ (.pointer (some ⟨nb, 0, none⟩)) ∧ AddsTo w M es clk (.agg #[y0, y1, y2, y3, y4, y5, y6, y7, y8, y9, y10, y11, y12, y13, y14, y15, y16, y17, y18, y19, y20, y21, .int .u8 wd, .int .u8 stem.size]) stem wd (10000000000000000000 + fs.length * 18014398509481984) nb W3) → ∃ p, e = .returned p ∧ FamPost X M m fs w stem wd true p w' := by
            rintro e w' ⟨nb, W3, rfl, rfl, A⟩
            rw [← hkey] at A
            have hab := A.above
            have hin := A.within
            refine ⟨_, rfl, fs ++ [⟨stem, wd, nb⟩], nb, h.added hs h0 h1 hes hno hlt A, ?_, Or.inl ⟨fs.length, ⟨stem, wd, nb⟩, by simp, ⟨rfl, rfl⟩, rfl, Or.inr ⟨rfl, hlt, hno, rfl⟩⟩⟩
            refine ⟨A.os, A.tape, A.output, by simp [World.setCell]; omega, fun k hk hkX hkM => ?_⟩
            rw [heap_setCell_other W3 _ k _ (by exact hkX)]
            exact A.old k hk hkM
          rcases hoff with a | ⟨a, b⟩
          · exact (fam_add X lb M es clk stem ls wd lw w hXl (h.cellx 8) (h.frozenx 8) (h.cellx 7) hl0 hl1 a hs h0 h1 y0 y1 y2 y3 y4 y5 y6 y7 y8 y9 y10 y11 y12 y13 y14 y15 y16 y17 y18 y19 y20 y21 hcp hM fs.length hlen hlt (h.cellx 8) h.xm hmu hlk').mono post
          · exact (fam_add_b X lb M es clk stem ls wd lw w hXl (h.cellx 8) (h.frozenx 8) (h.cellx 7) hl0 hl1 a b hs h0 h1 y0 y1 y2 y3 y4 y5 y6 y7 y8 y9 y10 y11 y12 y13 y14 y15 y16 y17 y18 y19 y20 y21 hcp hM fs.length hlen hlt (h.cellx 8) h.xm hmu hlk').mono post
    · have hlk' := fun o => hlk _ (hMa o)
      rw [hkey] at hlk'
      have post : ∀ (e : Ending) (w' : World), (e = .returned (.pointer (some ⟨f.blk, 0, none⟩)) ∧ ∃ o, w' = ((w.setCell ⟨X, 8, none⟩ (.pointer (some ⟨f.blk, 0, none⟩))).alloc o).drew) → ∃ p, e = .returned p ∧ FamPost X M m fs w stem wd add p w' := by
        rintro e w' ⟨rfl, o, rfl⟩
        refine ⟨_, rfl, fs, f.blk, h.turn f (List.mem_of_getElem? hf) (heap_setalloc w _ _ o X hXl) fun k hk hkX => ?_, ?_, Or.inl ⟨j, f, hf, his, rfl, Or.inl rfl⟩⟩
        · rw [heap_setalloc w _ _ o k hk]
          exact heap_setCell_other w _ k _ (by exact hkX)
        · refine ⟨rfl, rfl, rfl, by simp [World.setCell], fun k hk hkX hkM => ?_⟩
          rw [heap_setalloc w _ _ o k hk]
          exact heap_setCell_other w _ k _ (by exact hkX)
      rcases hoff with a | ⟨a, b⟩
      · exact (fam_found X lb M f.blk stem ls wd lw add w hXl (h.cellx 8) (h.frozenx 8) (h.cellx 7) hl0 hl1 a hs h0 h1 y0 y1 y2 y3 y4 y5 y6 y7 y8 y9 y10 y11 y12 y13 y14 y15 y16 y17 y18 y19 y20 y21 hcp hlk').mono post
      · exact (fam_found_b X lb M f.blk stem ls wd lw add w hXl (h.cellx 8) (h.frozenx 8) (h.cellx 7) hl0 hl1 a b hs h0 h1 y0 y1 y2 y3 y4 y5 y6 y7 y8 y9 y10 y11 y12 y13 y14 y15 y16 y17 y18 y19 y20 y21 hcp hlk').mono post

end Go.Proofs.Qxb6608971a
