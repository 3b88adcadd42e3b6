import Derived.Test.Qxb6608537aDoorStand
namespace Go.Proofs.Qxb6608537aDoor
open Go.RowKit
set_option linter.unusedVariables false

/-- w1 is W behind some draws. -/
def Sm (W w1 : World) : Prop := ∃ k, w1 = W.drewN k
theorem Sm.refl (W : World) : Sm W W := ⟨0, rfl⟩
theorem Sm.drew {W w1 : World} (h : Sm W w1) : Sm W w1.drew := by obtain ⟨k, rfl⟩ := h; exact ⟨k + 1, rfl⟩
theorem Sm.drewN {W w1 : World} (h : Sm W w1) (n : Nat) : Sm W (w1.drewN n) := by obtain ⟨k, rfl⟩ := h; exact ⟨k + n, World.drewN_drewN _ _ _⟩
theorem Sm.cell {W w1 : World} {a : Addr} {v : Option Value} (hc : W.cell? a = v) (h : Sm W w1) : w1.cell? a = v := by obtain ⟨k, rfl⟩ := h; exact hc
theorem Head.fr {w : World} {b X g size n : Nat} {ro : Option Nat} {bs : List Value} {gc : Array Value} {p : Nat} {v : Value} {w' : World} (h : Head w b X g size n ro bs gc p v w') : Fr b X g ro w w' := by
  obtain ⟨_, _, _, h, _⟩ := h
  exact h

set_option maxRecDepth 100000 in
set_option maxHeartbeats 4000000 in
theorem cwrite_any (B K b X g size : Nat) (C : List Value) (pa : Option Addr) (pl pc : Nat) (cs : List Value) (w : World) (hs : Stand B K b X g size C w) (hf : Far B w pa cs) (hcl : cs.length = pl) (h1c : ∀ v ∈ cs, v.oneCell' = true) (hpc : pl ≤ pc) (hpm : pc ≤ maxLen) (hpl : pl ≤ 1048576) (hC : C.length ≤ 10995116277)
    (h5 : w.cell? ⟨5, 15, none⟩ = some (.int .u8 4)) (hB5 : 5 < B) :
    Calls Tryd.prog 12 #[.agg #[.pointer (some ⟨X, 0, none⟩)], .slice pa pl pc] w fun e w' => e = .returned (.tuple #[.int .i64 pl, .nilIface]) ∧ Stand B K b X g size (C ++ enc cs) w' ∧ Below B w w' := by
  by_cases h0 : cs = []
  · subst h0
    obtain rfl : pl = 0 := by simpa using hcl.symm
    have HS : Hid (Stand B K b X g size (C ++ enc []) (w.alloc (.cells #[.pointer (some ⟨X, 0, none⟩)] 33)) ∧ Below B w (w.alloc (.cells #[.pointer (some ⟨X, 0, none⟩)] 33))) := by
      obtain ⟨n, ro, bs, gc, q1, rfl, q2, q3, q4, q5, q6, q7⟩ := hs
      have : Went w b X g size ro (bs ++ gc.toList.take n) (w.alloc (.cells #[.pointer (some ⟨X, 0, none⟩)] 33)) := ⟨n, ro, bs, gc, q1.kept (fun k hk => Below.heap_alloc w _ k hk), rfl, Or.inl rfl, Fr.alloc _ _ _ _ _ _⟩
      rw [show enc [] = [] from rfl, List.append_nil]
      exact this.stand q2 q3 q4 q5 q6 q7
    clear hs hf
    go_enter Tryd.func12, Tryd.ntmps12
    go_wp2
    go_ret2
    exact ⟨rfl, HS.out⟩
  · have hlen : 1 ≤ pl := by rw [← hcl]; exact List.length_pos_iff.2 h0
    obtain ⟨pb, poff, rfl, hpb, hcell⟩ := hf.resolve_left h0
    have henc : enc cs = hexL pl ++ crlfC ++ cs ++ crlfC := by unfold enc; rw [if_neg h0, hcl]
    rw [henc]
    obtain ⟨n, ro, bs, gc, q1, rfl, q2, q3, q4, q5, q6, q7⟩ := hs
    obtain ⟨l1, l2, l3⟩ := q1.lt
    have l4 := q1.roLt
    obtain ⟨W, hW⟩ : ∃ W, W = w.alloc (.cells #[.pointer (some ⟨X, 0, none⟩)] 33) := ⟨_, rfl⟩
    have hWs : W.heap.size = w.heap.size + 1 := by rw [hW]; simp
    have hWk : ∀ k, k < w.heap.size → W.heap[k]? = w.heap[k]? := fun k hk => by rw [hW]; exact Below.heap_alloc w _ k hk
    have hSt := q1.kept hWk
    have hWn : W.heap[w.heap.size]? = some (.cells #[.pointer (some ⟨X, 0, none⟩)] 33 (0, 0)) := by rw [hW]; exact heap_alloc_new w _
    have hbox : ∀ C w', Went W b X g size ro C w' → w'.cell? ⟨w.heap.size, 0, none⟩ = some (.pointer (some ⟨X, 0, none⟩)) := by
      intro C w' h
      rw [Lib.cell_of_heap ((h.block (k := w.heap.size) (by omega) (by omega) (by omega) (by omega) (by intro e; have := l4 _ e.symm; omega)).trans hWn)]; rfl
    have hboxF : ∀ w', Fr b X g ro W w' → w'.cell? ⟨w.heap.size, 0, none⟩ = some (.pointer (some ⟨X, 0, none⟩)) := by
      intro w' h
      rw [Lib.cell_of_heap ((h.2.2.2.2 w.heap.size (by omega) (by omega) (by omega) (by omega) (by intro e; have := l4 _ e.symm; omega)).trans hWn)]; rfl
    have hsrc : Src W b X g ro pb poff cs := ⟨by omega, by omega, by omega, by intro e; have := q5 _ e.symm; omega, fun j v hj => by rw [World.cell?_of_block (w := w) (hWk pb (by omega))]; exact hcell j v hj⟩
    have hc5 : W.cell? ⟨5, 15, none⟩ = some (.int .u8 4) := by rw [World.cell?_of_block (w := w) (hWk 5 (by omega))]; exact h5
    have c0 : W.cell? ⟨w.heap.size, 0, none⟩ = some (.pointer (some ⟨X, 0, none⟩)) := by rw [Lib.cell_of_heap hWn]; rfl
    have hboxK : Box K b X g ro W := ⟨(hWk K (Lib.lt_of_heap q7.1)).trans q7.1, q7.2⟩
    have hend : ∀ w', Went W b X g size ro (bs ++ gc.toList.take n ++ (hexL pl ++ crlfC ++ cs ++ crlfC)) w' → Stand B K b X g size (bs ++ gc.toList.take n ++ (hexL pl ++ crlfC ++ cs ++ crlfC)) w' ∧ Below B w w' := by
      intro w' h
      obtain ⟨e1, e2⟩ := h.stand q2 q3 q4 q5 (by omega) hboxK
      exact ⟨e1, (by rw [hW]; exact (Below.refl B w).alloc q6 _ : Below B w W).trans e2⟩
    have h8 := hexL_len pl (by omega)
    have h9 := hexN_bound 8 pl (by omega)
    have h10 : crlfC.length = 2 := rfl
    have H21 : Hid (∀ w1, Sm W w1 → Calls Tryd.prog 21 #[.pointer (some ⟨X, 0, none⟩)] w1 fun e w' => e = .returned (.slice (some ⟨g, if n = size then 0 else n, none⟩) 0 (size - n)) ∧ Sm W w') := by
      rintro w1 ⟨k, rfl⟩
      refine (availbuf_any b X g size n (W.drewN k) hSt.2.1 hSt.2.2.2.2.2.1 hSt.2.2.2.2.2.2.1).mono ?_
      rintro e w' ⟨rfl, k', rfl⟩
      exact ⟨rfl, k + k', World.drewN_drewN _ _ _⟩
    have H20 : Hid (∀ w1, Sm W w1 → Calls Tryd.prog 20 #[.slice (some ⟨g, if n = size then 0 else n, none⟩) 0 (size - n), .int .i64 pl, .int .i64 16] w1 (RetR (Head W b X g size n ro bs gc pl))) := by
      rintro w1 ⟨k, rfl⟩
      exact appint_any (.slice (some ⟨g, if n = size then 0 else n, none⟩) 0 (size - n)) pl (W.drewN k) (by omega) (by omega) hc5 (by show 5 < W.heap.size; omega) (Head (W.drewN k) b X g size n ro bs gc pl) (apd_any (hSt.drewN k) pl (by omega) (by omega))
    have H19 : Hid (∀ v w1, Head W b X g size n ro bs gc pl v w1 → Calls Tryd.prog 19 #[.pointer (some ⟨X, 0, none⟩), v] w1 fun e w' => e = .returned (.tuple #[.int .i64 (hexN pl), .nilIface]) ∧ Went W b X g size ro (bs ++ gc.toList.take n ++ hexL pl) w') :=
      fun v w1 h => wwrite_head (w := W) (by omega) (by omega) (by omega) h
    have H22 : Hid (∀ C w1, Went W b X g size ro C w1 → C.length ≤ 1099511627776 → _) := fun C w1 h hl => went_crlf h hl
    have H19b : Hid (∀ C w1, Went W b X g size ro C w1 → C.length + pl ≤ 1099511627776 → _) := fun C w1 h hl => went_far h pb poff pl pc cs hsrc (by omega) hcl h1c hlen hpc hpm hl
    generalize (if n = size then 0 else n) = o at H21 H20
    have HBOX := hideIt hbox
    have HBOXF := hideIt hboxF
    have HEND := hideIt hend
    have HL : Hid ((bs ++ gc.toList.take n).length ≤ 10995116277) := hC
    clear hend hboxF hbox hsrc hSt q1 hWn hWk hcell h1c hC hc5 h5
    unfold maxLen at hpm
    go_enter Tryd.func12, Tryd.ntmps12
    go_wp2
    rw [← hW]
    clear hW
    go_region_held3 (fun w' => w'.cell? ⟨w.heap.size, 0, none⟩ = some (.pointer (some ⟨X, 0, none⟩))) (first | exact c0 | assumption | exact HBOX.out _ _ (by assumption) | exact HBOXF.out _ (Head.fr (by assumption)) | exact Sm.cell c0 (by assumption))
      ((first
        | (go_at_call 21; refine (H21.out _ (by first | assumption | exact Sm.refl _ | exact Sm.drew (by assumption) | exact Sm.drew (Sm.refl _) | exact Sm.drewN (by assumption) _ | exact Sm.drewN (Sm.refl _) _)).mono ?_; rintro e w' ⟨rfl, hsm⟩)
        | (go_at_call 20; refine (H20.out _ (by first | assumption | exact Sm.refl _ | exact Sm.drew (by assumption) | exact Sm.drew (Sm.refl _) | exact Sm.drewN (by assumption) _ | exact Sm.drewN (Sm.refl _) _)).mono ?_; rintro e w' ⟨v, rfl, hhd⟩)
        | (go_at_call 19; refine (H19.out _ _ (by assumption)).mono ?_; rintro e w' ⟨rfl, hwt⟩)))
    have HW1 := hideIt hwt
    have hl1 : (bs ++ gc.toList.take n ++ hexL pl).length ≤ 10995116285 := by rw [List.length_append, h8]; have := HL.out; omega
    have HL1 := hideIt hl1
    clear hwt hl1 H21 H20 H19
    go_wp2_with (first
      | (go_at_call 22; refine (H22.out _ _ HW3.out (by have := HL1.out; simp only [List.length_append] at this ⊢; omega)).mono ?_; rintro e w4 ⟨rfl, hwt⟩; have HW4 := hideIt hwt; have b4 := HBOX.out _ _ hwt; clear hwt)
      | (go_at_call 22; refine (H22.out _ _ HW1.out (by have := HL1.out; omega)).mono ?_; rintro e w2 ⟨rfl, hwt⟩; have HW2 := hideIt hwt; have b2 := HBOX.out _ _ hwt; clear hwt)
      | (go_at_call 19; refine (H19b.out _ _ HW2.out (by have := HL1.out; simp only [List.length_append] at this ⊢; omega)).mono ?_; rintro e w3 ⟨rfl, hwt⟩; have HW3 := hideIt hwt; have b3 := HBOX.out _ _ hwt; clear hwt))
    go_ret2
    refine ⟨rfl, HEND.out _ ?_⟩
    have := HW4.out
    simpa only [List.append_assoc] using this
end Go.Proofs.Qxb6608537aDoor
