import Derived.Test.Qxb6609105aChange
namespace Go.Proofs.Qxb6609105a
open Go.RowKit

theorem isMsg_new (t q n : Int) (mn ma : ByteArray) (tk : Bool) (av : ByteArray) : IsMsg (msgCells t q n mn ma tk av) t q n mn ma tk av :=
  ⟨rfl, msg_one _ _ _ _ _ _ _, rfl, rfl, rfl, rfl, rfl, rfl, rfl⟩

/-- What becomes of a message's fields, by its kind. -/
def ChIs (t : Int) (fr mn ma : ByteArray) (tk : Bool) (av : ByteArray) (k : Int) (nm ad : ByteArray) (tk' : Bool) (av' : ByteArray) : Prop :=
  ((t == 10) = true ∧ k = 0 ∧ nm = mn ∧ ad = ma ∧ tk' = tk ∧ av' = ⟨#[]⟩) ∨ ((t == 10) = false ∧ (t == 11) = true ∧ k = 1 ∧ nm = mn ∧ ad = ma ∧ tk' = false ∧ av' = ⟨#[]⟩) ∨
  ((t == 10) = false ∧ (t == 11) = false ∧ k = 2 ∧ nm = fr ∧ ad = ⟨#[]⟩ ∧ tk' = false ∧ av' = av)

theorem chof_is {MC : Array Value} {fr : ByteArray} {t q n : Int} {mn ma : ByteArray} {tk : Bool} {av : ByteArray} {k : Int} {nm ad : ByteArray} {tk' : Bool} {av' : ByteArray} (h : IsMsg MC t q n mn ma tk av) (c : ChIs t fr mn ma tk av k nm ad tk' av') (w : World) :
    Calls Try.prog 27 #[.string fr, .agg MC] w fun e w' => e = .returned (.agg #[.int .u64 q, .string fr, .int .u64 n, .int .i64 k, .string nm, .string ad, .bool tk', .string av']) ∧ Below w.heap.size w w' := by
  refine zzch_any MC fr q fr n k nm ad tk' av' h.size (fun w => ?_) w
  rcases c with ⟨a, rfl, rfl, rfl, rfl, rfl⟩ | ⟨a, b, rfl, rfl, rfl, rfl, rfl⟩ | ⟨a, b, rfl, rfl, rfl, rfl, rfl⟩
  · exact chof_add MC fr t q n _ _ _ av w h a
  · exact chof_rem MC fr t q n _ _ tk av w h a b
  · exact chof_state MC _ t q n mn ma tk _ w h a b

theorem wpList_store_new' {P : Program} {ops : Array Oper} {rest : List Oper} {o : Oper} {a : Act} {w : World} {Q : Exit → Act → World → Prop} (hgd : o.guard = none) (ty : TypeId) (x y : Operand) (ho : o.op = .store ty x y)
    (cells old : Array Value) (g : Nat) (hx : a.eval x = .pointer (some ⟨g, 0, none⟩)) (hy : a.eval y = .agg cells) (hg : g = w.heap.size) (hi : (P.info? ty).map (·.size) = some cells.size)
    (hold : old.size = cells.size) (h1 : cells.all (·.oneCell') = true)
    (h : wpList P ops Q rest (a.put o.dst undef) (w.alloc (.cells cells ty))) : wpList P ops Q (o :: rest) a (w.alloc (.cells old ty)) := by
  subst hg
  exact wpList_store_new hgd ty x y ho cells old hx hy hi hold h1 h

set_option maxRecDepth 100000 in
set_option maxHeartbeats 4000000 in
theorem asker_walk (a0 a1 : ByteArray) (a2 a3 a4 : Int) (a5 a6 : ByteArray) (a7 : Bool) (a8 : ByteArray) (w : World) (w0 : a0.size ≤ maxLen) (w1 : a1.size ≤ maxLen) (w5 : a5.size ≤ maxLen) (w6 : a6.size ≤ maxLen) (w8 : a8.size ≤ maxLen)
    (k : Int) (nm1 nm2 ad : ByteArray) (tk : Bool) (av : ByteArray) (c1 : ChIs a2 a0 a5 a6 a7 a8 k nm1 ad tk av) (c2 : ChIs a2 a1 a5 a6 a7 a8 k nm2 ad tk av)
    (hc : ((a2 == 10) = true ∧ k = 0 ∧ nm1 = a5 ∧ nm2 = a5) ∨ ((a2 == 10) = false ∧ (a2 == 11) = true ∧ k = 1 ∧ nm1 = a5 ∧ nm2 = a5) ∨ ((a2 == 10) = false ∧ (a2 == 11) = false ∧ k = 2 ∧ nm1 = a0 ∧ nm2 = a1)) :
    Calls Try.prog 7 #[.string a0, .string a1, .int .u8 a2, .int .u64 a3, .int .u64 a4, .string a5, .string a6, .bool a7, .string a8] w fun e w' => e = .returned (.bool true) ∧ Below w.heap.size w w' := by
  have HB := hideIt (bytes9_any a0 a1 (.int .u8 a2) (.int .u64 a3) (.int .u64 a4) a5 a6 (.bool a7) a8 w w0 w1 w5 w6 w8)
  have H1 := hideIt (chof_is (isMsg_new a2 a3 a4 a5 a6 a7 a8) c1)
  have H2 := hideIt (chof_is (isMsg_new a2 a3 a4 a5 a6 a7 a8) c2)
  have HC := hideIt hc
  clear hc c1 c2
  unfold maxLen at w0 w1 w5 w6 w8
  go_enter Try.func7, Try.ntmps7
  go_wp2_with (go_at_call 30; refine HB.out.mono ?_; rintro e w' ⟨⟨r, rfl⟩, hw⟩; obtain rfl := hw.symm; clear hw)
  · go_ret
    exact ⟨rfl, Below.refl _ _⟩
  · go_ret
    exact ⟨rfl, Below.refl _ _⟩
  · clear HB
    have hms := msg_size a2 a3 a4 a5 a6 a7 a8
    have hmo := msg_one a2 a3 a4 a5 a6 a7 a8
    refine (newmsg_any _ _ _ _ _ _ _ _).mono ?_
    rintro e w1 ⟨rfl, rfl⟩
    generalize hMC : msgCells a2 a3 a4 a5 a6 a7 a8 = MC at hms hmo H1 H2 ⊢
    clear hMC
    have HZ : Hid ((Try.prog.info? 82).map (·.size) = some MC.size) := by rw [hms]; exact Try.size82
    have HS := hideIt hms
    have HO := hideIt hmo
    clear hms hmo
    go_wp2_with (first
      | (refine wpList_store_new' rfl 82 _ _ rfl MC _ (w.heap.size + 1) rfl rfl (by simp) HZ.out (by rw [HS.out]; rfl) HO.out ?_)
      | (refine wpList_load_row rfl 82 _ rfl (w.heap.size + 1) rfl 82 MC (0, 0) _ (heap_alloc2_new w _ _) Try.underlying82 rfl HZ.out ?_))
    refine (H1.out _).mono ?_
    rintro e w2 ⟨rfl, hb2⟩
    have hm2 : w2.heap[w.heap.size + 1]? = some (.cells MC 82 (0, 0)) := (hb2.block _ (by simp)).trans (heap_alloc2_new w _ _)
    have hz2 : w.heap.size + 2 ≤ w2.heap.size := by have := hb2.size; simp at this; omega
    have HB2 : Hid (Below w.heap.size w w2) := (((Below.refl _ w).alloc (Nat.le_refl _) _).alloc (by simp) _).trans (hb2.mono (by simp <;> omega))
    have HM2 : Hid (∀ o, (w2.alloc o).heap[w.heap.size + 1]? = some (.cells MC 82 (0, 0))) := fun o => (Below.heap_alloc w2 o _ (by omega)).trans hm2
    clear hb2 hm2 H1
    go_wp2_with (refine wpList_load_row rfl 82 _ rfl (w.heap.size + 1) rfl 82 MC (0, 0) _ (HM2.out _) Try.underlying82 rfl HZ.out ?_)
    refine (H2.out _).mono ?_
    rintro e w3 ⟨rfl, hb3⟩
    have hc1 := (hb3.block w2.heap.size (by simp)).trans (heap_alloc_new w2 _)
    have hz3 : w2.heap.size + 1 ≤ w3.heap.size := by have := hb3.size; simpa using this
    have HB3 : Hid (Below w.heap.size w w3) := (HB2.out.alloc (by omega) _).trans (hb3.mono (by simp; omega))
    have HC1 := hideIt (fun o => (Below.heap_alloc w3 o _ (by omega)).trans hc1)
    clear hb3 hc1 H2 HM2 HB2
    go_wp2_with (refine wpList_load_row rfl 66 _ rfl w2.heap.size rfl 66 _ (0, 0) _ (HC1.out _) Try.underlying66 rfl Try.size66 ?_)
    refine (chfields_any _ _ _ _ _ _ _ _ _).mono ?_
    rintro e w4 ⟨rfl, hb4⟩
    have hc2 := (hb4.block w3.heap.size (by simp)).trans (heap_alloc_new w3 _)
    have hz4 : w3.heap.size + 1 ≤ w4.heap.size := by have := hb4.size; simpa using this
    have HB4 : Hid (Below w.heap.size w w4) := (HB3.out.alloc (by omega) _).trans (hb4.mono (by simp; omega))
    have HC2 := hideIt hc2
    clear hb4 hc2 HC1 HB3
    go_wp2_with (refine wpList_load_row rfl 66 _ rfl w3.heap.size rfl 66 _ (0, 0) _ HC2.out Try.underlying66 rfl Try.size66 ?_)
    refine (chfields_any _ _ _ _ _ _ _ _ _).mono ?_
    rintro e w5 ⟨rfl, hb5⟩
    have HB5 : Hid (Below w.heap.size w w5) := HB4.out.trans (hb5.mono (by omega))
    clear hb5 HC2 HB4 hz2 hz3 hz4
    have hc := HC.out
    clear HC
    rcases hc with ⟨b1, rfl, rfl, rfl⟩ | ⟨b1, b2, rfl, rfl, rfl⟩ | ⟨b1, b2, rfl, rfl, rfl⟩
    · have d1 : (a2 != 10) = false := by simp only [bne, b1, Bool.not_true]
      go_wp2
      go_ret
      exact ⟨rfl, HB5.out⟩
    · have d1 : (a2 != 10) = true := by simp only [bne, b1, Bool.not_false]
      have d2 : (a2 != 11) = false := by simp only [bne, b2, Bool.not_true]
      go_wp2
      go_ret
      exact ⟨rfl, HB5.out⟩
    · have d1 : (a2 != 10) = true := by simp only [bne, b1, Bool.not_false]
      have d2 : (a2 != 11) = true := by simp only [bne, b2, Bool.not_false]
      go_wp2
      go_ret
      exact ⟨rfl, HB5.out⟩
  · go_ret
    exact ⟨rfl, Below.refl _ _⟩
  · go_ret
    exact ⟨rfl, Below.refl _ _⟩
  · go_ret
    exact ⟨rfl, Below.refl _ _⟩
  · go_ret
    exact ⟨rfl, Below.refl _ _⟩
end Go.Proofs.Qxb6609105a
