import Derived.Test.Qxb6608537aDoorWr
namespace Go.Proofs.Qxb6608537aDoor
open Go.RowKit
set_option linter.unusedVariables false

/-- At the head of the writing loop: i cells are gone. -/
def WInv (w : World) (b X g size : Nat) (ro : Option Nat) (C : List Value) (pb poff pn pc : Nat) (cs : List Value) (i : Nat) (ad : Addr) (wr : World) (n : Nat) (ro' : Option Nat) (bs : List Value) (gc : Array Value) : Prop :=
  St wr b X g size n ro' bs gc ∧ bs ++ gc.toList.take n = C ++ cs.take i ∧ NewRow w ro ro' ∧ Fr b X g ro w wr ∧ (i < pn → ad = ⟨pb, poff + i, none⟩)

set_option maxRecDepth 100000 in
set_option maxHeartbeats 8000000 in
theorem wwrite_far (b X g size n : Nat) (ro : Option Nat) (bs : List Value) (gc : Array Value) (pb poff pn pc : Nat) (cs : List Value) (w : World) (h : St w b X g size n ro bs gc) (hs : Src w b X g ro pb poff cs) (hpb : pb < w.heap.size) (hcl : cs.length = pn) (h1c : ∀ v ∈ cs, v.oneCell' = true) (hpn : 1 ≤ pn) (hpc : pn ≤ pc) (hpm : pc ≤ maxLen) (hlim : (bs ++ gc.toList.take n).length + pn ≤ 1099511627776) :
    Calls Tryd.prog 19 #[.pointer (some ⟨X, 0, none⟩), .slice (some ⟨pb, poff, none⟩) pn pc] w fun e w' => e = .returned (.tuple #[.int .i64 pn, .nilIface]) ∧ Went w b X g size ro (bs ++ gc.toList.take n ++ cs) w' := by
  obtain ⟨C, hC⟩ : ∃ C, C = bs ++ gc.toList.take n := ⟨_, rfl⟩
  rw [← hC] at hlim ⊢
  have HI : Hid (WInv w b X g size ro C pb poff pn pc cs 0 ⟨pb, poff, none⟩ w n ro bs gc) := ⟨h, by rw [hC]; simp, Or.inl rfl, Fr.refl _ _ _ _ _, fun _ => rfl⟩
  have HS := hideIt hs
  have H1 := hideIt h1c
  have HM := hideIt hpm
  unfold maxLen at hpm
  clear h hs hC h1c
  go_enter Tryd.func19, Tryd.ntmps19
  go_wp2
  go_loopw [1, 4] (fun p nn wr => ∃ (i : Nat) (ad : Addr) (n' : Nat) (ro' : Option Nat) (bs' : List Value) (gc' : Array Value), i ≤ pn ∧ p = .slice (some ad) (pn - i) (pc - i) ∧ nn = .int .i64 i ∧ WInv w b X g size ro C pb poff pn pc cs i ad wr n' ro' bs' gc') (fun p _ wr => 2 * lenV p + pend X wr)
  case atStart => exact ⟨0, _, n, ro, bs, gc, Nat.zero_le _, rfl, rfl, HI.out⟩
  case round =>
    obtain ⟨i, ad, n', ro', bs', gc', hi, rfl, rfl, hinv⟩ := hrel
    have HV := hideIt hinv
    have hX := hinv.1.2.1
    have hns : n' ≤ size := hinv.1.2.2.2.2.2.2.1
    have hsz : size ≤ 65536 := hinv.1.2.2.2.2.2.1
    have hsz1 : 1 ≤ size := hinv.1.2.2.2.2.1
    have H26 := hideIt (avail_any b X g size n' wr hX hsz hns)
    have H27 : Hid (∀ k, Calls Tryd.prog 27 #[.pointer (some ⟨X, 0, none⟩)] (wr.drewN k) fun e w' => e = .returned (.int .i64 n') ∧ w' = wr.drewN k) := fun k => buffered_any b X g size n' (wr.drewN k) hX
    have hD0 : ∀ k, (wr.drewN k).cell? ⟨X, 0, none⟩ = some .nilIface := fun k => by rw [Lib.cell_of_heap (w := wr.drewN k) hX]; rfl
    have hD1 : ∀ k, (wr.drewN k).cell? ⟨X, 1, none⟩ = some (.slice (some ⟨g, 0, none⟩) size size) := fun k => by rw [Lib.cell_of_heap (w := wr.drewN k) hX]; rfl
    have hD2 : ∀ k, (wr.drewN k).cell? ⟨X, 2, none⟩ = some (.int .i64 n') := fun k => by rw [Lib.cell_of_heap (w := wr.drewN k) hX]; rfl
    have hD3 : ∀ k, (wr.drewN k).cell? ⟨X, 3, none⟩ = some (.iface 34 (.pointer (some ⟨b, 0, none⟩))) := fun k => by rw [Lib.cell_of_heap (w := wr.drewN k) hX]; rfl
    have HSR : Hid (Src wr b X g ro' pb poff cs) := HS.out.on hpb hinv.2.2.1 hinv.2.2.2.1
    have hlt : i < pn → ad = ⟨pb, poff + i, none⟩ := hinv.2.2.2.2
    have hbl : bs'.length ≤ C.length + i := by
      have := congrArg List.length hinv.2.1
      simp only [List.length_append, List.length_take] at this
      omega
    clear hinv
    have hm := meth_write
    have he := ent73
    by_cases hbig : size - n' < pn - i
    · have hbi : (size : Int) - n' < ((pn - i : Nat) : Int) := by omega
      have hip : i < pn := by omega
      obtain rfl := hlt hip
      by_cases hn0 : n' = 0
      · subst hn0
        have hdl : (cs.drop i).length = pn - i := by rw [List.length_drop, hcl]
        have H73 : Hid (∀ k, Calls Tryd.prog 73 #[.pointer (some ⟨b, 0, none⟩), .slice (some ⟨pb, poff + i, none⟩) (pn - i) (pc - i)] (wr.drewN k) fun e w' => e = .returned (.tuple #[.int .i64 ((pn - i : Nat) : Int), .nilIface]) ∧ BufPost (wr.drewN k) b ro' (bs' ++ cs.drop i) w') := fun k =>
          bwrite_any b ro' bs' (cs.drop i) ⟨pb, poff + i, none⟩ (pn - i) (pc - i) (wr.drewN k) (HV.out.1.drewN k).1 hdl (by omega) HSR.out.1 (by have := HSR.out.part i (pn - i); rw [List.take_of_length_le (by omega)] at this; exact this) (fun v hv => H1.out v (List.mem_of_mem_drop hv)) (by omega)
        go_wp2_with (first
          | (go_at_call 26; refine H26.out.mono ?_; rintro e w' ⟨rfl, k26, hw⟩; subst hw)
          | (go_at_call 27; refine (H27.out _).mono ?_; rintro e w' ⟨rfl, hw⟩; subst hw)
          | (go_at_call 73; refine (H73.out _).mono ?_; rintro e w1 ⟨rfl, hp⟩; have HP := hideIt ((HV.out.1.drewN _).wrote hp); clear hp; have hX1 : w1.heap[X]? = some (.cells (wrC b g size 0) 53 (0, 0)) := (by obtain ⟨ro1, q, _⟩ := HP.out; exact q.2.1); have d0 : w1.cell? ⟨X, 0, none⟩ = some .nilIface := (by rw [Lib.cell_of_heap hX1]; rfl); have f0 : w1.frozen? ⟨X, 0, none⟩ = false := Lib.frozen_of_heap hX1 0; clear hX1))
        obtain ⟨ro1, q1, q2, q3⟩ := HP.out
        have qs := q1.setErr
        have hc := HV.out.2.1
        rw [List.take_zero, List.append_nil] at hc
        refine ⟨⟨pn, if pc - i = pn - i then ⟨pb, poff + i, none⟩ else ⟨pb, poff + i + (pn - i), none⟩, 0, ro1, _, _, Nat.le_refl _, ?_, ?_, qs, ?_, HV.out.2.2.1.trans HV.out.2.2.2.1.2.2.2.1 q2, (HV.out.2.2.2.1.trans HV.out.2.2.1 q3).setX 0 _, fun h => absurd h (Nat.lt_irrefl _)⟩, ?_⟩
        · rw [show pn - pn = 0 by omega, show pc - pn = pc - i - (pn - i) by omega]; split <;> rfl
        · congr 1; omega
        · rw [List.take_zero, List.append_nil, hc, List.append_assoc, List.take_append_drop, List.take_of_length_le (by omega)]
        · rw [pend_of qs.2.1, pend_of HV.out.1.2.1]; simp [lenV]; omega
      · have hn0' : ¬ (n' : Int) = 0 := by omega
        by_cases hfull : n' = size
        · -- the row is full: nothing is copied
          subst hfull
          have HF : Hid (∀ k, Calls Tryd.prog 13 #[.pointer (some ⟨X, 0, none⟩)] ((wr.drewN k).drew.setCell ⟨X, 2, none⟩ (.int .i64 n')) fun e w' => e = .returned .nilIface ∧ ∃ ro1, St w' b X g n' 0 ro1 (bs' ++ gc'.toList.take n') gc' ∧ NewRow ((wr.drewN k).drew.setCell ⟨X, 2, none⟩ (.int .i64 n')) ro' ro1 ∧ Fr b X g ro' ((wr.drewN k).drew.setCell ⟨X, 2, none⟩ (.int .i64 n')) w') := fun k =>
            flush_any b X g n' n' ro' bs' gc' _ ((HV.out.1.drewN k).drew.setN n' (Nat.le_refl _) HV.out.1.2.2.2.2.2.2.2.1) (by omega)
          have hcp : ∀ W : World, (Builtin.copy_ #[30, 30] 3 #[.slice (some ⟨g, 0, none⟩) 0 0, .slice (some ⟨pb, poff + i, none⟩) (pn - i) (pc - i)]).run Tryd.prog W = .ok (goInt 0) W := fun W => copy_zero _ _ _ _ _ _ (Or.inr rfl)
          have hf2 : ∀ k, (wr.drewN k).frozen? ⟨X, 2, none⟩ = false := fun k => Lib.frozen_of_heap (w := wr.drewN k) hX 2
          go_wp2_with (first
            | (go_at_call 26; refine H26.out.mono ?_; rintro e w' ⟨rfl, k26, hw⟩; subst hw)
            | (go_at_call 27; refine (H27.out _).mono ?_; rintro e w' ⟨rfl, hw⟩; subst hw))
          go_region
          go_wp2_with (go_at_call 13; refine (HF.out _).mono ?_; rintro e w1 ⟨rfl, ro1, q1, q2, q3⟩; have HQ := hideIt (And.intro q1 (And.intro q2 q3)); clear q1 q2 q3)
          obtain ⟨q1, q2, q3⟩ := HQ.out
          have hf0 : Fr b X g ro' wr w1 := ((Fr.refl b X g ro' wr).setX 2 (.int .i64 n')).trans (Or.inl rfl) q3
          have hr0 : NewRow wr ro' ro1 := by rcases q2 with q2 | ⟨r, q2, q2'⟩; exact Or.inl q2; exact Or.inr ⟨r, q2, by simpa [World.setCell] using q2'⟩
          refine ⟨⟨i, _, 0, ro1, _, _, hi, rfl, rfl, q1, ?_, HV.out.2.2.1.trans HV.out.2.2.2.1.2.2.2.1 hr0, HV.out.2.2.2.1.trans HV.out.2.2.1 hf0, fun _ => rfl⟩, ?_⟩
          · rw [List.take_zero, List.append_nil]; exact HV.out.2.1
          · rw [pend_of q1.2.1, pend_of HV.out.1.2.1]; simp [lenV, hn0]
        · have hlt' : n' < size := by omega
          have hli : (n' : Int) < size := by omega
          have hsub : ¬ size - n' = 0 := by omega
          have hne : ¬ size = n' := by omega
          obtain ⟨part, hpart⟩ : ∃ part, part = (cs.drop i).take (size - n') := ⟨_, rfl⟩
          have hpl : part.length = size - n' := by rw [hpart, List.length_take, List.length_drop]; omega
          have hp1 : ∀ v ∈ part, v.oneCell' = true := fun v hv => H1.out v (by rw [hpart] at hv; exact List.mem_of_mem_drop (List.mem_of_mem_take hv))
          have hps := HSR.out.part i (size - n')
          rw [← hpart] at hps
          have HC : Hid (∀ k, ∃ wF, (Builtin.copy_ #[30, 30] 3 #[.slice (some ⟨g, n', none⟩) (size - n') (size - n'), .slice (some ⟨pb, poff + i, none⟩) (pn - i) (pc - i)]).run Tryd.prog (wr.drewN k) = .ok (goInt ((size - n' : Nat) : Int)) wF ∧ St wF b X g size n' ro' bs' (fillC gc' n' part) ∧ Fr b X g ro' (wr.drewN k) wF) := fun k => by
            have hh := HV.out.1.drewN k
            have hr := copy_in hh (cs := part) (by omega) hp1 ⟨pb, poff + i, none⟩ (pn - i) (pc - i) (by rw [hpl]; exact (Nat.min_eq_right (by omega)).symm) hps
            rw [hpl] at hr
            exact ⟨_, hr, (hh.filled (cs := part) (by omega)).1, (hh.filled (cs := part) (by omega)).2⟩
          have HT := hideIt (fillC_take (gc := gc') (n := n') (cs := part) (by have := HV.out.1.2.2.2.1; omega))
          go_wp2_with (first
            | (go_at_call 26; refine H26.out.mono ?_; rintro e w' ⟨rfl, k26, hw⟩; subst hw)
            | (go_at_call 27; refine (H27.out _).mono ?_; rintro e w' ⟨rfl, hw⟩; subst hw))
          obtain ⟨wF, hcp, hSt, hFr⟩ := HC.out (k26 + 1)
          have HSF := hideIt (And.intro hSt hFr)
          have e2 : wF.cell? ⟨X, 2, none⟩ = some (.int .i64 n') := by rw [Lib.cell_of_heap hSt.2.1]; rfl
          have g2 : wF.frozen? ⟨X, 2, none⟩ = false := Lib.frozen_of_heap hSt.2.1 2
          have HF : Hid (Calls Tryd.prog 13 #[.pointer (some ⟨X, 0, none⟩)] (wF.setCell ⟨X, 2, none⟩ (.int .i64 size)) fun e w' => e = .returned .nilIface ∧ ∃ ro1, St w' b X g size 0 ro1 (bs' ++ (fillC gc' n' part).toList.take size) (fillC gc' n' part) ∧ NewRow (wF.setCell ⟨X, 2, none⟩ (.int .i64 size)) ro' ro1 ∧ Fr b X g ro' (wF.setCell ⟨X, 2, none⟩ (.int .i64 size)) w') := by
            have ht : (fillC gc' n' part).toList.take size = gc'.toList.take n' ++ part := by have := HT.out; rw [hpl, show n' + (size - n') = size by omega] at this; exact this
            refine flush_any b X g size size ro' bs' (fillC gc' n' part) _ (hSt.setN size (Nat.le_refl _) ?_) (by omega)
            rw [ht]
            intro v hv
            rcases List.mem_append.1 hv with hv | hv
            · exact HV.out.1.2.2.2.2.2.2.2.1 v hv
            · exact hp1 v hv
          clear hSt hFr
          have hadd : (n' : Int) + ((size - n' : Nat) : Int) = size := by omega
          go_region
          go_wp2_with (go_at_call 13; refine HF.out.mono ?_; rintro e w1 ⟨rfl, ro1, q1, q2, q3⟩; have HQ := hideIt (And.intro q1 (And.intro q2 q3)); clear q1 q2 q3)
          obtain ⟨q1, q2, q3⟩ := HQ.out
          have ht : (fillC gc' n' part).toList.take size = gc'.toList.take n' ++ part := by have := HT.out; rw [hpl, show n' + (size - n') = size by omega] at this; exact this
          have hf0 : Fr b X g ro' wr w1 := (HSF.out.2.setX 2 (.int .i64 size)).trans (Or.inl rfl) q3
          have hr0 : NewRow wr ro' ro1 := by
            rcases q2 with q2 | ⟨r, q2, q2'⟩
            · exact Or.inl q2
            · have hz : wr.heap.size ≤ wF.heap.size := HSF.out.2.2.2.2.1
              exact Or.inr ⟨r, q2, by simp [World.setCell] at q2'; omega⟩
          refine ⟨⟨i + (size - n'), _, 0, ro1, _, _, by omega, by rw [Nat.sub_sub, Nat.sub_sub], by congr 1, q1, ?_, HV.out.2.2.1.trans HV.out.2.2.2.1.2.2.2.1 hr0, HV.out.2.2.2.1.trans HV.out.2.2.1 hf0, fun _ => by rw [Nat.add_assoc]⟩, ?_⟩
          · rw [List.take_zero, List.append_nil, ht, ← List.append_assoc, HV.out.2.1, List.append_assoc, hpart]
            congr 1
            rw [List.take_add]
          · rw [pend_of q1.2.1, pend_of HV.out.1.2.1]; simp [lenV, hn0]; omega
    · have hbi : ¬ (size : Int) - n' < ((pn - i : Nat) : Int) := by omega
      by_cases hip : i < pn
      · obtain rfl := hlt hip
        have hlt' : n' < size := by omega
        have hli : (n' : Int) < size := by omega
        have hsub : ¬ size - n' = 0 := by omega
        have hne : ¬ size = n' := by omega
        obtain ⟨part, hpart⟩ : ∃ part, part = cs.drop i := ⟨_, rfl⟩
        have hpl : part.length = pn - i := by rw [hpart, List.length_drop]; omega
        have hp1 : ∀ v ∈ part, v.oneCell' = true := fun v hv => H1.out v (by rw [hpart] at hv; exact List.mem_of_mem_drop hv)
        have hps := HSR.out.part i (pn - i)
        rw [List.take_of_length_le (by rw [List.length_drop]; omega), ← hpart] at hps
        have HC : Hid (∀ k, ∃ wF, (Builtin.copy_ #[30, 30] 3 #[.slice (some ⟨g, n', none⟩) (size - n') (size - n'), .slice (some ⟨pb, poff + i, none⟩) (pn - i) (pc - i)]).run Tryd.prog (wr.drewN k) = .ok (goInt ((pn - i : Nat) : Int)) wF ∧ St wF b X g size n' ro' bs' (fillC gc' n' part) ∧ Fr b X g ro' (wr.drewN k) wF) := fun k => by
          have hh := HV.out.1.drewN k
          have hr := copy_in hh (cs := part) (by omega) hp1 ⟨pb, poff + i, none⟩ (pn - i) (pc - i) (by rw [hpl]; exact (Nat.min_eq_left (by omega)).symm) hps
          rw [hpl] at hr
          exact ⟨_, hr, (hh.filled (cs := part) (by omega)).1, (hh.filled (cs := part) (by omega)).2⟩
        have HT := hideIt (fillC_take (gc := gc') (n := n') (cs := part) (by have := HV.out.1.2.2.2.1; omega))
        go_wp2_with (first
          | (go_at_call 26; refine H26.out.mono ?_; rintro e w' ⟨rfl, k26, hw⟩; subst hw))
        obtain ⟨wF, hcp, hSt, hFr⟩ := HC.out (k26 + 1)
        have HSF := hideIt (And.intro hSt hFr)
        have e2 : wF.cell? ⟨X, 2, none⟩ = some (.int .i64 n') := by rw [Lib.cell_of_heap hSt.2.1]; rfl
        have g2 : wF.frozen? ⟨X, 2, none⟩ = false := Lib.frozen_of_heap hSt.2.1 2
        clear hSt hFr
        go_region
        go_wp2
        go_ret2
        have hz : (n' : Int) + ((pn - i : Nat) : Int) = ((n' + (pn - i) : Nat) : Int) := by omega
        have ht : (fillC gc' n' part).toList.take (n' + (pn - i)) = gc'.toList.take n' ++ part := by have := HT.out; rw [hpl] at this; exact this
        refine ⟨(congrArg (fun z : Int => Ending.returned (.tuple #[.int .i64 z, .nilIface])) (show (i : Int) + ((pn - i : Nat) : Int) = pn by omega)), ?_⟩
        rw [hz]
        refine ⟨n' + (pn - i), ro', bs', fillC gc' n' part, HSF.out.1.setN _ (by omega) ?_, ?_, HV.out.2.2.1, (HV.out.2.2.2.1.trans HV.out.2.2.1 HSF.out.2).setX 2 _⟩
        · rw [ht]
          intro v hv
          rcases List.mem_append.1 hv with hv | hv
          · exact HV.out.1.2.2.2.2.2.2.2.1 v hv
          · exact hp1 v hv
        · rw [ht, ← List.append_assoc, HV.out.2.1, List.append_assoc, hpart, List.take_append_drop]
      · obtain rfl : i = pn := by omega
        have hcp : ∀ (W : World) (d : Option Addr) (dl dc sc : Nat), (Builtin.copy_ #[30, 30] 3 #[.slice d dl dc, .slice (some ad) 0 sc]).run Tryd.prog W = .ok (goInt 0) W := fun W d dl dc sc => copy_zero _ _ _ _ _ _ (Or.inl rfl)
        have hf2 : ∀ k, (wr.drewN k).frozen? ⟨X, 2, none⟩ = false := fun k => Lib.frozen_of_heap (w := wr.drewN k) hX 2
        by_cases hfull : n' = size
        · subst hfull
          go_wp2_with (first
            | (go_at_call 26; refine H26.out.mono ?_; rintro e w' ⟨rfl, k26, hw⟩; subst hw))
          go_region
          all_goals
            go_wp2
            go_ret2
            refine ⟨rfl, n', ro', bs', gc', (HV.out.1.drewN _).setN n' hns HV.out.1.2.2.2.2.2.2.2.1, ?_, HV.out.2.2.1, (HV.out.2.2.2.1.drewN _).setX 2 _⟩
            rw [HV.out.2.1, List.take_of_length_le (by omega)]
        · have hne : ¬ size = n' := by omega
          have hlt' : n' < size := by omega
          have hli : (n' : Int) < size := by omega
          have hsub : ¬ size - n' = 0 := by omega
          go_wp2_with (first
            | (go_at_call 26; refine H26.out.mono ?_; rintro e w' ⟨rfl, k26, hw⟩; subst hw))
          go_region
          all_goals
            go_wp2
            go_ret2
            refine ⟨rfl, n', ro', bs', gc', (HV.out.1.drewN _).setN n' hns HV.out.1.2.2.2.2.2.2.2.1, ?_, HV.out.2.2.1, (HV.out.2.2.2.1.drewN _).setX 2 _⟩
            rw [HV.out.2.1, List.take_of_length_le (by omega)]
end Go.Proofs.Qxb6608537aDoor
