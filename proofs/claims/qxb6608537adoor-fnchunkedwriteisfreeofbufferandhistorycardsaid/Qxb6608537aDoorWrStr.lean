import Derived.Test.Qxb6608537aDoorCrlf
namespace Go.Proofs.Qxb6608537aDoor
open Go.RowKit
set_option linter.unusedVariables false

theorem copy_str_zero {w : World} (d : Option Addr) (dc : Nat) (r : ByteArray) : (Builtin.copy_ #[30, 9] 3 #[.slice d 0 dc, .string r]).run Tryd.prog w = .ok (goInt 0) w := by
  cases hq : Tryd.prog.info? 5 with
  | none => have := Tryd.size5; simp [hq] at this
  | some i =>
    cases d <;> simp [Builtin.copy_, run_underlying Tryd.underlying30, Builtin.lenOf, Builtin.firstCells, sizeOf, typeInfo, hq, storeCells]

def restS : Nat → ByteArray
  | 0 => ⟨#[13, 10]⟩
  | 1 => ⟨#[10]⟩
  | _ => ⟨#[]⟩
def strLen : Value → Nat
  | .string s => s.size
  | _ => 0

def CInv (w : World) (b X g size : Nat) (ro : Option Nat) (C : List Value) (i : Nat) (wr : World) (n : Nat) (ro' : Option Nat) (bs : List Value) (gc : Array Value) : Prop :=
  St wr b X g size n ro' bs gc ∧ bs ++ gc.toList.take n = C ++ crlfC.take i ∧ NewRow w ro ro' ∧ Fr b X g ro w wr

set_option maxRecDepth 100000 in
set_option maxHeartbeats 8000000 in
theorem crlf_any (b X g size n : Nat) (ro : Option Nat) (bs : List Value) (gc : Array Value) (w : World) (h : St w b X g size n ro bs gc) (hlim : (bs ++ gc.toList.take n).length ≤ 1099511627776) :
    Calls Tryd.prog 22 #[.pointer (some ⟨X, 0, none⟩), .string ⟨#[13, 10]⟩] w fun e w' => e = .returned (.tuple #[.int .i64 2, .nilIface]) ∧ Went w b X g size ro (bs ++ gc.toList.take n ++ crlfC) w' := by
  obtain ⟨C, hC⟩ : ∃ C, C = bs ++ gc.toList.take n := ⟨_, rfl⟩
  rw [← hC] at hlim ⊢
  have HI : Hid (CInv w b X g size ro C 0 w n ro bs gc) := ⟨h, by rw [hC]; simp, Or.inl rfl, Fr.refl _ _ _ _ _⟩
  clear h hC
  go_enter Tryd.func22, Tryd.ntmps22
  go_wp2
  go_loopw [1, 6, 7, 8] (fun s sw tr nn wr => ∃ (i n' : Nat) (ro' : Option Nat) (bs' : List Value) (gc' : Array Value), i ≤ 2 ∧ s = .string (restS i) ∧ (i < 2 → sw = .nilIface) ∧ tr = .bool true ∧ nn = .int .i64 i ∧ CInv w b X g size ro C i wr n' ro' bs' gc') (fun s _ _ _ wr => 2 * strLen s + pend X wr)
  case atStart => exact ⟨0, n, ro, bs, gc, Nat.zero_le _, rfl, fun _ => rfl, rfl, rfl, HI.out⟩
  case round =>
    obtain ⟨i, n', ro', bs', gc', hi, rfl, hsw, rfl, rfl, hinv⟩ := hrel
    have HV := hideIt hinv
    have hX := hinv.1.2.1
    have hns : n' ≤ size := hinv.1.2.2.2.2.2.2.1
    have hsz : size ≤ 65536 := hinv.1.2.2.2.2.2.1
    have hsz1 : 1 ≤ size := hinv.1.2.2.2.2.1
    have hgs : gc'.size = size := hinv.1.2.2.2.1
    have H26 := hideIt (avail_any b X g size n' wr hX hsz hns)
    have H27 : Hid (∀ k, Calls Tryd.prog 27 #[.pointer (some ⟨X, 0, none⟩)] (wr.drewN k) fun e w' => e = .returned (.int .i64 n') ∧ w' = wr.drewN k) := fun k => buffered_any b X g size n' (wr.drewN k) hX
    have hD0 : ∀ k, (wr.drewN k).cell? ⟨X, 0, none⟩ = some .nilIface := fun k => by rw [Lib.cell_of_heap (w := wr.drewN k) hX]; rfl
    have hD1 : ∀ k, (wr.drewN k).cell? ⟨X, 1, none⟩ = some (.slice (some ⟨g, 0, none⟩) size size) := fun k => by rw [Lib.cell_of_heap (w := wr.drewN k) hX]; rfl
    have hD2 : ∀ k, (wr.drewN k).cell? ⟨X, 2, none⟩ = some (.int .i64 n') := fun k => by rw [Lib.cell_of_heap (w := wr.drewN k) hX]; rfl
    have hD3 : ∀ k, (wr.drewN k).cell? ⟨X, 3, none⟩ = some (.iface 34 (.pointer (some ⟨b, 0, none⟩))) := fun k => by rw [Lib.cell_of_heap (w := wr.drewN k) hX]; rfl
    have hf2 : ∀ k, (wr.drewN k).frozen? ⟨X, 2, none⟩ = false := fun k => Lib.frozen_of_heap (w := wr.drewN k) hX 2
    have hbl : bs'.length ≤ C.length + 2 := by
      have := congrArg List.length hinv.2.1
      simp only [List.length_append, List.length_take] at this
      omega
    clear hinv HI
    have hcases : i = 0 ∨ i = 1 ∨ i = 2 := by omega
    rcases hcases with rfl | rfl | rfl
    · obtain rfl := hsw (by omega)
      simp only [restS]
      by_cases hroom : 2 ≤ size - n'
      · have hbi : ¬ (size : Int) - n' < 2 := by omega
        have hlt' : n' < size := by omega
        have hli : (n' : Int) < size := by omega
        have hsub : ¬ size - n' = 0 := by omega
        have hne : ¬ size = n' := by omega
        have HC : Hid (∀ k, ∃ wF, (Builtin.copy_ #[30, 9] 3 #[.slice (some ⟨g, n', none⟩) (size - n') (size - n'), .string ⟨#[13, 10]⟩]).run Tryd.prog (wr.drewN k) = .ok (goInt 2) wF ∧ St wF b X g size n' ro' bs' (fillC gc' n' ([.int .u8 13, .int .u8 10] : List Value)) ∧ Fr b X g ro' (wr.drewN k) wF) := fun k => by
          have hh := HV.out.1.drewN k
          have hr := copy_str (w := wr.drewN k) (o := n') (dLen := size - n') (dCap := size - n') (r := ⟨#[13, 10]⟩) (cs := ([.int .u8 13, .int .u8 10] : List Value)) hh.2.2.1 (by rw [List.take_of_length_le (by show _ ≤ _; simp [Lib.byteCells]; omega)]; rfl) (by simp; omega)
          exact ⟨_, hr, (hh.filled (cs := ([.int .u8 13, .int .u8 10] : List Value)) (by simp; omega)).1, (hh.filled (cs := ([.int .u8 13, .int .u8 10] : List Value)) (by simp; omega)).2⟩
        have HT := hideIt (fillC_take (gc := gc') (n := n') (cs := ([.int .u8 13, .int .u8 10] : List Value)) (by simp; omega))
        go_wp2_with (first | (go_at_call 26; refine H26.out.mono ?_; rintro e w' ⟨rfl, k26, hw⟩; subst hw))
        obtain ⟨wF, hcp, hSt, hFr⟩ := HC.out (k26 + 1)
        have HSF := hideIt (And.intro hSt hFr)
        have e2 : wF.cell? ⟨X, 2, none⟩ = some (.int .i64 n') := by rw [Lib.cell_of_heap hSt.2.1]; rfl
        have g2 : wF.frozen? ⟨X, 2, none⟩ = false := Lib.frozen_of_heap hSt.2.1 2
        clear hSt hFr
        go_region
        go_wp2
        go_ret2
        have ht : (fillC gc' n' ([.int .u8 13, .int .u8 10] : List Value)).toList.take (n' + 2) = gc'.toList.take n' ++ ([.int .u8 13, .int .u8 10] : List Value) := HT.out
        refine ⟨rfl, n' + 2, ro', bs', fillC gc' n' ([.int .u8 13, .int .u8 10] : List Value), HSF.out.1.setN (n' + 2) (by omega) ?_, ?_, HV.out.2.2.1, (HV.out.2.2.2.trans HV.out.2.2.1 HSF.out.2).setX 2 _⟩
        · rw [ht]
          intro v hv
          rcases List.mem_append.1 hv with hv | hv
          · exact HV.out.1.2.2.2.2.2.2.2.1 v hv
          · simp at hv; rcases hv with rfl | rfl <;> rfl
        · rw [ht, ← List.append_assoc, HV.out.2.1, List.append_assoc]; rfl
      · by_cases hn0 : n' = 0
        · subst hn0
          obtain rfl : size = 1 := by omega
          have hm := meth_writestr
          have he := ent74
          have hta := tassert
          have H74 : Hid (∀ k, Calls Tryd.prog 74 #[.pointer (some ⟨b, 0, none⟩), .string ⟨#[13, 10]⟩] (wr.drewN k) fun e w' => e = .returned (.tuple #[.int .i64 ((2 : Nat) : Int), .nilIface]) ∧ BufPost (wr.drewN k) b ro' (bs' ++ crlfC) w') := fun k =>
            bwritestr_any b ro' bs' crlfC ⟨#[13, 10]⟩ 2 (wr.drewN k) (HV.out.1.drewN k).1 rfl rfl (by omega) (by omega)
          go_wp2_with (first
            | (go_at_call 26; refine H26.out.mono ?_; rintro e w' ⟨rfl, k26, hw⟩; subst hw)
            | (go_at_call 27; refine (H27.out _).mono ?_; rintro e w' ⟨rfl, hw⟩; subst hw)
            | (go_at_call 74; refine (H74.out _).mono ?_; rintro e w1 ⟨rfl, hp⟩; have HP := hideIt ((HV.out.1.drewN _).wrote hp); clear hp; have hX1 : w1.heap[X]? = some (.cells (wrC b g 1 0) 53 (0, 0)) := (by obtain ⟨ro1, q, _⟩ := HP.out; exact q.2.1); have d0 : w1.cell? ⟨X, 0, none⟩ = some .nilIface := (by rw [Lib.cell_of_heap hX1]; rfl); have f0 : w1.frozen? ⟨X, 0, none⟩ = false := Lib.frozen_of_heap hX1 0; clear hX1))
          obtain ⟨ro1, q1, q2, q3⟩ := HP.out
          have qs := q1.setErr
          have hc := HV.out.2.1
          rw [List.take_zero, List.append_nil] at hc
          refine ⟨⟨2, 0, ro1, _, _, Nat.le_refl _, rfl, fun h => absurd h (by omega), rfl, rfl, qs, ?_, HV.out.2.2.1.trans HV.out.2.2.2.2.2.2.1 q2, (HV.out.2.2.2.trans HV.out.2.2.1 q3).setX 0 _⟩, ?_⟩
          · rw [List.take_zero, List.append_nil, hc, List.append_assoc]; rfl
          · rw [pend_of qs.2.1, pend_of HV.out.1.2.1]; simp [strLen]; decide
        · by_cases hfu : size - n' = 0
          · obtain rfl : n' = size := by omega
            have hn0 : ¬ n' = 0 := by omega
            have hn0' : ¬ (n' : Int) = 0 := by omega
            have HF : Hid (∀ k, Calls Tryd.prog 13 #[.pointer (some ⟨X, 0, none⟩)] ((wr.drewN k).drew.setCell ⟨X, 2, none⟩ (.int .i64 n')) fun e w' => e = .returned .nilIface ∧ ∃ ro1, St w' b X g n' 0 ro1 (bs' ++ gc'.toList.take n') gc' ∧ NewRow ((wr.drewN k).drew.setCell ⟨X, 2, none⟩ (.int .i64 n')) ro' ro1 ∧ Fr b X g ro' ((wr.drewN k).drew.setCell ⟨X, 2, none⟩ (.int .i64 n')) w') := fun k =>
              flush_any b X g n' n' ro' bs' gc' _ ((HV.out.1.drewN k).drew.setN n' (Nat.le_refl _) HV.out.1.2.2.2.2.2.2.2.1) (by omega)
            have hcp : ∀ W : World, (Builtin.copy_ #[30, 9] 3 #[.slice (some ⟨g, 0, none⟩) 0 0, .string ⟨#[13, 10]⟩]).run Tryd.prog W = .ok (goInt 0) W := fun W => copy_str_zero _ _ _
            go_wp2_with (first
              | (go_at_call 26; refine H26.out.mono ?_; rintro e w' ⟨rfl, k26, hw⟩; subst hw)
              | (go_at_call 27; refine (H27.out _).mono ?_; rintro e w' ⟨rfl, hw⟩; subst hw))
            go_region
            go_wp2_with (go_at_call 13; refine (HF.out _).mono ?_; rintro e w1 ⟨rfl, ro1, q1, q2, q3⟩; have HQ := hideIt (And.intro q1 (And.intro q2 q3)); clear q1 q2 q3)
            obtain ⟨q1, q2, q3⟩ := HQ.out
            have hf0 : Fr b X g ro' wr w1 := ((Fr.refl b X g ro' wr).setX 2 (.int .i64 n')).trans (Or.inl rfl) q3
            have hr0 : NewRow wr ro' ro1 := by rcases q2 with q2 | ⟨r, q2, q2'⟩; exact Or.inl q2; exact Or.inr ⟨r, q2, by simpa [World.setCell] using q2'⟩
            refine ⟨⟨0, 0, ro1, _, _, hi, rfl, fun _ => rfl, rfl, rfl, q1, ?_, HV.out.2.2.1.trans HV.out.2.2.2.2.2.2.1 hr0, HV.out.2.2.2.trans HV.out.2.2.1 hf0⟩, ?_⟩
            · rw [List.take_zero, List.append_nil]; exact HV.out.2.1
            · rw [pend_of q1.2.1, pend_of HV.out.1.2.1]; simp [strLen, hn0]; decide
          · have hone : size - n' = 1 := by omega
            have hbi : (size : Int) - n' < 2 := by omega
            have hn0' : ¬ (n' : Int) = 0 := by omega
            have hlt' : n' < size := by omega
            have hli : (n' : Int) < size := by omega
            have hsub : ¬ size - n' = 0 := by omega
            have hne : ¬ size = n' := by omega
            have HC : Hid (∀ k, ∃ wF, (Builtin.copy_ #[30, 9] 3 #[.slice (some ⟨g, n', none⟩) (size - n') (size - n'), .string ⟨#[13, 10]⟩]).run Tryd.prog (wr.drewN k) = .ok (goInt 1) wF ∧ St wF b X g size n' ro' bs' (fillC gc' n' ([.int .u8 13] : List Value)) ∧ Fr b X g ro' (wr.drewN k) wF) := fun k => by
              have hh := HV.out.1.drewN k
              have hr := copy_str (w := wr.drewN k) (o := n') (dLen := size - n') (dCap := size - n') (r := ⟨#[13, 10]⟩) (cs := ([.int .u8 13] : List Value)) hh.2.2.1 (by rw [hone]; rfl) (by simp; omega)
              exact ⟨_, hr, (hh.filled (cs := ([.int .u8 13] : List Value)) (by simp; omega)).1, (hh.filled (cs := ([.int .u8 13] : List Value)) (by simp; omega)).2⟩
            have HT := hideIt (fillC_take (gc := gc') (n := n') (cs := ([.int .u8 13] : List Value)) (by simp; omega))
            have hone1 : ((size - n' : Nat) : Int) = 1 := by omega
            have HO := hideIt hone
            clear hone hone1
            go_wp2_with (first
              | (go_at_call 26; refine H26.out.mono ?_; rintro e w' ⟨rfl, k26, hw⟩; subst hw)
              | (go_at_call 27; refine (H27.out _).mono ?_; rintro e w' ⟨rfl, hw⟩; subst hw))
            obtain ⟨wF, hcp, hSt, hFr⟩ := HC.out (k26 + 1)
            have HSF := hideIt (And.intro hSt hFr)
            have e2 : wF.cell? ⟨X, 2, none⟩ = some (.int .i64 n') := by rw [Lib.cell_of_heap hSt.2.1]; rfl
            have g2 : wF.frozen? ⟨X, 2, none⟩ = false := Lib.frozen_of_heap hSt.2.1 2
            have ht : Hid ((fillC gc' n' ([.int .u8 13] : List Value)).toList.take size = gc'.toList.take n' ++ ([.int .u8 13] : List Value)) := by have h1 := HT.out; rw [show n' + List.length ([.int .u8 13] : List Value) = size by have := HO.out; simp; omega] at h1; exact h1
            have HF : Hid (Calls Tryd.prog 13 #[.pointer (some ⟨X, 0, none⟩)] (wF.setCell ⟨X, 2, none⟩ (.int .i64 size)) fun e w' => e = .returned .nilIface ∧ ∃ ro1, St w' b X g size 0 ro1 (bs' ++ (fillC gc' n' ([.int .u8 13] : List Value)).toList.take size) (fillC gc' n' ([.int .u8 13] : List Value)) ∧ NewRow (wF.setCell ⟨X, 2, none⟩ (.int .i64 size)) ro' ro1 ∧ Fr b X g ro' (wF.setCell ⟨X, 2, none⟩ (.int .i64 size)) w') := by
              refine flush_any b X g size size ro' bs' (fillC gc' n' ([.int .u8 13] : List Value)) _ (hSt.setN size (Nat.le_refl _) ?_) (by omega)
              rw [ht.out]
              intro v hv
              rcases List.mem_append.1 hv with hv | hv
              · exact HV.out.1.2.2.2.2.2.2.2.1 v hv
              · simp at hv; subst hv; rfl
            clear hSt hFr
            have hadd : (n' : Int) + 1 = size := by have := HO.out; omega
            go_region
            go_wp2_with (go_at_call 13; refine HF.out.mono ?_; rintro e w1 ⟨rfl, ro1, q1, q2, q3⟩; have HQ := hideIt (And.intro q1 (And.intro q2 q3)); clear q1 q2 q3)
            obtain ⟨q1, q2, q3⟩ := HQ.out
            have hf0 : Fr b X g ro' wr w1 := (HSF.out.2.setX 2 (.int .i64 size)).trans (Or.inl rfl) q3
            have hr0 : NewRow wr ro' ro1 := by
              rcases q2 with q2 | ⟨r, q2, q2'⟩
              · exact Or.inl q2
              · have hz : wr.heap.size ≤ wF.heap.size := HSF.out.2.2.2.2.1
                exact Or.inr ⟨r, q2, by simp [World.setCell] at q2'; omega⟩
            refine ⟨⟨1, 0, ro1, _, _, by omega, rfl, fun _ => rfl, rfl, rfl, q1, ?_, HV.out.2.2.1.trans HV.out.2.2.2.2.2.2.1 hr0, HV.out.2.2.2.trans HV.out.2.2.1 hf0⟩, ?_⟩
            · rw [List.take_zero, List.append_nil, ht.out, ← List.append_assoc, HV.out.2.1, List.append_assoc]; rfl
            · rw [pend_of q1.2.1, pend_of HV.out.1.2.1]; simp [strLen, hn0]; decide
    · obtain rfl := hsw (by omega)
      simp only [restS]
      by_cases hroom : 1 ≤ size - n'
      · have hbi : ¬ (size : Int) - n' < 1 := by omega
        have hlt' : n' < size := by omega
        have hli : (n' : Int) < size := by omega
        have hsub : ¬ size - n' = 0 := by omega
        have hne : ¬ size = n' := by omega
        have HC : Hid (∀ k, ∃ wF, (Builtin.copy_ #[30, 9] 3 #[.slice (some ⟨g, n', none⟩) (size - n') (size - n'), .string ⟨#[10]⟩]).run Tryd.prog (wr.drewN k) = .ok (goInt 1) wF ∧ St wF b X g size n' ro' bs' (fillC gc' n' ([.int .u8 10] : List Value)) ∧ Fr b X g ro' (wr.drewN k) wF) := fun k => by
          have hh := HV.out.1.drewN k
          have hr := copy_str (w := wr.drewN k) (o := n') (dLen := size - n') (dCap := size - n') (r := ⟨#[10]⟩) (cs := ([.int .u8 10] : List Value)) hh.2.2.1 (by rw [List.take_of_length_le (by show _ ≤ _; simp [Lib.byteCells]; omega)]; rfl) (by simp; omega)
          exact ⟨_, hr, (hh.filled (cs := ([.int .u8 10] : List Value)) (by simp; omega)).1, (hh.filled (cs := ([.int .u8 10] : List Value)) (by simp; omega)).2⟩
        have HT := hideIt (fillC_take (gc := gc') (n := n') (cs := ([.int .u8 10] : List Value)) (by simp; omega))
        go_wp2_with (first | (go_at_call 26; refine H26.out.mono ?_; rintro e w' ⟨rfl, k26, hw⟩; subst hw))
        obtain ⟨wF, hcp, hSt, hFr⟩ := HC.out (k26 + 1)
        have HSF := hideIt (And.intro hSt hFr)
        have e2 : wF.cell? ⟨X, 2, none⟩ = some (.int .i64 n') := by rw [Lib.cell_of_heap hSt.2.1]; rfl
        have g2 : wF.frozen? ⟨X, 2, none⟩ = false := Lib.frozen_of_heap hSt.2.1 2
        clear hSt hFr
        go_region
        go_wp2
        go_ret2
        have ht : (fillC gc' n' ([.int .u8 10] : List Value)).toList.take (n' + 1) = gc'.toList.take n' ++ ([.int .u8 10] : List Value) := HT.out
        refine ⟨rfl, n' + 1, ro', bs', fillC gc' n' ([.int .u8 10] : List Value), HSF.out.1.setN (n' + 1) (by omega) ?_, ?_, HV.out.2.2.1, (HV.out.2.2.2.trans HV.out.2.2.1 HSF.out.2).setX 2 _⟩
        · rw [ht]
          intro v hv
          rcases List.mem_append.1 hv with hv | hv
          · exact HV.out.1.2.2.2.2.2.2.2.1 v hv
          · simp at hv; rcases hv with rfl | rfl <;> rfl
        · rw [ht, ← List.append_assoc, HV.out.2.1, List.append_assoc]; rfl
      · obtain rfl : n' = size := by omega
        have hn0 : ¬ n' = 0 := by omega
        have hn0' : ¬ (n' : Int) = 0 := by omega
        have HF : Hid (∀ k, Calls Tryd.prog 13 #[.pointer (some ⟨X, 0, none⟩)] ((wr.drewN k).drew.setCell ⟨X, 2, none⟩ (.int .i64 n')) fun e w' => e = .returned .nilIface ∧ ∃ ro1, St w' b X g n' 0 ro1 (bs' ++ gc'.toList.take n') gc' ∧ NewRow ((wr.drewN k).drew.setCell ⟨X, 2, none⟩ (.int .i64 n')) ro' ro1 ∧ Fr b X g ro' ((wr.drewN k).drew.setCell ⟨X, 2, none⟩ (.int .i64 n')) w') := fun k =>
          flush_any b X g n' n' ro' bs' gc' _ ((HV.out.1.drewN k).drew.setN n' (Nat.le_refl _) HV.out.1.2.2.2.2.2.2.2.1) (by omega)
        have hcp : ∀ W : World, (Builtin.copy_ #[30, 9] 3 #[.slice (some ⟨g, 0, none⟩) 0 0, .string ⟨#[10]⟩]).run Tryd.prog W = .ok (goInt 0) W := fun W => copy_str_zero _ _ _
        go_wp2_with (first
          | (go_at_call 26; refine H26.out.mono ?_; rintro e w' ⟨rfl, k26, hw⟩; subst hw)
          | (go_at_call 27; refine (H27.out _).mono ?_; rintro e w' ⟨rfl, hw⟩; subst hw))
        go_region
        go_wp2_with (go_at_call 13; refine (HF.out _).mono ?_; rintro e w1 ⟨rfl, ro1, q1, q2, q3⟩; have HQ := hideIt (And.intro q1 (And.intro q2 q3)); clear q1 q2 q3)
        obtain ⟨q1, q2, q3⟩ := HQ.out
        have hf0 : Fr b X g ro' wr w1 := ((Fr.refl b X g ro' wr).setX 2 (.int .i64 n')).trans (Or.inl rfl) q3
        have hr0 : NewRow wr ro' ro1 := by rcases q2 with q2 | ⟨r, q2, q2'⟩; exact Or.inl q2; exact Or.inr ⟨r, q2, by simpa [World.setCell] using q2'⟩
        refine ⟨⟨1, 0, ro1, _, _, hi, rfl, fun _ => rfl, rfl, rfl, q1, ?_, HV.out.2.2.1.trans HV.out.2.2.2.2.2.2.1 hr0, HV.out.2.2.2.trans HV.out.2.2.1 hf0⟩, ?_⟩
        · rw [List.take_zero, List.append_nil]; exact HV.out.2.1
        · rw [pend_of q1.2.1, pend_of HV.out.1.2.1]; simp [strLen, hn0]; decide
    · simp only [restS]
      have hcp : ∀ (W : World) (d : Option Addr) (dl dc : Nat), (Builtin.copy_ #[30, 9] 3 #[.slice d dl dc, .string ⟨#[]⟩]).run Tryd.prog W = .ok (goInt 0) W := fun W d dl dc => Lib.run_copy_empty_string W 30 9 3 5 d dl dc _ Tryd.underlying30 (by rw [Tryd.size5]; rfl) rfl
      have hbi : ¬ (size : Int) - n' < 0 := by omega
      by_cases hfull : n' = size
      · subst hfull
        go_wp2_with (first | (go_at_call 26; refine H26.out.mono ?_; rintro e w' ⟨rfl, k26, hw⟩; subst hw))
        go_region
        all_goals
          go_wp2
          go_ret2
          refine ⟨rfl, n', ro', bs', gc', (HV.out.1.drewN _).setN n' hns HV.out.1.2.2.2.2.2.2.2.1, ?_, HV.out.2.2.1, (HV.out.2.2.2.drewN _).setX 2 _⟩
          exact HV.out.2.1
      · have hne : ¬ size = n' := by omega
        have hlt' : n' < size := by omega
        have hli : (n' : Int) < size := by omega
        have hsub : ¬ size - n' = 0 := by omega
        go_wp2_with (first | (go_at_call 26; refine H26.out.mono ?_; rintro e w' ⟨rfl, k26, hw⟩; subst hw))
        go_region
        all_goals
          go_wp2
          go_ret2
          refine ⟨rfl, n', ro', bs', gc', (HV.out.1.drewN _).setN n' hns HV.out.1.2.2.2.2.2.2.2.1, ?_, HV.out.2.2.1, (HV.out.2.2.2.drewN _).setX 2 _⟩
          exact HV.out.2.1
end Go.Proofs.Qxb6608537aDoor
