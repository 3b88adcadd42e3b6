import Derived.Test.Qxb6608971aFkey
import Derived.Deep.CutRange
namespace Go.Proofs.Qxb6608971a
open Go.RowKit
variable {X M m lb : Nat} {fs : List Fam} {w : World}

def noTup : Value := .tuple #[.bool false, .string ⟨#[]⟩, .int .i64 0, .int .u64 0, .int .u64 0]

/-- The first id, on an empty index, with add. -/
theorem first_call (h : Idx X M m [] lb w) (stem : ByteArray) (wd n : Int) (hs : stem.size ≤ maxLen) (h0 : -1 ≤ wd) (h1 : wd ≤ 255) (hne : ¬ (stem = ⟨#[]⟩ ∧ wd = 0)) :
    Calls Try.prog 9 #[.pointer (some ⟨X, 0, none⟩), .string stem, .int .i64 wd, .int .u64 n, .bool true] w fun e w' => Kept X M w w' ∧
      ((argsB stem wd n = true ∧ (∃ f lb', f.is stem wd ∧ Idx X M m [f] lb' w') ∧ e = .returned (.tuple #[.bool true, .string stem, .int .i64 wd, .int .u64 n, .int .u64 10000000000000000000])) ∨
       (argsB stem wd n = false ∧ (∃ lb', Idx X M m [] lb' w') ∧ e = .returned (.tuple #[.bool false, .string ⟨#[]⟩, .int .i64 0, .int .u64 0, .int .u64 0]))) := by
  refine (zz_any h stem wd n true hs h0 h1 hne).mono ?_
  rintro e w' ⟨fs', lb', hI, hK, hr⟩
  refine ⟨hK, ?_⟩
  rcases hr with ⟨j, f, hf, his, ha, he, hr⟩ | ⟨he, rfl, hr⟩
  · rcases hr with rfl | ⟨_, _, _, rfl⟩
    · simp at hf
    · have hj : j = 0 := by
        have := (List.getElem?_eq_some_iff.1 hf).1
        simp at this
        omega
      subst hj
      exact Or.inl ⟨ha, ⟨f, lb', his, hI⟩, by rw [he]; rfl⟩
  · rcases hr with ha | ⟨_, _, h | h⟩
    · exact Or.inr ⟨ha, ⟨lb', hI⟩, he⟩
    · cases h
    · cases h

/-- The second id. -/
theorem second_call (h : Idx X M m fs lb w) (hlen : fs.length ≤ 1) (tok : Int) (htok : 10000000000000000000 + (fs.length : Int) * 18014398509481984 = tok) (stem : ByteArray) (wd n : Int) (add : Bool) (hs : stem.size ≤ maxLen) (h0 : -1 ≤ wd) (h1 : wd ≤ 255) (hne : ¬ (stem = ⟨#[]⟩ ∧ wd = 0)) :
    Calls Try.prog 9 #[.pointer (some ⟨X, 0, none⟩), .string stem, .int .i64 wd, .int .u64 n, .bool add] w fun e w' => Kept X M w w' ∧
      ((argsB stem wd n = false ∧ e = .returned (.tuple #[.bool false, .string ⟨#[]⟩, .int .i64 0, .int .u64 0, .int .u64 0])) ∨
       (argsB stem wd n = true ∧ (∃ f ∈ fs, f.is stem wd) ∧ e = .returned (.tuple #[.bool true, .string stem, .int .i64 wd, .int .u64 n, .int .u64 10000000000000000000])) ∨
       (argsB stem wd n = true ∧ (∀ f ∈ fs, ¬ f.is stem wd) ∧ add = true ∧ e = .returned (.tuple #[.bool true, .string stem, .int .i64 wd, .int .u64 n, .int .u64 tok])) ∨
       (argsB stem wd n = true ∧ (∀ f ∈ fs, ¬ f.is stem wd) ∧ add = false ∧ e = .returned (.tuple #[.bool false, .string ⟨#[]⟩, .int .i64 0, .int .u64 0, .int .u64 0]))) := by
  refine (zz_any h stem wd n add hs h0 h1 hne).mono ?_
  rintro e w' ⟨fs', lb', hI, hK, hr⟩
  refine ⟨hK, ?_⟩
  rcases hr with ⟨j, f, hf, his, ha, he, hr⟩ | ⟨he, rfl, hr⟩
  · rcases hr with rfl | ⟨hadd, _, hno, rfl⟩
    · have hj : j = 0 := by
        have := (List.getElem?_eq_some_iff.1 hf).1
        omega
      subst hj
      exact Or.inr (Or.inl ⟨ha, ⟨f, List.mem_of_getElem? hf, his⟩, by rw [he]; rfl⟩)
    · have hj : j = fs.length := by
        by_cases hj : j < fs.length
        · rw [List.getElem?_append_left hj] at hf
          exact absurd his (hno f (List.mem_of_getElem? hf))
        · have := (List.getElem?_eq_some_iff.1 hf).1
          simp at this
          omega
      subst hj
      exact Or.inr (Or.inr (Or.inl ⟨ha, hno, hadd, by rw [he, htok]⟩))
  · rcases hr with ha | ⟨ha, hno, h | h⟩
    · exact Or.inl ⟨ha, he⟩
    · exact Or.inr (Or.inr (Or.inr ⟨ha, hno, h, he⟩))
    · omega

theorem same_of {f : Fam} {a b : ByteArray} {x y : Int} (h : f.is a x) (k : ∃ g ∈ [f], g.is b y) : a = b ∧ x = y := by
  obtain ⟨g, hg, k1, k2⟩ := k
  simp only [List.mem_singleton] at hg
  subst hg
  exact ⟨h.1.symm.trans k1, h.2.symm.trans k2⟩

theorem differ_of {f : Fam} {a b : ByteArray} {x y : Int} (h : f.is a x) (k : ∀ g ∈ [f], ¬ g.is b y) : (a.toList == b.toList) = false ∨ ((a.toList == b.toList) = true ∧ (x == y) = false) := by
  have k1 := k f (by simp)
  by_cases e : a = b
  · refine Or.inr ⟨beq_of_eq e, ?_⟩
    simpa using fun e2 => k1 ⟨h.1.trans e, h.2.trans e2⟩
  · exact Or.inl (beq_of_ne e)

theorem off_empty {s : ByteArray} {a : Int} (h : ¬ (s = ⟨#[]⟩ ∧ a = 0)) : s.toList.isEmpty = false ∨ (s.toList.isEmpty = true ∧ (a == 0) = false) := by
  cases he : s.toList.isEmpty with
  | false => exact Or.inl rfl
  | true =>
    refine Or.inr ⟨rfl, ?_⟩
    have h1 : s = ⟨#[]⟩ := by
      rw [Lib.toList_data] at he
      exact ByteArray.ext (Array.toList_inj.1 (by simpa using he))
    simpa using fun e => h ⟨h1, e⟩

set_option maxRecDepth 100000 in
set_option maxHeartbeats 1000000 in
theorem main_walk (a0 : ByteArray) (a1 : Int) (a2 : Int) (a3 : ByteArray) (a4 : Int) (a5 : Int) (a6 : Bool) (w : World) (hc : capB a0 a3 = true) (w0 : a0.size ≤ 65536) (w3 : a3.size ≤ 65536)
    (l1 : -1 ≤ a1) (u1 : a1 ≤ 255) (l4 : -1 ≤ a4) (u4 : a4 ≤ 255) (hne1 : ¬ (a0 = ⟨#[]⟩ ∧ a1 = 0)) (hne2 : ¬ (a3 = ⟨#[]⟩ ∧ a4 = 0)) :
    Calls Try.prog 3 #[.string a0, .int .i64 a1, .int .u64 a2, .string a3, .int .i64 a4, .int .u64 a5, .bool a6] w fun e w' => e = .returned (.bool true) ∧ Below w.heap.size w w' := by
  have H1 := hideIt hne1
  have H2 := hideIt hne2
  clear hne1 hne2
  have m0 : a0.size ≤ maxLen := by unfold maxLen; omega
  have m3 : a3.size ≤ maxLen := by unfold maxLen; omega
  have HB := hideIt (bytes2_any a0 (.int .i64 a1) (.int .u64 a2) a3 (.int .i64 a4) (.int .u64 a5) (.bool a6) w m0 m3)
  go_enter Try.func3, Try.ntmps3
  go_upto_region 7 with (go_at_call 7; refine HB.out.mono ?_; rintro e w' ⟨rfl, hw⟩; obtain rfl := hw.symm; clear hw)
  go_cut [72] from 28 (fun s72 wx => s72 = .bool false ∧ wx = w)
  case first =>
    rcases off_empty H1.out with e1 | ⟨e1, z1⟩ <;> rcases off_empty H2.out with e2 | ⟨e2, z2⟩
    all_goals go_wp2
    all_goals go_meet
    all_goals exact ⟨rfl, rfl⟩
  case rest =>
    obtain ⟨rfl, hw⟩ := hcut
    obtain rfl := hw.symm
    clear hw HB
    go_wp2_with fail
    refine (newidx_any _).mono ?_
    rintro e w1 ⟨X, M, m, rfl, hX, hM, hI, hb⟩
    have HI := hideIt hI
    clear hI
    go_wp2_with fail
    refine (first_call HI.out a0 a1 a2 m0 l1 u1 H1.out).mono ?_
    rintro e w2 ⟨hK, ⟨ha, ⟨f, lb', his, hI2⟩, rfl⟩ | ⟨ha, ⟨lb', hI2⟩, rfl⟩⟩
    · have HI2 := hideIt hI2
      have HS := hideIt his
      have H12 : Hid (Below w.heap.size w w2) := hb.trans (hK.below hb.size hX hM)
      have hsz : w.heap.size ≤ w2.heap.size := H12.size
      clear hI2 his hb hK HI
      go_wp2_with fail
      refine (second_call HI2.out (by simp) 10018014398509481984 (by simp) a3 a4 a5 a6 m3 l4 u4 H2.out).mono ?_
      rintro e w3 ⟨hK3, ⟨hb2, rfl⟩ | ⟨hb2, hex, rfl⟩ | ⟨hb2, hno, rfl, rfl⟩ | ⟨hb2, hno, rfl, rfl⟩⟩
      · have H13 : Hid (Below w.heap.size w w3) := H12.out.trans (hK3.below hsz hX hM)
        clear hK3 HI2 H12 hsz hX hM
        go_wp2_with (go_at_call 10; refine (fargs_any _ _ _ _ (by assumption)).mono ?_; rintro e w' ⟨rfl, hw⟩; obtain rfl := hw.symm; clear hw)
        go_ret
        exact ⟨rfl, H13.out⟩
      · have H13 : Hid (Below w.heap.size w w3) := H12.out.trans (hK3.below hsz hX hM)
        clear hK3 HI2 H12 hsz hX hM
        have hsm := same_of HS.out hex
        have b1 := beq_of_eq hsm.1
        have b2 : (a1 == a4) = true := by simpa using hsm.2
        clear hex hsm
        go_wp2_with (go_at_call 10; refine (fargs_any _ _ _ _ (by assumption)).mono ?_; rintro e w' ⟨rfl, hw⟩; obtain rfl := hw.symm; clear hw)
        go_ret
        exact ⟨rfl, H13.out⟩
      · have H13 : Hid (Below w.heap.size w w3) := H12.out.trans (hK3.below hsz hX hM)
        clear hK3 HI2 H12 hsz hX hM
        have hdf := differ_of HS.out hno
        clear hno
        rcases hdf with b1 | ⟨b1, b2⟩
        all_goals
          go_wp2_with (go_at_call 10; refine (fargs_any _ _ _ _ (by assumption)).mono ?_; rintro e w' ⟨rfl, hw⟩; obtain rfl := hw.symm; clear hw)
          go_ret
          exact ⟨rfl, H13.out⟩
      · have H13 : Hid (Below w.heap.size w w3) := H12.out.trans (hK3.below hsz hX hM)
        clear hK3 HI2 H12 hsz hX hM
        have hdf := differ_of HS.out hno
        clear hno
        rcases hdf with b1 | ⟨b1, b2⟩
        all_goals
          go_wp2_with (go_at_call 10; refine (fargs_any _ _ _ _ (by assumption)).mono ?_; rintro e w' ⟨rfl, hw⟩; obtain rfl := hw.symm; clear hw)
          go_ret
          exact ⟨rfl, H13.out⟩
    · have HI2 := hideIt hI2
      have H12 : Hid (Below w.heap.size w w2) := hb.trans (hK.below hb.size hX hM)
      have hsz : w.heap.size ≤ w2.heap.size := H12.size
      clear hI2 hb hK HI
      go_wp2_with fail
      refine (second_call HI2.out (by simp) 10000000000000000000 (by simp) a3 a4 a5 a6 m3 l4 u4 H2.out).mono ?_
      rintro e w3 ⟨hK3, ⟨hb2, rfl⟩ | ⟨hb2, hex, rfl⟩ | ⟨hb2, hno, rfl, rfl⟩ | ⟨hb2, hno, rfl, rfl⟩⟩
      · have H13 : Hid (Below w.heap.size w w3) := H12.out.trans (hK3.below hsz hX hM)
        clear hK3 HI2 H12 hsz hX hM
        go_wp2_with (go_at_call 10; refine (fargs_any _ _ _ _ (by assumption)).mono ?_; rintro e w' ⟨rfl, hw⟩; obtain rfl := hw.symm; clear hw)
        go_ret
        exact ⟨rfl, H13.out⟩
      · exact absurd hex (by simp)
      · have H13 : Hid (Below w.heap.size w w3) := H12.out.trans (hK3.below hsz hX hM)
        clear hK3 HI2 H12 hsz hX hM
        clear hno
        go_wp2_with (go_at_call 10; refine (fargs_any _ _ _ _ (by assumption)).mono ?_; rintro e w' ⟨rfl, hw⟩; obtain rfl := hw.symm; clear hw)
        go_ret
        exact ⟨rfl, H13.out⟩
      · have H13 : Hid (Below w.heap.size w w3) := H12.out.trans (hK3.below hsz hX hM)
        clear hK3 HI2 H12 hsz hX hM
        clear hno
        go_wp2_with (go_at_call 10; refine (fargs_any _ _ _ _ (by assumption)).mono ?_; rintro e w' ⟨rfl, hw⟩; obtain rfl := hw.symm; clear hw)
        go_ret
        exact ⟨rfl, H13.out⟩
end Go.Proofs.Qxb6608971a
