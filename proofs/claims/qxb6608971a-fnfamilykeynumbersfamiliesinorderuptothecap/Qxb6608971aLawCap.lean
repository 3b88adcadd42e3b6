import Derived.Test.Qxb6608971aCapBase
import Derived.Deep.CutRange
import Derived.Deep.DeepAppendRoom
namespace Go.Proofs.Qxb6608971a
open Go.RowKit

theorem Try.info9 : (Try.prog.info? 9).map (fun i => (i.zero, i.size, i.bytes)) = some (some (.string ⟨#[]⟩), 1, 16) := by kernel_rfl

def NoneOff (ss : Nat → ByteArray) (len : Nat) (wd : Int) : Prop := ∀ i, i < len → ¬ (ss i = ⟨#[]⟩ ∧ wd = 0)

def NonePre (ss : Nat → ByteArray) (k : Nat) : Prop := ∀ i, i < k → (ss i).toList.isEmpty = false
theorem NonePre.zero (ss : Nat → ByteArray) : NonePre ss 0 := fun i hi => absurd hi (Nat.not_lt_zero i)
theorem NonePre.succ {ss : Nat → ByteArray} {k : Nat} (h : NonePre ss k) (hk : (ss k).toList.isEmpty = false) : NonePre ss (k + 1) := fun i hi => by
  by_cases e : i = k
  · rw [e]; exact hk
  · exact h i (by omega)
theorem NonePre.off {ss : Nat → ByteArray} {len : Nat} {wd : Int} (h : NonePre ss len) : NoneOff ss len wd := fun i hi e => by
  have := h i hi
  rw [e.1, Lib.toList_data] at this
  simp at this

variable {X M m lb B G : Nat} {fs : List Fam} {w wr : World} {wd : Int}

theorem start_inv {w1 w2 : World} {lb : Nat} (hI : Idx X M m [] lb w1) (hX : w.heap.size ≤ X) (hM : w.heap.size ≤ M) (hb : Below w.heap.size w w1) (hown : w2.ownsRow w.heap.size 9 1 (.slice (some ⟨w1.heap.size, 0, none⟩) 0 255) 0 []) (hg : w1.grownBy w2 none) :
    Inv w.heap.size X M m w1.heap.size wd [] w w2 :=
  ⟨⟨lb, hI.keep fun k hk => hg.block k hk (by simp)⟩, hown, fun f hf => by simp at hf, hb.grown hg hb.size (fun k e => by cases e), Nat.le_refl _, hX, hM, hb.size⟩

/-- Ahead of the place j no stem of 'seen' is this one. -/
theorem before_ne {j : Nat} {f : Fam} {s : ByteArray} (hI : Idx X M m fs lb w) (hw : ∀ g ∈ fs, g.wd = wd) (hf : fs[j]? = some f) (his : f.is s wd) : ∀ (i : Nat) (g : Fam), i < j → fs[i]? = some g → (g.stem.toList == s.toList) = false := by
  intro i g hi hg
  refine beq_of_ne fun e => ?_
  have := hI.apart i j g f hg hf (e.trans his.1.symm) ((hw g (List.mem_of_getElem? hg)).trans (hw f (List.mem_of_getElem? hf)).symm)
  omega

theorem none_ne {s : ByteArray} (hw : ∀ g ∈ fs, g.wd = wd) (hno : ∀ g ∈ fs, ¬ g.is s wd) : ∀ (i : Nat) (g : Fam), fs[i]? = some g → (g.stem.toList == s.toList) = false := by
  intro i g hg
  have hm := List.mem_of_getElem? hg
  exact beq_of_ne fun e => hno g hm ⟨e, hw g hm⟩

theorem new_at {j : Nat} {f : Fam} {s : ByteArray} (hno : ∀ g ∈ fs, ¬ g.is s wd) (hf : (fs ++ [f])[j]? = some f) (his : f.is s wd) : j = fs.length := by
  by_cases hj : j < fs.length
  · rw [List.getElem?_append_left hj] at hf
    exact absurd his (hno f (List.mem_of_getElem? hf))
  · have := (List.getElem?_eq_some_iff.1 hf).1
    simp at this
    omega

theorem getAt {fs : List Fam} {i : Nat} (h : i < fs.length) : ∃ g, fs[i]? = some g := ⟨fs[i], List.getElem?_eq_getElem h⟩

set_option maxRecDepth 100000 in
set_option maxHeartbeats 4000000 in
theorem cap_walk (b off len cap : Nat) (ss : Nat → ByteArray) (wd n : Int) (w : World) (hlen : len ≤ maxLen) (hss : Strs w b off len ss) :
    Calls Try.prog 4 #[.slice (some ⟨b, off, none⟩) len cap, .int .i64 wd, .int .u64 n] w fun e w' => e = .returned (.bool true) ∧ Below w.heap.size w w' := by
  have HB := hideIt (bytesS_any b off len cap ss (.int .i64 wd) (.int .u64 n) w hlen hss)
  have HA := hideIt (addS_any b off len cap ss w hlen hss)
  have HSS := hideIt hss
  unfold maxLen at hlen
  obtain ⟨i0, hi, hz0, hz1, hz2⟩ := info_parts Try.info9
  clear hss
  go_enter Try.func4, Try.ntmps4
  go_upto_if 36 with (first
    | (go_at_call 11; refine HB.out.mono ?_; rintro e w' ⟨⟨r, rfl⟩, hw⟩; obtain rfl := hw.symm; clear hw)
    | (go_at_call 12; refine HA.out.mono ?_; rintro e w' ⟨⟨t, rfl⟩, hw⟩; obtain rfl := hw.symm; clear hw))
  · go_ret
    exact ⟨rfl, Below.refl _ _⟩
  · go_ret
    exact ⟨rfl, Below.refl _ _⟩
  · go_ret
    exact ⟨rfl, Below.refl _ _⟩
  · go_ret
    exact ⟨rfl, Below.refl _ _⟩
  · have hl1 : -1 ≤ wd := by assumption
    have hu1 : wd ≤ 255 := by omega
    have hl2 : len ≤ 65536 := by omega
    clear HB HA
    go_cut [] from 18 (fun wx => wx = w ∧ NoneOff ss len wd)
    case first =>
      by_cases h0 : wd = 0
      · have hz : (wd == 0) = true := by simpa using h0
        have H0 := hideIt h0
        clear h0
        go_wp2
        go_loop [7] (fun i => ∃ k : Nat, k ≤ len ∧ i = .int .i64 k ∧ NonePre ss k) (fun i => len - (intOf i).toNat)
        case atStart => exact ⟨0, Nat.zero_le _, rfl, NonePre.zero ss⟩
        case round =>
          obtain ⟨k, hk, rfl, hp⟩ := hrel
          by_cases hlt : k < len
          · obtain ⟨hc, hsz⟩ := HSS.out k hlt
            unfold maxLen at hsz
            cases he : (ss k).toList.isEmpty with
            | true =>
              go_wp2
              go_ret
              exact ⟨rfl, Below.refl _ _⟩
            | false =>
              go_wp2
              go_round
              case rel => exact ⟨k + 1, by omega, by go_num, hp.succ he⟩
              case measure => simp [intOf]; omega
          · have HP := hideIt hp
            clear hp
            go_wp2
            go_meet
            exact ⟨rfl, (show NonePre ss len from (show k = len by omega) ▸ HP.out).off⟩
      · have hz : (wd == 0) = false := by simpa using h0
        have H0 := hideIt h0
        clear h0
        go_wp2
        go_meet
        exact ⟨rfl, fun i _ e => H0.out e.2⟩
    case rest =>
      obtain ⟨hw, hoff⟩ := hcut
      obtain rfl := hw.symm
      clear hw
      have HO := hideIt hoff
      clear hoff
      go_wp2_with fail
      refine (newidx_any _).mono ?_
      rintro e w1 ⟨X, M, m, rfl, hX, hM, hI, hb⟩
      have hs1 := hb.size
      have HI := hideIt hI
      have HBel := hideIt hb
      clear hI hb
      go_wp2_with (at_make; refine wpList_make_own _ rfl _ _ 29 rfl w.heap.size 9 i0 (.string ⟨#[]⟩) 1 Try.underlying29 hi hz0 hz1 .i64 .i64 255 255 rfl rfl rfl (by rw [hz2]; decide) (by unfold maxLen; decide) (by simpa using hs1) ?_; intro w2 hown hgrow)
      have HV := hideIt (start_inv (wd := wd) HI.out hX hM HBel.out hown hgrow)
      clear hown hgrow HI HBel
      obtain ⟨G, hG⟩ : ∃ G, G = w1.heap.size := ⟨_, rfl⟩
      rw [← hG] at HV ⊢
      clear hG
      go_loopw [9, 10] (fun v i wr => ∃ (k : Nat) (fs : List Fam), k ≤ len ∧ i = .int .i64 k ∧ v = .slice (some ⟨G, 0, none⟩) fs.length 255 ∧ Inv w.heap.size X M m G wd fs w wr) (fun _ i _ => len - (intOf i).toNat)
      case atStart => exact ⟨0, [], Nat.zero_le _, rfl, rfl, HV.out⟩
      case round =>
        obtain ⟨k, fs, hk, rfl, rfl, hinv⟩ := hrel
        have HN := hideIt hinv
        clear hinv HV
        by_cases hlt : k < len
        · obtain ⟨hc0, hsz⟩ := HSS.out k hlt
          have hcr : wr.cell? ⟨b, off + k, none⟩ = some (.string (ss k)) := (HN.out.bel.cell (p := ⟨b, off + k, none⟩) (block_lt_of_cell hc0)).trans hc0
          clear hc0
          go_wp2_with fail
          obtain ⟨lb, hI⟩ := HN.out.idx
          have hfew := hI.few
          refine (zz_any hI (ss k) wd n true hsz hl1 hu1 (HO.out k hlt)).mono ?_
          clear hI hcr
          rintro e w3 ⟨fs', lb', hI', hK, ⟨j, f, hf, his, ha, rfl, hfs | ⟨_, hl, hno, rfl⟩⟩ | ⟨rfl, hfs, ha | ⟨ha, hno, h255⟩⟩⟩
          · obtain rfl := hfs.symm
            clear hfs
            have hjl : j < fs.length := (List.getElem?_eq_some_iff.1 hf).1
            have HC := hideIt (fun (i : Nat) (g : Fam) (hg : fs[i]? = some g) => HN.out.cellAt hK hg)
            have HE := hideIt (before_ne hI' HN.out.wds hf his)
            have HF := hideIt (HN.out.cellAt hK hf)
            have hst : (f.stem.toList == (ss k).toList) = true := beq_of_eq his.1
            have hjn : ((j : Int) == (fs.length : Int)) = false := by simp; omega
            have HV' := hideIt (HN.out.same hI' hK)
            clear HN hI' hK hf his
            go_wp2_with (go_at_call 10; refine (fargs_any _ _ _ _ (by assumption)).mono ?_; rintro e w' ⟨rfl, hw⟩; obtain rfl := hw.symm; clear hw)
            go_loop [17] (fun t => ∃ q : Nat, q ≤ j ∧ t = .int .i64 q) (fun t => j - (intOf t).toNat)
            case atStart => exact ⟨0, Nat.zero_le _, rfl⟩
            case round =>
              obtain ⟨q, hq, rfl⟩ := hrel
              by_cases hqj : q < j
              · obtain ⟨g, hg⟩ := getAt (fs := fs) (i := q) (by omega)
                have hcell := HC.out q g hg
                have hcmp := HE.out q g hqj hg
                clear hg
                go_wp2
                go_round
                case rel => exact ⟨q + 1, by omega, by go_num⟩
                case measure => simp [intOf]; omega
              · obtain rfl : q = j := by omega
                have hcell := HF.out
                go_wp2
                go_roundw
                case rel => exact ⟨k + 1, fs, by omega, by go_num, rfl, HV'.out⟩
                case measure => simp [intOf]; omega
          · have HC := hideIt (fun (i : Nat) (g : Fam) (hg : fs[i]? = some g) => HN.out.cellAt hK hg)
            have HE := hideIt (none_ne HN.out.wds hno)
            have HJ := hideIt (new_at hno hf his)
            have HOWN := hideIt (HN.out.ownAt hK)
            have h255 : ((fs.length : Int) == 255) = false := by simp; omega
            have hjf : j = fs.length := HJ.out
            subst hjf
            have hsf : f.stem = ss k := his.1
            have HSF := hideIt hsf
            have HPU := hideIt (fun (w2 : World) (o : Obj) h1 h2 => HN.out.push his.2 hI' hK (w2 := w2) (o := o) h1 h2)
            clear HN hI' hK hf his hsf hno HJ
            go_wp2_with (go_at_call 10; refine (fargs_any _ _ _ _ (by assumption)).mono ?_; rintro e w' ⟨rfl, hw⟩; obtain rfl := hw.symm; clear hw)
            go_loop [17] (fun t => ∃ q : Nat, q ≤ fs.length ∧ t = .int .i64 q) (fun t => fs.length - (intOf t).toNat)
            case atStart => exact ⟨0, Nat.zero_le _, rfl⟩
            case round =>
              obtain ⟨q, hq, rfl⟩ := hrel
              by_cases hqj : q < fs.length
              · obtain ⟨g, hg⟩ := getAt (fs := fs) (i := q) hqj
                have hcell := HC.out q g hg
                have hcmp := HE.out q g hg
                clear hg
                go_wp2
                go_round
                case rel => exact ⟨q + 1, by omega, by go_num⟩
                case measure => simp [intOf]; omega
              · obtain rfl : q = fs.length := by omega
                go_wp2_with (at_builtin; refine wpList_append_own_spare _ rfl _ _ 29 rfl w.heap.size 9 i0 1 Try.underlying29 hi hz1 G fs.length 255 _ rfl (HOWN.out.alloc _) ⟨w3.heap.size, 0, none⟩ 1 1 [.string (ss k)] rfl rfl (cell_one_new _ _ _) (by intro u hu; simp at hu; subst hu; rfl) (by omega) ?_; intro w4 hown4 hgrow4)
                go_roundw
                case rel => exact ⟨k + 1, fs ++ [f], by omega, by go_num, by rw [List.length_append]; rfl, HPU.out w4 _ (by rw [HSF.out]; exact hown4) hgrow4⟩
                case measure => simp [intOf]; omega
          · obtain rfl := hfs.symm
            clear hfs
            have HV' := hideIt (HN.out.same hI' hK)
            clear HN hI' hK
            go_wp2_with (go_at_call 10; refine (fargs_any _ _ _ _ (by assumption)).mono ?_; rintro e w' ⟨rfl, hw⟩; obtain rfl := hw.symm; clear hw)
            go_roundw
            case rel => exact ⟨k + 1, _, by omega, by go_num, rfl, HV'.out⟩
            case measure => simp [intOf]; omega
          · obtain rfl := hfs.symm
            clear hfs
            have h255 : fs.length = 255 := by rcases h255 with h | h; cases h; exact h
            have HC := hideIt (fun (i : Nat) (g : Fam) (hg : fs[i]? = some g) => HN.out.cellAt hK hg)
            have HE := hideIt (none_ne HN.out.wds hno)
            have HV' := hideIt (HN.out.same hI' hK)
            have h255b : ((fs.length : Int) == 255) = true := by rw [h255]; rfl
            clear HN hI' hK hno h255
            go_wp2_with (go_at_call 10; refine (fargs_any _ _ _ _ (by assumption)).mono ?_; rintro e w' ⟨rfl, hw⟩; obtain rfl := hw.symm; clear hw)
            go_loop [17] (fun t => ∃ q : Nat, q ≤ fs.length ∧ t = .int .i64 q) (fun t => fs.length - (intOf t).toNat)
            case atStart => exact ⟨0, Nat.zero_le _, rfl⟩
            case round =>
              obtain ⟨q, hq, rfl⟩ := hrel
              by_cases hqj : q < fs.length
              · obtain ⟨g, hg⟩ := getAt (fs := fs) (i := q) hqj
                have hcell := HC.out q g hg
                have hcmp := HE.out q g hg
                clear hg
                go_wp2
                go_round
                case rel => exact ⟨q + 1, by omega, by go_num⟩
                case measure => simp [intOf]; omega
              · obtain rfl : q = fs.length := by omega
                go_wp2
                go_roundw
                case rel => exact ⟨k + 1, fs, by omega, by go_num, rfl, HV'.out⟩
                case measure => simp [intOf]; omega
        · go_wp2
          go_ret
          exact ⟨rfl, HN.out.bel⟩
  · go_ret
    exact ⟨rfl, Below.refl _ _⟩

set_option maxRecDepth 100000 in
set_option maxHeartbeats 1000000 in
theorem bytes0_any (a : Option Addr) (cap : Nat) (x y : Value) (w : World) :
    Calls Try.prog 11 #[.slice a 0 cap, x, y] w fun e w' => e = .returned (.bool true) ∧ w' = w := by
  go_enter Try.func11, Try.ntmps11
  go_wp2
  refine wp_loop_rounds 1 ?_
  rw [rounds_succ]
  go_wp2
  go_ret
  exact ⟨rfl, rfl⟩

set_option maxRecDepth 100000 in
set_option maxHeartbeats 1000000 in
theorem add0_any (a : Option Addr) (cap : Nat) (w : World) :
    Calls Try.prog 12 #[.int .i64 0, .slice a 0 cap] w fun e w' => e = .returned (.int .i64 0) ∧ w' = w := by
  go_enter Try.func12, Try.ntmps12
  go_wp2
  refine wp_loop_rounds 1 ?_
  rw [rounds_succ]
  go_wp2
  go_ret
  exact ⟨rfl, rfl⟩

set_option maxRecDepth 100000 in
set_option maxHeartbeats 4000000 in
theorem cap_walk0 (a : Option Addr) (cap : Nat) (wd n : Int) (w : World) :
    Calls Try.prog 4 #[.slice a 0 cap, .int .i64 wd, .int .u64 n] w fun e w' => e = .returned (.bool true) ∧ Below w.heap.size w w' := by
  have HB := hideIt (bytes0_any a cap (.int .i64 wd) (.int .u64 n) w)
  have HA := hideIt (add0_any a cap w)
  obtain ⟨i0, hi, hz0, hz1, hz2⟩ := info_parts Try.info9
  go_enter Try.func4, Try.ntmps4
  go_upto_if 36 with (first
    | (go_at_call 11; refine HB.out.mono ?_; rintro e w' ⟨rfl, hw⟩; obtain rfl := hw.symm; clear hw)
    | (go_at_call 12; refine HA.out.mono ?_; rintro e w' ⟨rfl, hw⟩; obtain rfl := hw.symm; clear hw))
  · go_ret
    exact ⟨rfl, Below.refl _ _⟩
  · clear HB HA
    go_cut [] from 18 (fun wx => wx = w)
    case first =>
      by_cases h0 : wd = 0
      · have hz : (wd == 0) = true := by simpa using h0
        clear h0
        go_wp2
        refine wp_loop_rounds 1 ?_
        rw [rounds_succ]
        go_wp2
        go_meet
        rfl
      · have hz : (wd == 0) = false := by simpa using h0
        clear h0
        go_wp2
        go_meet
        rfl
    case rest =>
      obtain rfl := hcut.symm
      clear hcut
      go_wp2_with fail
      refine (newidx_any _).mono ?_
      rintro e w1 ⟨X, M, m, rfl, hX, hM, hI, hb⟩
      have hs1 := hb.size
      have HBel := hideIt hb
      clear hI hb hX hM
      go_wp2_with (at_make; refine wpList_make_own _ rfl _ _ 29 rfl w.heap.size 9 i0 (.string ⟨#[]⟩) 1 Try.underlying29 hi hz0 hz1 .i64 .i64 255 255 rfl rfl rfl (by rw [hz2]; decide) (by unfold maxLen; decide) (by simpa using hs1) ?_; intro w2 hown hgrow)
      have HV := hideIt (HBel.out.grown hgrow hs1 (fun k e => by cases e))
      clear hown hgrow
      refine wp_loop_rounds 1 ?_
      rw [rounds_succ]
      go_wp2
      go_ret
      exact ⟨rfl, HV.out⟩
  · go_ret
    exact ⟨rfl, Below.refl _ _⟩
end Go.Proofs.Qxb6608971a
