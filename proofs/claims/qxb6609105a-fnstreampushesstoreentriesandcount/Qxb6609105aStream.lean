import Derived.Test.Qxb6609105aEntry
import Derived.Deep.RegionHeld3
namespace Go.Proofs.Qxb6609105a
open Go.RowKit
set_option linter.unusedVariables false

/-- One entry of the script. -/
def entOf (ta : Nat → Option Addr) (tl tc : Nat → Nat) (ord : ByteArray) (sl : Nat) (zs : Nat → Int) (nl : Nat) (ss : Nat → ByteArray) (il : Nat) (is : Nat → Int) (rl : Nat) (rs : Nat → Bool) (j : Nat) : Array Value :=
  entCells (.slice (ta j) (tl j) (tc j)) ord (numAt sl zs j) (strAt nl ss j) (numAt il is j) (boolAt rl rs j)

/-- WHAT HOLDS AT THE HEAD OF EACH PUSH. -/
def LInv (w2 : World) (X : Nat) (name : ByteArray) (inc base del : Int) (holder : ByteArray) (tl : Nat → Nat) (q : Nat → Int) (E : Nat → Array Value) (k : Nat) (ga : Option Addr) (gc : Nat) (wr : World) : Prop :=
  wr.heap[X]? = some (.cells (stCells name inc base (.slice ga k gc) (sumT tl k) (turnsT q k) del holder) 95 (0, 0)) ∧ wr.ownsRow (X + 1) 46 10 (.slice ga k gc) k (entsL (fun j => (E j).toList) k) ∧ Below X w2 wr

theorem LInv.start (w2 : World) (name : ByteArray) (inc base del : Int) (holder : ByteArray) (tl : Nat → Nat) (q : Nat → Int) (E : Nat → Array Value) : LInv w2 w2.heap.size name inc base del holder tl q E 0 none 0 (w2.alloc (.cells (stCells name inc base (.slice none 0 0) 0 0 del holder) 95)) :=
  ⟨heap_alloc_new _ _, World.ownsRow_nil _ _ _ _, (Below.refl _ w2).alloc (Nat.le_refl _) _⟩

theorem LInv.next {w2 wr w' : World} {X : Nat} {name : ByteArray} {inc base del : Int} {holder : ByteArray} {tl : Nat → Nat} {q : Nat → Int} {E : Nat → Array Value} {k : Nat} {ga : Option Addr} {gc g gc' : Nat} (h : LInv w2 X name inc base del holder tl q E k ga gc wr) {w16 : World} (hb : Below wr.heap.size wr w16)
    (h1 : w'.heap[X]? = some (.cells (stCells name inc base (.slice (some ⟨g, 0, none⟩) (k + 1) gc') (sumT tl k + tl k) (turnsT q k + turnOf (q k)) del holder) 95 (0, 0))) (h2 : w'.ownsRow (X + 1) 46 10 (.slice (some ⟨g, 0, none⟩) (k + 1) gc') (k + 1) (entsL (fun j => (E j).toList) k ++ (E k).toList)) (h3 : Below X w16 w') :
    LInv w2 X name inc base del holder tl q E (k + 1) (some ⟨g, 0, none⟩) gc' w' := by
  have hX : X < wr.heap.size := (Array.getElem?_eq_some_iff.1 h.1).1
  exact ⟨h1, h2, h.2.2.trans ((hb.mono (Nat.le_of_lt hX)).trans h3)⟩

theorem own_up {w w' : World} {B n : Nat} {v : Value} {xs : List Value} (h : w.ownsRow B 46 10 v n xs) (hb : Below w.heap.size w w') : w'.ownsRow B 46 10 v n xs := by
  obtain ⟨h1, h2⟩ := h
  refine ⟨h1, ?_⟩
  rcases h2 with h | ⟨g', c, cur, hv, hB, hh, hr⟩
  · exact Or.inl h
  · exact Or.inr ⟨g', c, cur, hv, hB, (hb.block g' (Array.getElem?_eq_some_iff.1 hh).1).trans hh, hr⟩

/-- THE PUSH AT ITS PLACE IN THE LOOP. -/
theorem push_at {w2 wr w16 : World} {X : Nat} {name : ByteArray} {inc base del : Int} {holder : ByteArray} {ta : Nat → Option Addr} {tl tc : Nat → Nat} {ord : ByteArray} {sl : Nat} {zs : Nat → Int} {nl : Nat} {ss : Nat → ByteArray} {il : Nat} {is : Nat → Int} {rl : Nat} {rs : Nat → Bool} {k : Nat} {ga : Option Addr} {gc : Nat}
    (h : LInv w2 X name inc base del holder tl (numAt sl zs) (entOf ta tl tc ord sl zs nl ss il is rl rs) k ga gc wr) (hb : Below wr.heap.size wr w16) (hk : k ≤ 16384) (hb0 : 0 ≤ sumT tl k) (hb1 : sumT tl k ≤ 1099511627776) (ht0 : 0 ≤ turnsT (numAt sl zs) k) (ht1 : turnsT (numAt sl zs) k ≤ 1099511627776) (htn : tl k ≤ 1048576) :
    Calls Try.prog 15 #[.pointer (some ⟨X, 0, none⟩), .agg (entCells (.slice (ta k) (tl k) (tc k)) ord (numAt sl zs k) (strAt nl ss k) (numAt il is k) (boolAt rl rs k))] w16 fun e w' => e = .returned (.tuple #[]) ∧ ∃ g gc', LInv w2 X name inc base del holder tl (numAt sl zs) (entOf ta tl tc ord sl zs nl ss il is rl rs) (k + 1) (some ⟨g, 0, none⟩) gc' w' := by
  have hX : X < wr.heap.size := (Array.getElem?_eq_some_iff.1 h.1).1
  refine (zzpush_any X name inc base ga gc (sumT tl k) (turnsT (numAt sl zs) k) del holder k (entsL (fun j => (entOf ta tl tc ord sl zs nl ss il is rl rs j).toList) k) (ta k) (tl k) (tc k) ord (numAt sl zs k) (strAt nl ss k) (numAt il is k) (boolAt rl rs k) w16 ((hb.block X hX).trans h.1) (own_up h.2.1 hb) hk hb0 hb1 ht0 ht1 htn).mono ?_
  rintro e w' ⟨rfl, g, gc', q1, q2, q3⟩
  exact ⟨rfl, g, gc', LInv.next h hb q1 q2 q3⟩

/-- THE ENTRY AT ITS PLACE IN THE LAST LOOP. -/
theorem entry_at {w2 wr wx : World} {X : Nat} {name : ByteArray} {inc base del : Int} {holder : ByteArray} {ta : Nat → Option Addr} {tl tc : Nat → Nat} {ord : ByteArray} {sl : Nat} {zs : Nat → Int} {nl : Nat} {ss : Nat → ByteArray} {il : Nat} {is : Nat → Int} {rl : Nat} {rs : Nat → Bool} {n : Nat} {ga : Option Addr} {gc : Nat} {k : Nat}
    (h : LInv w2 X name inc base del holder tl (numAt sl zs) (entOf ta tl tc ord sl zs nl ss il is rl rs) n ga gc wr) (hb : Below wr.heap.size wr wx) (hk : k < n) (hn : n ≤ 16384) :
    Calls Try.prog 21 #[.pointer (some ⟨X, 0, none⟩), .int .i64 k] wx fun e w' => e = .returned (.agg (entCells (.slice (ta k) (tl k) (tc k)) ord (numAt sl zs k) (strAt nl ss k) (numAt il is k) (boolAt rl rs k))) ∧ Below wx.heap.size wx w' := by
  have hX : X < wr.heap.size := (Array.getElem?_eq_some_iff.1 h.1).1
  have hs := hb.size
  have hga : ∃ g, ga = some ⟨g, 0, none⟩ := by
    rcases h.2.1.2 with ⟨_, h0⟩ | ⟨g, cap, _, hv, _⟩
    · omega
    · cases hv; exact ⟨g, rfl⟩
  obtain ⟨g, rfl⟩ := hga
  have hg : g < wr.heap.size := (own_cell h.2.1 (p := 0) (by omega)).2
  refine stentry_any X g n gc k wx ((hb.cell (p := ⟨X, 3, none⟩) hX).trans (cell_of_row wr X 3 _ _ _ h.1)) (by omega) (by omega) hk hn (ta k) (tl k) (tc k) ord (numAt sl zs k) (strAt nl ss k) (numAt il is k) (boolAt rl rs k) (fun r hr => ?_)
  refine (hb.cell (p := ⟨g, k * 10 + r, none⟩) hg).trans ((own_cell h.2.1 (p := k * 10 + r) (by omega)).1.trans ((entsL_at (fun i => rfl) n k r hk hr).trans ?_))
  exact Array.getElem?_toList ..

theorem drewN_below (w : World) (n : Nat) : Below w.heap.size w (w.drewN n) := ⟨rfl, rfl, rfl, Nat.le_refl _, fun _ _ => rfl⟩
theorem below_on {a b c : World} (h : Below a.heap.size a b) (k : Below b.heap.size b c) : Below a.heap.size a c := h.trans (k.mono h.size)

set_option maxRecDepth 100000 in
set_option maxHeartbeats 8000000 in
theorem stream_walk (name : ByteArray) (inc base del : Int) (holder ord : ByteArray) (a : Option Addr) (len cap : Nat) (tl : Nat → Nat) (bs : Nat → Nat → Int) (sa : Option Addr) (sl sc : Nat) (zs : Nat → Int) (na : Option Addr) (nl nc : Nat) (ss : Nat → ByteArray) (ia : Option Addr) (il ic : Nat) (is : Nat → Int) (ra : Option Addr) (rl rc : Nat) (rs : Nat → Bool)
    (w : World) (h1 : name.size ≤ maxLen) (h2 : holder.size ≤ maxLen) (h3 : ord.size ≤ maxLen) (hl : len ≤ maxLen) (hsl : sl ≤ maxLen) (hnl : nl ≤ maxLen) (hil : il ≤ maxLen) (hrl : rl ≤ maxLen) (htl : ∀ i, i < len → tl i ≤ maxLen)
    (hT : Lists 0 0 w a len tl bs) (hS : NumsF w sa sl zs) (hN : StrsF w na nl ss) (hI : NumsF w ia il is) (hR : BoolsF w ra rl rs) :
    Calls Try.prog 5 #[.string name, .int .u64 inc, .int .u64 base, .int .u64 del, .string holder, .string ord, .slice a len cap, .slice sa sl sc, .slice na nl nc, .slice ia il ic, .slice ra rl rc] w fun e w' => e = .returned (.bool true) ∧ Below w.heap.size w w' := by
  have HB := hideIt (bytesT_any name (.int .u64 inc) (.int .u64 base) (.int .u64 del) holder ord a len cap tl bs sa sl sc na nl nc ss ia il ic ra rl rc w h1 h2 h3 hl hsl hnl hil hrl htl hT hN)
  have HT := hideIt hT
  have HS := hideIt hS
  have HN := hideIt hN
  have HI := hideIt hI
  have HR := hideIt hR
  clear hT hS hN hI hR htl
  unfold maxLen at h1 h2 h3 hl hsl hnl hil hrl
  go_enter Try.func5, Try.ntmps5
  go_wp2_with (go_at_call 11; refine HB.out.mono ?_; rintro e w' ⟨⟨r, rfl, hr⟩, hw⟩; obtain rfl := hw.symm; have HRR := hideIt hr; clear hw hr)
  all_goals first | (go_ret; exact ⟨rfl, Below.refl _ _⟩) | skip
  have hall : AllLe tl len := HRR.out (by simpa using ‹(!r) = false›)
  have HAll := hideIt hall
  have hl' : len ≤ 16384 := by omega
  have hsl' : sl ≤ 16384 := by omega
  have hnl' : nl ≤ 16384 := by omega
  have hil' : il ≤ 16384 := by omega
  have hrl' : rl ≤ 65536 := by omega
  clear hall HRR HB
  go_loop [23, 24] (fun z i => ∃ (k : Nat) (q : Int), k ≤ len ∧ i = .int .i64 k ∧ z = .int .i64 q) (fun _ i => len - (intOf i).toNat)
  case atStart => exact ⟨0, _, Nat.zero_le _, rfl, rfl⟩
  case round =>
    obtain ⟨k, q, hk, rfl, rfl⟩ := hrel
    by_cases hlt : k < len
    · rcases HT.out with h0 | ⟨b', off, rfl, _, hss⟩
      · omega
      · obtain ⟨ta, tc, hc, _⟩ := hss k hlt
        have hsz := HAll.out k hlt
        clear hss HT HS HN HI HR HAll
        go_wp2
        all_goals first | (go_ret; exact ⟨rfl, Below.refl _ _⟩) | skip
        go_round
        case rel => exact ⟨k + 1, _, by omega, by go_num, rfl⟩
        case measure => simp [intOf]; omega
    · go_wp2
      go_loop [23, 25] (fun z i => ∃ (k : Nat) (q : Int), k ≤ nl ∧ i = .int .i64 k ∧ z = .int .i64 q) (fun _ i => nl - (intOf i).toNat)
      case atStart => exact ⟨0, _, Nat.zero_le _, rfl, rfl⟩
      case round =>
        obtain ⟨k', q', hk', rfl, rfl⟩ := hrel
        by_cases hlt' : k' < nl
        · rcases HN.out with h0 | ⟨b', off, rfl, hss⟩
          · omega
          · obtain ⟨hc, hsz⟩ := hss k' hlt'
            unfold maxLen at hsz
            clear hss HT HS HN HI HR HAll
            go_wp2
            all_goals first | (go_ret; exact ⟨rfl, Below.refl _ _⟩) | skip
            go_round
            case rel => exact ⟨k' + 1, _, by omega, by go_num, rfl⟩
            case measure => simp [intOf]; omega
        · -- the main part
          go_upto_region 20 with fail
          go_cut [26] from 48 (fun s26 wx => ∃ aw cw, s26 = .slice aw len cw ∧ Lists w.heap.size w.heap.size wx aw len tl bs ∧ Below w.heap.size w wx)
          case first =>
            go_wp2_with (go_at_call 12; refine (cloneL_any a len cap tl bs w hl' HAll.out HT.out).mono ?_; rintro e w1 ⟨aw, cw, rfl, hW1, hb1⟩; have HX := hideIt (And.intro hW1 hb1); clear hW1 hb1)
            go_meet
            exact ⟨aw, cw, rfl, HX.out.1, HX.out.2⟩
          case rest =>
            obtain ⟨aw, cw, rfl, hW1, hb1⟩ := hcut
            have HT1 := hideIt (HT.out.up hb1)
            have HW1 := hideIt hW1
            have HB1 := hideIt hb1
            clear hW1 hb1
            go_wp2_with fail
            refine (cloneL_any a len cap tl bs wc hl' HAll.out HT1.out).mono ?_
            rintro e w2 ⟨at_, ct, rfl, hT2, hb2⟩
            have HT2 := hideIt hT2
            have HW2 := hideIt (HW1.out.up hb2)
            have HB2 : Hid (Below w.heap.size w w2) := HB1.out.trans (hb2.mono HB1.out.size)
            clear hT2 hb2 HW1 HB1 HT1 HT
            have HS2 := hideIt (HS.out.up HB2.out)
            have HN2 := hideIt (HN.out.up HB2.out)
            have HI2 := hideIt (HI.out.up HB2.out)
            have HR2 := hideIt (HR.out.up HB2.out)
            clear HS HN HI HR
            obtain ⟨ta, tc, hTf⟩ := HT2.out.fn
            obtain ⟨wa, wcp, hWf⟩ := HW2.out.fn
            have HTF := hideIt hTf
            have HWF := hideIt hWf
            clear hTf hWf HT2 HW2
            go_wp2_with fail
            refine (newstream_any name inc base del holder w2).mono ?_
            rintro e w3 ⟨rfl, rfl⟩
            have hX2 : Hid (w2.heap.size = w2.heap.size) := rfl
            go_wp2
            go_loopw [29, 30, 31] (fun s t i wr => ∃ (k : Nat) (ga : Option Addr) (gc : Nat), k ≤ len ∧ i = .int .i64 k ∧ s = .int .i64 (sumT tl k) ∧ t = .int .i64 (turnsT (numAt sl zs) k) ∧ LInv w2 w2.heap.size name inc base del holder tl (numAt sl zs) (entOf ta tl tc ord sl zs nl ss il is rl rs) k ga gc wr) (fun _ _ i _ => len - (intOf i).toNat)
            case atStart => exact ⟨0, none, 0, Nat.zero_le _, rfl, rfl, rfl, LInv.start w2 name inc base del holder tl _ _⟩
            case round =>
              obtain ⟨j, ga, gc, hj, rfl, rfl, rfl, hinv⟩ := hrel
              have HV := hideIt hinv
              clear hinv
              have hsum := sumT_bd (k := j) (fun i hi => HAll.out i (by omega))
              have htur := turnsT_bd (numAt sl zs) j
              by_cases hjl : j < len
              · rcases HTF.out with h0 | ⟨tb, toff, rfl, _, hTc⟩
                · omega
                rcases HWF.out with h0 | ⟨wb, woff, rfl, _, hWc⟩
                · omega
                have hbel := HV.out.2.2
                have hXr : w2.heap.size < wr.heap.size := (Array.getElem?_eq_some_iff.1 HV.out.1).1
                have cT : wr.cell? ⟨tb, toff + j, none⟩ = some (.slice (ta j) (tl j) (tc j)) := (hbel.cell (p := ⟨tb, toff + j, none⟩) (block_lt_of_cell (hTc j hjl).1)).trans (hTc j hjl).1
                have CT := hideIt (hTc j hjl).1
                have CW := hideIt (hWc j hjl).1
                clear hTc hWc
                have htj : tl j ≤ 1048576 := HAll.out j hjl
                have hji : (j : Int) < (len : Int) := by omega
                have hs0 : 0 ≤ sumT tl j := hsum.1
                have hs1 : sumT tl j ≤ 1099511627776 := by omega
                have ht0 : 0 ≤ turnsT (numAt sl zs) j := htur.1
                have ht1 : turnsT (numAt sl zs) j ≤ 1099511627776 := by omega
                have H14 := hideIt (u64at_any sa sl sc zs j wr hsl' (by omega) (HS2.out.up hbel))
                have H17 := hideIt (strat_any na nl nc ss j wr.drew hnl' (by omega) (HN2.out.up hbel.drew))
                have H14' := hideIt (u64at_any ia il ic is j wr.drew hil' (by omega) (HI2.out.up hbel.drew))
                have H18 := hideIt (boolat_any ra rl rc rs j wr.drew hrl' (by omega) (HR2.out.up hbel.drew))
                have H16 := hideIt (newentry_any (ta j) (tl j) (tc j) ord (numAt sl zs j) (strAt nl ss j) (numAt il is j) (boolAt rl rs j) wr.drew)
                have H15 : Hid (∀ w16, Below wr.heap.size wr w16 → _) := fun w16 hb => push_at (w16 := w16) HV.out hb (by omega) hs0 hs1 ht0 ht1 htj
                clear hbel hsum htur
                go_wp2_with (go_at_call 14; refine H14.out.mono ?_; rintro e w' ⟨rfl, hw⟩; obtain rfl := hw.symm; clear hw)
                clear H14
                go_region_held3 (fun w' => w'.cell? ⟨tb, toff + j, none⟩ = some (.slice (ta j) (tl j) (tc j))) (first | exact cT | assumption | exact (HV'.out.2.2.cell (block_lt_of_cell CT.out)).trans CT.out | exact (HB16.out.cell (block_lt_of_cell cT)).trans cT)
                  ((first
                    | (go_at_call 17; refine H17.out.mono ?_; rintro e w' ⟨rfl, hw⟩; obtain rfl := hw.symm; clear hw)
                    | (go_at_call 14; refine H14'.out.mono ?_; rintro e w' ⟨rfl, hw⟩; obtain rfl := hw.symm; clear hw)
                    | (go_at_call 18; refine H18.out.mono ?_; rintro e w' ⟨rfl, hw⟩; obtain rfl := hw.symm; clear hw)
                    | (go_at_call 15; refine (H15.out _ HB16.out).mono ?_; rintro e w' ⟨rfl, g, gc', hinv'⟩; have HV' := hideIt hinv'; clear hinv')
                    | (go_at_call 16; refine H16.out.mono ?_; rintro e w16 ⟨rfl, hb16⟩; have HB16 : Hid (Below wr.heap.size wr w16) := hideIt ((Below.refl wr.heap.size wr).drew.trans hb16); clear hb16)))
                all_goals
                  have cW : w'.cell? ⟨wb, woff + j, none⟩ = some (.slice (wa j) (tl j) (wcp j)) := (HV'.out.2.2.cell (block_lt_of_cell CW.out)).trans CW.out
                  clear H17 H14' H18 H16 H15 HB16
                  by_cases hq : 0 < numAt sl zs j
                  · have hto : turnOf (numAt sl zs j) = 1 := by unfold turnOf; rw [if_pos hq]
                    go_wp2
                    go_roundw
                    case rel => exact ⟨j + 1, _, _, by omega, by go_num, by simp only [sumT] <;> go_num, by simp only [turnsT, hto] <;> go_num, HV'.out⟩
                    case measure => simp [intOf]; omega
                  · have hto : turnOf (numAt sl zs j) = 0 := by unfold turnOf; rw [if_neg hq]
                    go_wp2
                    go_roundw
                    case rel => exact ⟨j + 1, _, _, by omega, by go_num, by simp only [sumT] <;> go_num, by simp only [turnsT, hto] <;> go_num, HV'.out⟩
                    case measure => simp [intOf]; omega
              · have hjl' : j = len := by omega
                subst hjl'
                obtain ⟨wm, hwm⟩ : ∃ x : World, x = wr := ⟨_, rfl⟩
                subst hwm
                have hbel := HV.out.2.2
                have hXr : w2.heap.size < wm.heap.size := (Array.getElem?_eq_some_iff.1 HV.out.1).1
                have HB3 : Hid (Below w.heap.size w wm) := HB2.out.trans (hbel.mono HB2.out.size)
                have H19 := hideIt (stfields_any w2.heap.size name inc base ga j gc (sumT tl j) (turnsT (numAt sl zs) j) del holder wm HV.out.1)
                have HUP : Hid (∀ wx, Below wm.heap.size wm wx → Below w2.heap.size w2 wx) := fun wx hb => hbel.trans (hb.mono (Nat.le_of_lt hXr))
                clear hbel hsum htur
                go_wp2_with (go_at_call 19; refine H19.out.mono ?_; rintro e w' ⟨rfl, n19, hw⟩; have HC0 : Hid (Below wm.heap.size wm w') := hideIt (by rw [hw]; exact drewN_below wm n19); clear hw)
                clear H19
                go_loopw [41] (fun i wx => ∃ (k4 : Nat), k4 ≤ j ∧ i = .int .i64 k4 ∧ Below wm.heap.size wm wx) (fun i _ => j - (intOf i).toNat)
                case atStart => exact ⟨0, Nat.zero_le _, rfl, HC0.out⟩
                case round =>
                  obtain ⟨k4, hk4, rfl, hb4⟩ := hrel
                  have HC1 := hideIt hb4
                  clear hb4 HC0
                  by_cases hlt4 : k4 < j
                  · rcases HTF.out with h0 | ⟨tb, toff, rfl, _, hTc⟩
                    · omega
                    rcases HWF.out with h0 | ⟨wb, woff, rfl, _, hWc⟩
                    · omega
                    have hki : (k4 : Int) < (j : Int) := by omega
                    have htk : tl k4 ≤ 1048576 := HAll.out k4 hlt4
                    have CW : Hid (∀ wx, Below wm.heap.size wm wx → wx.cell? ⟨wb, woff + k4, none⟩ = some (.slice (wa k4) (tl k4) (wcp k4))) := fun wx hb => ((HUP.out wx hb).cell (p := ⟨wb, woff + k4, none⟩) (block_lt_of_cell (hWc k4 hlt4).1)).trans (hWc k4 hlt4).1
                    have H21 : Hid (∀ wx, Below wm.heap.size wm wx → _) := fun wx hb => entry_at (wx := wx) HV.out hb hlt4 hl'
                    have H20 := hideIt (entfields_any (ta k4) (tl k4) (tc k4) ord (numAt sl zs k4) (strAt nl ss k4) (numAt il is k4) (boolAt rl rs k4))
                    have H22 : Hid (∀ wx, Below wm.heap.size wm wx → _) := fun wx hb => eqB_any (ta k4) (wa k4) (tl k4) (tc k4) (wcp k4) (bs k4) wx htk (((hTc k4 hlt4).2.up (HUP.out wx hb)).low (Nat.zero_le _)) (((hWc k4 hlt4).2.up (HUP.out wx hb)).low (Nat.zero_le _))
                    have H14 : Hid (∀ wx, Below wm.heap.size wm wx → _) := fun wx hb => u64at_any sa sl sc zs k4 wx hsl' (by omega) (HS2.out.up (HUP.out wx hb))
                    have H14' : Hid (∀ wx, Below wm.heap.size wm wx → _) := fun wx hb => u64at_any ia il ic is k4 wx hil' (by omega) (HI2.out.up (HUP.out wx hb))
                    have H17 : Hid (∀ wx, Below wm.heap.size wm wx → _) := fun wx hb => strat_any na nl nc ss k4 wx hnl' (by omega) (HN2.out.up (HUP.out wx hb))
                    have H18 : Hid (∀ wx, Below wm.heap.size wm wx → _) := fun wx hb => boolat_any ra rl rc rs k4 wx hrl' (by omega) (HR2.out.up (HUP.out wx hb))
                    clear hTc hWc HTF HWF HV HS2 HI2 HN2 HR2
                    go_wp2_with (first
                      | (go_at_call 21; refine (H21.out _ HC1.out).mono ?_; rintro e w21 ⟨rfl, hw⟩; have HC2 := hideIt (below_on HC1.out hw); clear hw)
                      | (go_at_call 20; refine (H20.out _).mono ?_; rintro e w20 ⟨rfl, hw⟩; have HC3 := hideIt (below_on HC2.out hw); have cw3 := CW.out _ HC3.out; clear hw)
                      | (go_at_call 22; refine (H22.out _ HC3.out).mono ?_; rintro e w22 ⟨rfl, n22, hw⟩; have HC4 : Hid (Below wm.heap.size wm w22) := hideIt (by rw [hw]; exact below_on HC3.out (drewN_below _ n22)); clear hw)
                      | (go_at_call_of 14 (Value.slice sa sl sc); refine (H14.out _ HC4.out).mono ?_; rintro e w' ⟨rfl, hw⟩; obtain rfl := hw.symm; clear hw)
                      | (go_at_call_of 14 (Value.slice ia il ic); refine (H14'.out _ HC4.out).mono ?_; rintro e w' ⟨rfl, hw⟩; obtain rfl := hw.symm; clear hw)
                      | (go_at_call 17; refine (H17.out _ HC4.out).mono ?_; rintro e w' ⟨rfl, hw⟩; obtain rfl := hw.symm; clear hw)
                      | (go_at_call 18; refine (H18.out _ HC4.out).mono ?_; rintro e w' ⟨rfl, hw⟩; obtain rfl := hw.symm; clear hw))
                    go_roundw
                    case rel => exact ⟨k4 + 1, by omega, by go_num, HC4.out⟩
                    case measure => simp [intOf]; omega
                  · go_wp2
                    go_ret
                    exact ⟨rfl, HB3.out.trans (HC1.out.mono HB3.out.size)⟩
end Go.Proofs.Qxb6609105a
