import Derived.Test.Qxb6609105aPush
namespace Go.Proofs.Qxb6609105a
open Go.RowKit
set_option linter.unusedVariables false

theorem Try.info46 : (Try.prog.info? 46).map (fun i => (i.zero, i.size, i.bytes)) = some (some (.agg #[.slice none 0 0, .string ⟨#[]⟩, .slice none 0 0, .string ⟨#[]⟩, .int .u64 0, .int .u64 0, .string ⟨#[]⟩, .string ⟨#[]⟩, .int .u64 0, .bool false]), 10, 144) := by kernel_rfl

theorem own_ne {w : World} {X n : Nat} {v : Value} {xs : List Value} (h : w.ownsRow (X + 1) 46 10 v n xs) : some X ≠ v.ownBlock ∧ some w.heap.size ≠ v.ownBlock := by
  rcases h.2 with ⟨rfl, _⟩ | ⟨g, cap, cur, rfl, hb, hg, _⟩
  · constructor <;> simp [Value.ownBlock]
  · have hlt := (Array.getElem?_eq_some_iff.1 hg).1
    constructor <;> simp [Value.ownBlock] <;> omega

theorem set3 (name : ByteArray) (inc base : Int) (v v' : Value) (by_ tu del : Int) (holder : ByteArray) : (stCells name inc base v by_ tu del holder).setIfInBounds 3 v' = stCells name inc base v' by_ tu del holder := rfl
theorem set4 (name : ByteArray) (inc base : Int) (v : Value) (by_ by' tu del : Int) (holder : ByteArray) : (stCells name inc base v by_ tu del holder).setIfInBounds 4 (.int .i64 by') = stCells name inc base v by' tu del holder := rfl
theorem set5 (name : ByteArray) (inc base : Int) (v : Value) (by_ tu tu' del : Int) (holder : ByteArray) : (stCells name inc base v by_ tu del holder).setIfInBounds 5 (.int .i64 tu') = stCells name inc base v by_ tu' del holder := rfl

/-- Behind the append: the stream's own block, the box, old memory. -/
theorem grow_facts {w w1 : World} {X n : Nat} {v : Value} {xs : List Value} {o o' : Obj} {cs : Array Value} {t : TypeId} (h : w.ownsRow (X + 1) 46 10 v n xs) (hX : w.heap[X]? = some (.cells cs t (0, 0))) (hg : ((w.alloc o).alloc o').drew.grownBy w1 v.ownBlock) :
    w1.heap[X]? = some (.cells cs t (0, 0)) ∧ w1.heap[w.heap.size]? = some o ∧ w.heap.size + 2 ≤ w1.heap.size ∧ Below X w w1 := by
  have hXl : X < w.heap.size := (Array.getElem?_eq_some_iff.1 hX).1
  obtain ⟨n1, n2⟩ := own_ne h
  have hs : w.heap.size + 2 ≤ w1.heap.size := by have := hg.size; simp at this; omega
  have hold : ∀ k, k < w.heap.size → ((w.alloc o).alloc o').drew.heap[k]? = w.heap[k]? := fun k hk => (Below.heap_alloc _ _ _ (by simp; omega)).trans (Below.heap_alloc _ _ _ hk)
  refine ⟨((hg.block X (by simp; omega) n1).trans (hold X hXl)).trans hX, ?_, hs, ⟨hg.os, hg.tape, hg.output, by omega, fun k hk => ?_⟩⟩
  · rw [hg.block w.heap.size (by simp; omega) n2]
    exact heap_alloc2_old w o o'
  · rw [hg.block k (by simp; omega) (fun e => ?_), hold k (by omega)]
    rcases h.2 with ⟨rfl, _⟩ | ⟨g, cap, cur, rfl, hb, _⟩
    · simp [Value.ownBlock] at e
    · simp [Value.ownBlock] at e; omega

theorem ent_ones (ta : Option Addr) (tn tc : Nat) (ord : ByteArray) (seq : Int) (ln : ByteArray) (id : Int) (rel : Bool) : ∀ u ∈ ([.slice ta tn tc, .string ord, .slice none 0 0, .string ⟨#[]⟩, .int .u64 0, .int .u64 seq, .string ⟨#[]⟩, .string ln, .int .u64 id, .bool rel] : List Value), u.oneCell' = true := fun u hu =>
  (Array.all_eq_true_iff_forall_mem.1 (ent_one ta tn tc ord seq ln id rel)) u (by simpa [entCells] using hu)

def turnOf (seq : Int) : Int := if 0 < seq then 1 else 0

/-- What 'push' leaves. -/
def PushPost (w : World) (X : Nat) (name : ByteArray) (inc base by' tu' del : Int) (holder : ByteArray) (k : Nat) (L E : List Value) (e : Ending) (w' : World) : Prop :=
  e = .returned (.tuple #[]) ∧ ∃ g gc, w'.heap[X]? = some (.cells (stCells name inc base (.slice (some ⟨g, 0, none⟩) (k + 1) gc) by' tu' del holder) 95 (0, 0)) ∧ w'.ownsRow (X + 1) 46 10 (.slice (some ⟨g, 0, none⟩) (k + 1) gc) (k + 1) (L ++ E) ∧ Below X w w'

theorem pushed_turn {W4 : World} {X : Nat} {name : ByteArray} {inc base : Int} {v : Value} {by' tu tu' del : Int} {holder : ByteArray} {o : Obj} (hX : X < W4.heap.size) (h : W4.heap[X]? = some (.cells (stCells name inc base v by' tu del holder) 95 (0, 0))) :
    ((W4.setCell ⟨X, 5, none⟩ (.int .i64 tu')).alloc o).drew.heap[X]? = some (.cells (stCells name inc base v by' tu' del holder) 95 (0, 0)) := by
  refine (Below.heap_alloc (W4.setCell ⟨X, 5, none⟩ (.int .i64 tu')) o X (by simpa [World.setCell] using hX)).trans ?_
  rw [heap_setCell_same W4 X 5 _ _ _ h, set5]

/-- What the first statement of 'push' leaves. -/
def Mid (w : World) (X : Nat) (name : ByteArray) (inc base : Int) (by_ tu del : Int) (holder : ByteArray) (k : Nat) (L E : List Value) (wx : World) : Prop :=
  ∃ g gc, wx.heap[X]? = some (.cells (stCells name inc base (.slice (some ⟨g, 0, none⟩) (k + 1) gc) by_ tu del holder) 95 (0, 0)) ∧ wx.ownsRow (X + 1) 46 10 (.slice (some ⟨g, 0, none⟩) (k + 1) gc) (k + 1) (L ++ E) ∧
    wx.heap[w.heap.size]? = some (.cells E.toArray 46 (0, 0)) ∧ Below X w wx ∧ w.heap.size < wx.heap.size

theorem mid_of {w w1 : World} {X : Nat} {name : ByteArray} {inc base : Int} {by_ tu del : Int} {holder : ByteArray} {k : Nat} {L E : List Value} {v : Value} {g gc : Nat}
    (hX : w1.heap[X]? = some (.cells (stCells name inc base v by_ tu del holder) 95 (0, 0))) (hN : w1.heap[w.heap.size]? = some (.cells E.toArray 46 (0, 0))) (hs : w.heap.size + 2 ≤ w1.heap.size) (hb : Below X w w1) (hXl : X < w.heap.size)
    (hown : w1.ownsRow (X + 1) 46 10 (.slice (some ⟨g, 0, none⟩) (k + 1) gc) (k + 1) (L ++ E)) :
    Mid w X name inc base by_ tu del holder k L E (w1.setCell ⟨X, 3, none⟩ (.slice (some ⟨g, 0, none⟩) (k + 1) gc)) := by
  refine ⟨g, gc, ?_, ownsRow_setCell_below hown (by simp) _, ?_, hb.setCell (Nat.le_refl _) _, by simp [World.setCell]; omega⟩
  · rw [heap_setCell_same w1 X 3 _ _ _ hX, set3]
  · rw [heap_setCell_other w1 _ _ _ (by simp; omega)]; exact hN

set_option maxRecDepth 100000 in
set_option maxHeartbeats 1000000 in
theorem push_any (X : Nat) (name : ByteArray) (inc base : Int) (ga : Option Addr) (gc : Nat) (by_ tu del : Int) (holder : ByteArray) (k : Nat) (L : List Value) (ta : Option Addr) (tn tc : Nat) (ord : ByteArray) (seq : Int) (ln : ByteArray) (id : Int) (rel : Bool) (w : World)
    (h : w.heap[X]? = some (.cells (stCells name inc base (.slice ga k gc) by_ tu del holder) 95 (0, 0))) (hown : w.ownsRow (X + 1) 46 10 (.slice ga k gc) k L) (hk : k ≤ 16384) (hb0 : 0 ≤ by_) (hb1 : by_ ≤ 1099511627776) (ht0 : 0 ≤ tu) (ht1 : tu ≤ 1099511627776) (htn : tn ≤ 1048576) :
    Calls Try.prog 34 #[.pointer (some ⟨X, 0, none⟩), .agg (entCells (.slice ta tn tc) ord seq ln id rel)] w fun e w' => PushPost w X name inc base (by_ + tn) (tu + turnOf seq) del holder k L (entCells (.slice ta tn tc) ord seq ln id rel).toList e w' := by
  obtain ⟨i0, hi, hz0, hz1, hz2⟩ := info_parts Try.info46
  have HI := hideIt (And.intro hi (And.intro hz0 (And.intro hz1 hz2)))
  clear hi hz0 hz1 hz2
  have hXl : X < w.heap.size := (Array.getElem?_eq_some_iff.1 h).1
  have c3 : ∀ o, (w.alloc o).cell? ⟨X, 3, none⟩ = some (.slice ga k gc) := fun o => (World.cell?_alloc_lt _ _ _ hXl).trans (cell_of_row w X 3 _ _ _ h)
  have HO := hideIt hown
  have HH := hideIt h
  clear h hown
  have HP : ∀ (tu' : Int) (e : Ending) (w' : World), turnOf seq = tu' → (e = .returned (.tuple #[]) ∧ ∃ g gc, w'.heap[X]? = some (.cells (stCells name inc base (.slice (some ⟨g, 0, none⟩) (k + 1) gc) (by_ + tn) (tu + tu') del holder) 95 (0, 0)) ∧ w'.ownsRow (X + 1) 46 10 (.slice (some ⟨g, 0, none⟩) (k + 1) gc) (k + 1) (L ++ [.slice ta tn tc, .string ord, .slice none 0 0, .string ⟨#[]⟩, .int .u64 0, .int .u64 seq, .string ⟨#[]⟩, .string ln, .int .u64 id, .bool rel]) ∧ Below X w w') → PushPost w X name inc base (by_ + tn) (tu + turnOf seq) del holder k L (entCells (.slice ta tn tc) ord seq ln id rel).toList e w' := by
    rintro tu' e w' h1 ⟨h2, g, gc, h3, h4, h5⟩
    exact ⟨h2, g, gc, by rw [h1]; exact h3, h4, h5⟩
  have HPP := hideIt HP
  clear HP
  unfold entCells
  go_enter Try.func34, Try.ntmps34
  go_upto_region 1 with fail
  go_cut [] from 4 (fun wx => Mid w X name inc base by_ tu del holder k L [.slice ta tn tc, .string ord, .slice none 0 0, .string ⟨#[]⟩, .int .u64 0, .int .u64 seq, .string ⟨#[]⟩, .string ln, .int .u64 id, .bool rel] wx)
  case first =>
    go_region_law (refine step_append_lies _ rfl _ _ 92 rfl (X + 1) 46 i0 (.agg #[.slice none 0 0, .string ⟨#[]⟩, .slice none 0 0, .string ⟨#[]⟩, .int .u64 0, .int .u64 0, .string ⟨#[]⟩, .string ⟨#[]⟩, .int .u64 0, .bool false]) 10 144 Try.underlying92 HI.out.1 HI.out.2.1 HI.out.2.2.1 HI.out.2.2.2 rfl (by decide) (.slice ga k gc) k L (by simp [Act.eval]) ((HO.out.alloc _).alloc _) ⟨w.heap.size + 1, 0, none⟩ 1 1 [.slice ta tn tc, .string ord, .slice none 0 0, .string ⟨#[]⟩, .int .u64 0, .int .u64 seq, .string ⟨#[]⟩, .string ln, .int .u64 id, .bool rel] (by simp [Act.eval]) rfl (World.news_of_block (heap_alloc2_new w _ _)) (ent_ones ta tn tc ord seq ln id rel) (by decide) (by unfold maxLen; omega) (by omega) (by simp; omega) _ rfl ?_; intro g gcap w1 hown1 hgrow1 hat1 hlt1; obtain ⟨f1, f2, f3, f4⟩ := grow_facts HO.out HH.out hgrow1; have HM := hideIt (mid_of (k := k) (L := L) f1 f2 f3 f4 hXl hown1); have cX : w1.cell? ⟨X, 3, none⟩ = some (.slice ga k gc) := cell_of_row w1 X 3 _ _ _ f1; have fX := frozen_of_row w1 X 3 _ _ f1; clear f1 f2 f3 f4 hown1 hgrow1 hat1 hlt1)
    all_goals
      go_wp2
      go_meet
      exact HM.out
  case rest =>
    obtain ⟨g, gcap, mX, mO, mN, mB, mS⟩ := hcut
    have c4 : wc.cell? ⟨X, 4, none⟩ = some (.int .i64 by_) := cell_of_row wc X 4 _ _ _ mX
    have f4 := frozen_of_row wc X 4 _ _ mX
    have n0 : wc.cell? ⟨w.heap.size, 0, none⟩ = some (.slice ta tn tc) := cell_of_row wc w.heap.size 0 _ _ _ mN
    have x4 : (wc.setCell ⟨X, 4, none⟩ (.int .i64 (by_ + tn))).heap[X]? = some (.cells (stCells name inc base (.slice (some ⟨g, 0, none⟩) (k + 1) gcap) (by_ + tn) tu del holder) 95 (0, 0)) := by rw [heap_setCell_same wc X 4 _ _ _ mX, set4]
    have HX4 := hideIt x4
    have HN4 : Hid ((wc.setCell ⟨X, 4, none⟩ (.int .i64 (by_ + tn))).heap[w.heap.size]? = some (.cells #[.slice ta tn tc, .string ord, .slice none 0 0, .string ⟨#[]⟩, .int .u64 0, .int .u64 seq, .string ⟨#[]⟩, .string ln, .int .u64 id, .bool rel] 46 (0, 0))) := by rw [Hid, heap_setCell_other wc _ _ _ (by simp; omega)]; exact mN
    have HO4 := hideIt (ownsRow_setCell_below mO (a := ⟨X, 4, none⟩) (by simp) (.int .i64 (by_ + tn)))
    have HB4 := hideIt (mB.setCell (p := ⟨X, 4, none⟩) (Nat.le_refl _) (.int .i64 (by_ + tn)))
    have c5 : (wc.setCell ⟨X, 4, none⟩ (.int .i64 (by_ + tn))).cell? ⟨X, 5, none⟩ = some (.int .i64 tu) := cell_of_row _ X 5 _ _ _ x4
    have f5 := frozen_of_row _ X 5 _ _ x4
    have hs4 : (wc.setCell ⟨X, 4, none⟩ (.int .i64 (by_ + tn))).heap.size = wc.heap.size := by simp [World.setCell]
    clear mX mO mN mB x4
    go_wp2
    go_region
    obtain ⟨W4, hW4⟩ : ∃ W4, W4 = wc.setCell ⟨X, 4, none⟩ (.int .i64 (by_ + tn)) := ⟨_, rfl⟩
    rw [← hW4] at HX4 HN4 HO4 HB4 c5 f5 hs4 ⊢
    have hXW : X < W4.heap.size := by omega
    have HE := hideIt hs4
    clear hW4 c4 f4 n0 hs4 c3
    have d5 : ∀ o, (W4.alloc o).cell? ⟨X, 5, none⟩ = some (.int .i64 tu) := fun o => (World.cell?_alloc_lt _ _ _ hXW).trans c5
    have g5 : ∀ o, (W4.alloc o).frozen? ⟨X, 5, none⟩ = false := fun o => (World.frozen?_alloc_old _ _ _ (Nat.ne_of_lt hXW)).trans f5
    by_cases hq : 0 < seq
    · have hqd : decide (0 < seq) = true := by simpa using hq
      have HT := hideIt (isturn_any (.slice ta tn tc) ord seq ln id rel W4.drew)
      go_wp2_with (first
        | (refine wpList_load_row rfl 46 _ rfl w.heap.size rfl 46 _ (0, 0) _ HN4.out Try.underlying46 rfl Try.size46 ?_)
        | (go_at_call 37; refine HT.out.mono ?_; rintro e w' ⟨rfl, rfl⟩))
      go_end0
      exact HPP.out 1 _ _ (if_pos hq) ⟨rfl, g, gcap, pushed_turn hXW HX4.out, ((ownsRow_setCell_below HO4.out (by simp) _).alloc _), ((HB4.out.setCell (Nat.le_refl _) _).alloc (by simp [World.setCell]; omega) _).drew⟩
    · have hqd : decide (0 < seq) = false := by simpa using hq
      have HT := hideIt (isturn_any (.slice ta tn tc) ord seq ln id rel W4.drew)
      go_wp2_with (first
        | (refine wpList_load_row rfl 46 _ rfl w.heap.size rfl 46 _ (0, 0) _ HN4.out Try.underlying46 rfl Try.size46 ?_)
        | (go_at_call 37; refine HT.out.mono ?_; rintro e w' ⟨rfl, rfl⟩))
      go_end0
      exact HPP.out 0 _ _ (if_neg (by omega)) ⟨rfl, g, gcap, by rw [Int.add_zero]; exact (Below.heap_alloc W4 _ X hXW).trans HX4.out, HO4.out.alloc _, (HB4.out.alloc (by omega) _).drew⟩

set_option maxRecDepth 100000 in
set_option maxHeartbeats 1000000 in
theorem zzpush_any (X : Nat) (name : ByteArray) (inc base : Int) (ga : Option Addr) (gc : Nat) (by_ tu del : Int) (holder : ByteArray) (k : Nat) (L : List Value) (ta : Option Addr) (tn tc : Nat) (ord : ByteArray) (seq : Int) (ln : ByteArray) (id : Int) (rel : Bool) (w : World)
    (h : w.heap[X]? = some (.cells (stCells name inc base (.slice ga k gc) by_ tu del holder) 95 (0, 0))) (hown : w.ownsRow (X + 1) 46 10 (.slice ga k gc) k L) (hk : k ≤ 16384) (hb0 : 0 ≤ by_) (hb1 : by_ ≤ 1099511627776) (ht0 : 0 ≤ tu) (ht1 : tu ≤ 1099511627776) (htn : tn ≤ 1048576) :
    Calls Try.prog 15 #[.pointer (some ⟨X, 0, none⟩), .agg (entCells (.slice ta tn tc) ord seq ln id rel)] w fun e w' => PushPost w X name inc base (by_ + tn) (tu + turnOf seq) del holder k L (entCells (.slice ta tn tc) ord seq ln id rel).toList e w' := by
  have hXl : X < w.heap.size := (Array.getElem?_eq_some_iff.1 h).1
  have HC := hideIt (push_any X name inc base ga gc by_ tu del holder k L ta tn tc ord seq ln id rel (w.alloc (.cells (entCells (.slice ta tn tc) ord seq ln id rel) 46)) ((Below.heap_alloc w _ X hXl).trans h) (hown.alloc _) hk hb0 hb1 ht0 ht1 htn)
  clear h hown
  go_enter Try.func15, Try.ntmps15
  go_wp2_with (first
    | (refine wpList_load_row rfl 46 _ rfl w.heap.size rfl 46 _ (0, 0) _ (heap_alloc_new w _) Try.underlying46 rfl Try.size46 ?_)
    | (go_at_call 34; refine HC.out.mono ?_; rintro e w1 ⟨rfl, g, gc', h1, h2, h3⟩; have H1 := hideIt h1; have H2 := hideIt h2; have H3 := hideIt h3; clear h1 h2 h3))
  go_end0
  exact ⟨rfl, g, gc', H1.out, H2.out, ((Below.refl _ w).alloc (by omega) _).trans H3.out⟩
end Go.Proofs.Qxb6609105a
