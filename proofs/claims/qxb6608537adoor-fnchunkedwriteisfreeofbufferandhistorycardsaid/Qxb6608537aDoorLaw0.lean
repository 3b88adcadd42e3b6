import Derived.Test.Qxb6608537aDoorCat
namespace Go.Proofs.Qxb6608537aDoor
open Go.RowKit
set_option linter.unusedVariables false

/-- A fresh writer, laid into a variable. -/
theorem fresh_stand {w w1 : World} {b X g size : Nat} {gc : Array Value} (h : St w1 b X g size 0 none [] gc) (hb : Below w.heap.size w w1) (h1 : w.heap.size ≤ b) (h2 : w.heap.size ≤ X) (h3 : w.heap.size ≤ g) :
    Stand w.heap.size w1.heap.size b X g size [] (w1.alloc (.cells #[.pointer (some ⟨X, 0, none⟩)] 33)) ∧ Below w.heap.size w (w1.alloc (.cells #[.pointer (some ⟨X, 0, none⟩)] 33)) := by
  obtain ⟨l1, l2, l3⟩ := h.lt
  have hs := hb.size
  refine ⟨⟨0, none, [], gc, h.kept (fun k hk => Below.heap_alloc w1 _ k hk), by simp, h1, h2, h3, by simp, by simp; omega, heap_alloc_new w1 _, by omega, by omega, by omega, by simp⟩, hb.alloc hs _⟩

/-- Flushed: all has reached the buffer. -/
def Done (B b : Nat) (C : List Value) (w : World) : Prop := ∃ ro, Buf w b ro C ∧ (∀ r, ro = some r → B ≤ r) ∧ B ≤ w.heap.size

theorem stand_flush {B K b X g size : Nat} {C : List Value} {w : World} (h : Stand B K b X g size C w) (hC : C.length ≤ 10995116277) :
    Calls Tryd.prog 13 #[.pointer (some ⟨X, 0, none⟩)] w fun e w' => e = .returned .nilIface ∧ Done B b C w' ∧ Below B w w' := by
  obtain ⟨n, ro, bs, gc, q1, rfl, q2, q3, q4, q5, q6, q7⟩ := h
  have hn : n ≤ size := q1.2.2.2.2.2.2.1
  have hsz : gc.size = size := q1.2.2.2.1
  have hl : (gc.toList.take n).length = n := by simp [List.length_take]; omega
  refine (flush_any b X g size n ro bs gc w q1 (by rw [List.length_append, hl] at hC; omega)).mono ?_
  rintro e w' ⟨rfl, ro', s1, s2, s3⟩
  have hw : Went w b X g size ro (bs ++ gc.toList.take n ++ gc.toList.take 0) w' := ⟨0, ro', _, gc, s1, rfl, s2, s3⟩
  obtain ⟨e1, e2⟩ := hw.stand q2 q3 q4 q5 q6 q7
  refine ⟨rfl, ⟨ro', s1.1, ?_, Nat.le_trans q6 e2.size⟩, e2⟩
  intro r hr
  rcases s2 with rfl | ⟨r', rfl, h'⟩
  · exact q5 r hr
  · cases hr; omega

/-- The words of a slice of bytes. -/
def OutB (C : List Value) (w : World) (a : Option Addr) (cap : Nat) : Prop :=
  C.length ≤ cap ∧ cap ≤ maxLen ∧ (C = [] ∧ cap = 0 ∨ ∃ r, a = some ⟨r, 0, none⟩ ∧ r < w.heap.size ∧ ∀ j v, C[j]? = some v → w.cell? ⟨r, j, none⟩ = some v)

def BytesP (C : List Value) (w : World) (e : Ending) (w' : World) : Prop := ∃ a cap, e = .returned (.slice a C.length cap) ∧ OutB C w' a cap ∧ Below w.heap.size w w'

theorem done_bytes {B b : Nat} {C : List Value} {w : World} (h : Done B b C w) : Calls Tryd.prog 14 #[.pointer (some ⟨b, 0, none⟩)] w fun e w' => BytesP C w e w' := by
  obtain ⟨ro, hb, _, _⟩ := h
  have hlt : ∀ r, ro = some r → r < w.heap.size := by
    intro r hr
    obtain ⟨_, lr, hq⟩ := hb
    rcases hq with ⟨e, _⟩ | ⟨r', cap, cur, e, _, _, hr', _⟩
    · rw [hr] at e; cases e
    · rw [hr] at e; cases e; exact Lib.lt_of_heap hr'
  refine (bytes_any b ro C w hb).mono ?_
  rintro e w' ⟨v, rfl, ⟨a, cap, rfl, o1, o2, o3⟩, k, rfl⟩
  refine ⟨a, cap, rfl, ⟨o1, o2, ?_⟩, ⟨rfl, rfl, rfl, Nat.le_refl _, fun _ _ => rfl⟩⟩
  rcases o3 with o3 | ⟨r, hr, rfl, hc⟩
  · exact Or.inl o3
  · exact Or.inr ⟨r, rfl, hlt r hr, hc⟩

theorem far_of {w wr : World} {a : Option Addr} {tl : Nat → Nat} {bs : Nat → Nat → Int} {k B : Nat} (hby : Byts w a (tl k) (bs k)) (hbel : Below w.heap.size w wr) (hB : w.heap.size ≤ B) : Far B wr a (pieceL tl bs k) := by
  rcases hby with h0 | ⟨pb, off, rfl, hc⟩
  · left; unfold pieceL; rw [h0]; rfl
  · by_cases h0 : tl k = 0
    · left; unfold pieceL; rw [h0]; rfl
    · have hlt : pb < w.heap.size := block_lt_of_cell (hc 0 (by omega))
      refine Or.inr ⟨pb, off, rfl, by omega, fun j v hj => ?_⟩
      have hjl : j < tl k := by
        have := (List.getElem?_eq_some_iff.1 hj).1
        rw [pieceL_len] at this; exact this
      rw [hbel.cell (p := ⟨pb, off + j, none⟩) hlt, hc j hjl]
      simp only [pieceL, List.getElem?_map, List.getElem?_range hjl, Option.map_some] at hj
      exact hj

/-- A piece is written. -/
theorem write_at {B K b X g size : Nat} {C : List Value} {w wr : World} {a : Option Addr} {tl tc : Nat → Nat} {bs : Nat → Nat → Int} {k : Nat} (hs : Stand B K b X g size C wr) (hby : Byts w a (tl k) (bs k)) (hbel : Below w.heap.size w wr) (hB : w.heap.size ≤ B) (hc1 : tl k ≤ tc k) (hc2 : tc k ≤ maxLen) (hl : tl k ≤ 1048576) (hC : C.length ≤ 10995116277) (h5 : w.cell? ⟨5, 15, none⟩ = some (.int .u8 4)) :
    Calls Tryd.prog 12 #[.agg #[.pointer (some ⟨X, 0, none⟩)], .slice a (tl k) (tc k)] wr fun e w' => e = .returned (.tuple #[.int .i64 (tl k), .nilIface]) ∧ Stand B K b X g size (C ++ enc (pieceL tl bs k)) w' ∧ Below B wr w' := by
  have h5l : 5 < w.heap.size := block_lt_of_cell h5
  exact cwrite_any B K b X g size C a (tl k) (tc k) (pieceL tl bs k) wr hs (far_of hby hbel hB) (pieceL_len tl bs k) (pieceL_u8 tl bs k).one hc1 hc2 hl hC ((hbel.cell (p := ⟨5, 15, none⟩) h5l).trans h5) (by omega)

/-- The part of all that piece i wrote. -/
theorem part_byts {P : Nat → List Value} (hu : ∀ i, U8 (P i)) {len i : Nat} (hi : i < len) {w wr : World} {a : Option Addr} {cap : Nat} (ho : OutB (cat P len) w a cap) (hbel : Below w.heap.size w wr) (hpos : (enc (P i)).length ≠ 0) :
    ∃ r, a = some ⟨r, 0, none⟩ ∧ Byts wr (some ⟨r, (cat P i).length, none⟩) (enc (P i)).length (fun j => zOf ((enc (P i)).getD j .nilIface)) := by
  have hle := cat_le P hi
  rcases ho.2.2 with ⟨h0, _⟩ | ⟨r, rfl, hr, hc⟩
  · rw [h0, List.length_nil] at hle; omega
  · refine ⟨r, rfl, Or.inr ⟨r, _, rfl, fun j hj => ?_⟩⟩
    rw [hbel.cell (p := ⟨r, (cat P i).length + j, none⟩) hr]
    refine hc _ _ ?_
    rw [cat_get P hi j hj]
    exact zof_get (enc_u8 (hu i)) hj

theorem own_byts {C : List Value} (hu : U8 C) {w : World} {a : Option Addr} {cap : Nat} (ho : OutB C w a cap) : Byts w a C.length (fun j => zOf (C.getD j .nilIface)) := by
  rcases ho.2.2 with ⟨h0, _⟩ | ⟨r, rfl, hr, hc⟩
  · left; rw [h0]; rfl
  · refine Or.inr ⟨r, 0, rfl, fun j hj => ?_⟩
    rw [Nat.zero_add]
    exact hc _ _ (zof_get hu hj)

/-- all[ps : ps + m]. -/
theorem slice_part (aa : Option Addr) (L capA ps m : Nat) (h1 : ps + m ≤ L) (h2 : L ≤ capA) (hr : m ≠ 0 → ∃ r, aa = some ⟨r, 0, none⟩) :
    ∃ a2, (∀ W, (Instr.slice 30 (.slice aa L capA) (some (.int .i64 ps)) (some (.int .i64 ((ps : Int) + (m : Int)))) none).run Tryd.prog W = .ok (.slice a2 m (capA - ps)) W) ∧ (m ≠ 0 → ∃ r, aa = some ⟨r, 0, none⟩ ∧ a2 = some ⟨r, ps, none⟩) := by
  have hsz : ∀ W, ((sizeOf 5).run Tryd.prog W) = .ok 1 W := fun W => by kernel_rfl
  have hel : Tryd.prog.elem 30 = 5 := by kernel_rfl
  have hrun : ∀ W, (Instr.slice 30 (.slice aa L capA) (some (.int .i64 ps)) (some (.int .i64 ((ps : Int) + (m : Int)))) none).run Tryd.prog W = .ok (sliced aa ps (ps + m) capA 1) W := by
    intro W
    rw [run_slice_lh (P := Tryd.prog) W 30 aa L capA (by kernel_rfl) .i64 .i64 (ps : Int) ((ps : Int) + (m : Int)) (by omega) (by omega) (by omega), hel, hsz]
    simp only [Result.andThen]
    congr 1
  by_cases hm : m = 0
  · subst hm
    refine ⟨_, fun W => by rw [hrun W]; simp only [sliced, Nat.add_sub_cancel_left]; rfl, fun h => absurd rfl h⟩
  · obtain ⟨r, rfl⟩ := hr hm
    have hne : ¬ capA = ps := by omega
    have hadd : (⟨r, 0, none⟩ : Addr).add ps = ⟨r, ps, none⟩ := by unfold Addr.add; split <;> simp_all
    refine ⟨some ⟨r, ps, none⟩, fun W => ?_, fun _ => ⟨r, rfl, rfl⟩⟩
    rw [hrun W]
    simp [sliced, hne, hadd]

/-- A fresh writer takes one piece. -/
theorem one_write {w wr w1 : World} {b X g size : Nat} {gc : Array Value} {a : Option Addr} {tl tc : Nat → Nat} {bs : Nat → Nat → Int} {k : Nat} (h : St w1 b X g size 0 none [] gc) (hb : Below wr.heap.size wr w1) (q1 : wr.heap.size ≤ b) (q2 : wr.heap.size ≤ X) (q3 : wr.heap.size ≤ g) (hby : Byts w a (tl k) (bs k)) (hbel : Below w.heap.size w wr) (hc1 : tl k ≤ tc k) (hc2 : tc k ≤ maxLen) (hl : tl k ≤ 1048576) (h5 : w.cell? ⟨5, 15, none⟩ = some (.int .u8 4)) :
    Calls Tryd.prog 12 #[.agg #[.pointer (some ⟨X, 0, none⟩)], .slice a (tl k) (tc k)] (w1.alloc (.cells #[.pointer (some ⟨X, 0, none⟩)] 33)) fun e w' => e = .returned (.tuple #[.int .i64 (tl k), .nilIface]) ∧ Stand wr.heap.size w1.heap.size b X g size (enc (pieceL tl bs k)) w' ∧ Below wr.heap.size wr w' := by
  obtain ⟨e1, e2⟩ := fresh_stand h hb q1 q2 q3
  have hs := hbel.size
  refine (write_at (w := w) (tl := tl) (tc := tc) (bs := bs) (k := k) e1 hby (hbel.trans (e2.mono hs)) hs hc1 hc2 hl (by simp) h5).mono ?_
  rintro e w' ⟨rfl, s1, s2⟩
  exact ⟨rfl, s1, e2.trans s2⟩
end Go.Proofs.Qxb6608537aDoor
