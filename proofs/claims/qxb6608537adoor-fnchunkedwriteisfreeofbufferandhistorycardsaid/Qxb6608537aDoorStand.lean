import Derived.Test.Qxb6608537aDoorPut
namespace Go.Proofs.Qxb6608537aDoor
open Go.RowKit
set_option linter.unusedVariables false

theorem Went.refl {w : World} {b X g size n : Nat} {ro : Option Nat} {bs : List Value} {gc : Array Value} (h : St w b X g size n ro bs gc) : Went w b X g size ro (bs ++ gc.toList.take n) w :=
  ⟨n, ro, bs, gc, h, rfl, Or.inl rfl, Fr.refl _ _ _ _ _⟩

theorem Went.block {w w' : World} {b X g size : Nat} {ro : Option Nat} {C : List Value} (h : Went w b X g size ro C w') {k : Nat} (hk : k < w.heap.size) (kb : k ≠ b) (kX : k ≠ X) (kg : k ≠ g) (kr : some k ≠ ro) : w'.heap[k]? = w.heap[k]? := by
  obtain ⟨n, ro', bs, gc, q1, q2, q3, q4⟩ := h
  exact q4.2.2.2.2 k hk kb kX kg kr

theorem went_crlf {w w1 : World} {b X g size : Nat} {ro : Option Nat} {C : List Value} (h : Went w b X g size ro C w1) (hlim : C.length ≤ 1099511627776) :
    Calls Tryd.prog 22 #[.pointer (some ⟨X, 0, none⟩), .string ⟨#[13, 10]⟩] w1 fun e w' => e = .returned (.tuple #[.int .i64 2, .nilIface]) ∧ Went w b X g size ro (C ++ crlfC) w' := by
  obtain ⟨n, ro', bs, gc, q1, rfl, q3, q4⟩ := h
  refine (crlf_any b X g size n ro' bs gc w1 q1 hlim).mono ?_
  rintro e w' ⟨rfl, hw⟩
  exact ⟨rfl, hw.next q3 q4⟩

theorem went_far {w w1 : World} {b X g size : Nat} {ro : Option Nat} {C : List Value} (h : Went w b X g size ro C w1) (pb poff pn pc : Nat) (cs : List Value) (hs : Src w b X g ro pb poff cs) (hpb : pb < w.heap.size) (hcl : cs.length = pn) (h1c : ∀ v ∈ cs, v.oneCell' = true) (hpn : 1 ≤ pn) (hpc : pn ≤ pc) (hpm : pc ≤ maxLen) (hlim : C.length + pn ≤ 1099511627776) :
    Calls Tryd.prog 19 #[.pointer (some ⟨X, 0, none⟩), .slice (some ⟨pb, poff, none⟩) pn pc] w1 fun e w' => e = .returned (.tuple #[.int .i64 pn, .nilIface]) ∧ Went w b X g size ro (C ++ cs) w' := by
  obtain ⟨n, ro', bs, gc, q1, rfl, q3, q4⟩ := h
  refine (wwrite_far b X g size n ro' bs gc pb poff pn pc cs w1 q1 (hs.on hpb q3 q4) (Nat.lt_of_lt_of_le hpb q4.2.2.2.1) hcl h1c hpn hpc hpm hlim).mono ?_
  rintro e w' ⟨rfl, hw⟩
  exact ⟨rfl, hw.next q3 q4⟩

/-- The variable of type ChunkedWriter, at block K. -/
def Box (K b X g : Nat) (ro : Option Nat) (w : World) : Prop := w.heap[K]? = some (.cells #[.pointer (some ⟨X, 0, none⟩)] 33 (0, 0)) ∧ K ≠ b ∧ K ≠ X ∧ K ≠ g ∧ some K ≠ ro

theorem Box.cell {K b X g : Nat} {ro : Option Nat} {w : World} (h : Box K b X g ro w) : w.cell? ⟨K, 0, none⟩ = some (.pointer (some ⟨X, 0, none⟩)) := by
  rw [Lib.cell_of_heap h.1]; rfl

/-- A WRITER ABOVE BLOCK B THAT HAS TAKEN C; the variable that holds it lies at K. -/
def Stand (B K b X g size : Nat) (C : List Value) (w : World) : Prop :=
  ∃ n ro bs gc, St w b X g size n ro bs gc ∧ bs ++ gc.toList.take n = C ∧ B ≤ b ∧ B ≤ X ∧ B ≤ g ∧ (∀ r, ro = some r → B ≤ r) ∧ B ≤ w.heap.size ∧ Box K b X g ro w

theorem Stand.cell {B K b X g size : Nat} {C : List Value} {w : World} (h : Stand B K b X g size C w) : w.cell? ⟨K, 0, none⟩ = some (.pointer (some ⟨X, 0, none⟩)) := by
  obtain ⟨n, ro, bs, gc, _, _, _, _, _, _, _, hb⟩ := h
  exact hb.cell

theorem Went.stand {B K : Nat} {w w' : World} {b X g size : Nat} {ro : Option Nat} {C : List Value} (h : Went w b X g size ro C w') (hb : B ≤ b) (hX : B ≤ X) (hg : B ≤ g) (hr : ∀ r, ro = some r → B ≤ r) (hB : B ≤ w.heap.size) (hK : Box K b X g ro w) : Stand B K b X g size C w' ∧ Below B w w' := by
  have hKl := Lib.lt_of_heap hK.1
  have hKb := h.block hKl hK.2.1 hK.2.2.1 hK.2.2.2.1 hK.2.2.2.2
  obtain ⟨n, ro', bs, gc, q1, q2, q3, q4⟩ := h
  refine ⟨⟨n, ro', bs, gc, q1, q2, hb, hX, hg, ?_, Nat.le_trans hB q4.2.2.2.1, hKb.trans hK.1, hK.2.1, hK.2.2.1, hK.2.2.2.1, ?_⟩, ⟨q4.1, q4.2.1, q4.2.2.1, q4.2.2.2.1, fun k hk => q4.2.2.2.2 k (by omega) (by omega) (by omega) (by omega) ?_⟩⟩
  · intro r hr'
    rcases q3 with rfl | ⟨r', rfl, h'⟩
    · exact hr r hr'
    · cases hr'; omega
  · rcases q3 with rfl | ⟨r', rfl, h'⟩
    · exact hK.2.2.2.2
    · intro e; cases e; omega
  · intro e; have := hr k e.symm; omega

/-- The bytes of a piece, below B. -/
def Far (B : Nat) (w : World) (a : Option Addr) (cs : List Value) : Prop :=
  cs = [] ∨ ∃ pb poff, a = some ⟨pb, poff, none⟩ ∧ pb < B ∧ ∀ j v, cs[j]? = some v → w.cell? ⟨pb, poff + j, none⟩ = some v

/-- What a piece is written as. -/
def enc (cs : List Value) : List Value := if cs = [] then [] else hexL cs.length ++ crlfC ++ cs ++ crlfC

theorem enc_len {cs : List Value} (h : cs ≠ []) : (enc cs).length = cs.length + hexN cs.length + 4 := by
  have : 0 < cs.length := List.length_pos_iff.2 h
  unfold enc
  rw [if_neg h]
  simp only [List.length_append, hexL_len _ this]
  have : crlfC.length = 2 := rfl
  omega
end Go.Proofs.Qxb6608537aDoor
