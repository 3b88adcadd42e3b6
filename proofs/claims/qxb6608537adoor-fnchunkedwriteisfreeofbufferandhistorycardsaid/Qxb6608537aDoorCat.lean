import Derived.Test.Qxb6608537aDoorBytes
namespace Go.Proofs.Qxb6608537aDoor
open Go.RowKit
set_option linter.unusedVariables false

/-- The pieces' encodings one behind the other. -/
def cat (P : Nat → List Value) : Nat → List Value
  | 0 => []
  | k + 1 => cat P k ++ enc (P k)

theorem cat_pre (P : Nat → List Value) (i : Nat) : ∀ k, i ≤ k → ∃ t, cat P k = cat P i ++ t
  | 0, h => by obtain rfl : i = 0 := by omega
               exact ⟨[], by simp⟩
  | k + 1, h => by
    by_cases e : i = k + 1
    · subst e; exact ⟨[], by simp⟩
    · obtain ⟨t, ht⟩ := cat_pre P i k (by omega)
      exact ⟨t ++ enc (P k), by simp only [cat, ht, List.append_assoc]⟩

theorem cat_at (P : Nat → List Value) {i k : Nat} (h : i < k) : ∃ t, cat P k = cat P i ++ (enc (P i) ++ t) := by
  obtain ⟨t, ht⟩ := cat_pre P (i + 1) k h
  exact ⟨t, by rw [ht, cat, List.append_assoc]⟩

theorem cat_get (P : Nat → List Value) {i k : Nat} (h : i < k) (j : Nat) (hj : j < (enc (P i)).length) : (cat P k)[(cat P i).length + j]? = (enc (P i))[j]? := by
  obtain ⟨t, ht⟩ := cat_at P h
  rw [ht, List.getElem?_append_right (by omega), List.getElem?_append_left (by omega)]
  congr 1
  omega

theorem cat_le (P : Nat → List Value) {i k : Nat} (h : i < k) : (cat P i).length + (enc (P i)).length ≤ (cat P k).length := by
  obtain ⟨t, ht⟩ := cat_at P h
  rw [ht]; simp only [List.length_append]; omega

/-- Bytes all. -/
def zOf : Value → Int
  | .int _ z => z
  | _ => 0
def U8 (C : List Value) : Prop := ∀ v ∈ C, v = .int .u8 (zOf v)

theorem U8.app {A C : List Value} (h : U8 A) (k : U8 C) : U8 (A ++ C) := by
  intro v hv
  rcases List.mem_append.1 hv with hv | hv
  · exact h v hv
  · exact k v hv

theorem hexL_u8 (n : Nat) : U8 (hexL n) := by
  induction n using Nat.strongRecOn with
  | ind n ih =>
    by_cases hs : n < 16
    · rw [hexL_small hs]; intro v hv; simp at hv; subst hv; rfl
    · rw [hexL_big hs]
      refine (ih (n / 16) (by omega)).app ?_
      intro v hv; simp at hv; subst hv; rfl

theorem crlf_u8 : U8 crlfC := by
  intro v hv
  simp only [crlfC, List.mem_cons, List.not_mem_nil, or_false] at hv
  rcases hv with rfl | rfl <;> rfl

theorem enc_u8 {cs : List Value} (h : U8 cs) : U8 (enc cs) := by
  unfold enc
  split
  · intro v hv; cases hv
  · exact (((hexL_u8 _).app crlf_u8).app h).app crlf_u8

theorem U8.one {C : List Value} (h : U8 C) : ∀ v ∈ C, v.oneCell' = true := fun v hv => by rw [h v hv]; rfl

/-- The cells of piece i. -/
def pieceL (tl : Nat → Nat) (bs : Nat → Nat → Int) (i : Nat) : List Value := (List.range (tl i)).map fun j => .int .u8 (bs i j)
theorem pieceL_len (tl : Nat → Nat) (bs : Nat → Nat → Int) (i : Nat) : (pieceL tl bs i).length = tl i := by simp [pieceL]
theorem pieceL_u8 (tl : Nat → Nat) (bs : Nat → Nat → Int) (i : Nat) : U8 (pieceL tl bs i) := by
  intro v hv
  simp only [pieceL, List.mem_map] at hv
  obtain ⟨j, _, rfl⟩ := hv
  rfl

/-- How long all is. -/
def sumL (tl : Nat → Nat) : Nat → Nat
  | 0 => 0
  | k + 1 => sumL tl k + tl k
theorem cat_bound2 (tl : Nat → Nat) (bs : Nat → Nat → Int) : ∀ k, (∀ i, i < k → tl i ≤ 1048576) → (cat (pieceL tl bs) k).length ≤ k * 1048588
  | 0, _ => by simp [cat]
  | k + 1, hb => by
    have ih := cat_bound2 tl bs k (fun i hi => hb i (by omega))
    simp only [cat, List.length_append]
    have hk := hb k (by omega)
    by_cases e : pieceL tl bs k = []
    · rw [e]
      have : (enc []).length = 0 := rfl
      omega
    · rw [enc_len e, pieceL_len]
      have := hexN_bound 8 (tl k) (by omega)
      omega

theorem zof_get {C : List Value} (h : U8 C) {j : Nat} (hj : j < C.length) : C[j]? = some (.int .u8 (zOf (C.getD j .nilIface))) := by
  have h1 : C[j]? = some C[j] := List.getElem?_eq_getElem hj
  rw [List.getD_eq_getElem?_getD, h1]
  exact congrArg some (h _ (List.getElem_mem hj))
end Go.Proofs.Qxb6608537aDoor
