import Derived.Test.Qxb6609105aPush2
namespace Go.Proofs.Qxb6609105a
open Go.RowKit
set_option linter.unusedVariables false

set_option maxRecDepth 100000 in
set_option maxHeartbeats 1000000 in
theorem stentry_any (X g n gc j : Nat) (w : World) (c3 : w.cell? ⟨X, 3, none⟩ = some (.slice (some ⟨g, 0, none⟩) n gc)) (hX : X < w.heap.size) (hg : g < w.heap.size) (hj : j < n) (hn : n ≤ 16384) (ta : Option Addr) (tn tc : Nat) (ord : ByteArray) (seq : Int) (ln : ByteArray) (id : Int) (rel : Bool)
    (hc : ∀ r, r < 10 → w.cell? ⟨g, j * 10 + r, none⟩ = (entCells (.slice ta tn tc) ord seq ln id rel)[r]?) :
    Calls Try.prog 21 #[.pointer (some ⟨X, 0, none⟩), .int .i64 j] w fun e w' => e = .returned (.agg (entCells (.slice ta tn tc) ord seq ln id rel)) ∧ Below w.heap.size w w' := by
  have d3 : ∀ o, (w.alloc o).cell? ⟨X, 3, none⟩ = some (.slice (some ⟨g, 0, none⟩) n gc) := fun o => (World.cell?_alloc_lt _ _ _ hX).trans c3
  have hji : (j : Int) < (n : Int) := by omega
  have x0 : ∀ o, (w.alloc o).cell? ⟨g, j * 10, none⟩ = some (.slice ta tn tc) := fun o => (World.cell?_alloc_lt _ _ _ hg).trans (hc 0 (by decide))
  have x1 : ∀ o, (w.alloc o).cell? ⟨g, j * 10 + 1, none⟩ = some (.string ord) := fun o => (World.cell?_alloc_lt _ _ _ hg).trans (hc 1 (by decide))
  have x2 : ∀ o, (w.alloc o).cell? ⟨g, j * 10 + 2, none⟩ = some (.slice none 0 0) := fun o => (World.cell?_alloc_lt _ _ _ hg).trans (hc 2 (by decide))
  have x3 : ∀ o, (w.alloc o).cell? ⟨g, j * 10 + 3, none⟩ = some (.string ⟨#[]⟩) := fun o => (World.cell?_alloc_lt _ _ _ hg).trans (hc 3 (by decide))
  have x4 : ∀ o, (w.alloc o).cell? ⟨g, j * 10 + 4, none⟩ = some (.int .u64 0) := fun o => (World.cell?_alloc_lt _ _ _ hg).trans (hc 4 (by decide))
  have x5 : ∀ o, (w.alloc o).cell? ⟨g, j * 10 + 5, none⟩ = some (.int .u64 seq) := fun o => (World.cell?_alloc_lt _ _ _ hg).trans (hc 5 (by decide))
  have x6 : ∀ o, (w.alloc o).cell? ⟨g, j * 10 + 6, none⟩ = some (.string ⟨#[]⟩) := fun o => (World.cell?_alloc_lt _ _ _ hg).trans (hc 6 (by decide))
  have x7 : ∀ o, (w.alloc o).cell? ⟨g, j * 10 + 7, none⟩ = some (.string ln) := fun o => (World.cell?_alloc_lt _ _ _ hg).trans (hc 7 (by decide))
  have x8 : ∀ o, (w.alloc o).cell? ⟨g, j * 10 + 8, none⟩ = some (.int .u64 id) := fun o => (World.cell?_alloc_lt _ _ _ hg).trans (hc 8 (by decide))
  have x9 : ∀ o, (w.alloc o).cell? ⟨g, j * 10 + 9, none⟩ = some (.bool rel) := fun o => (World.cell?_alloc_lt _ _ _ hg).trans (hc 9 (by decide))
  clear hc c3
  go_enter Try.func21, Try.ntmps21
  go_wp2
  exact bodyPost_ret (v := .agg (entCells (.slice ta tn tc) ord seq ln id rel)) (results_cell_row Try.results21 _ _ w.heap.size 46 _ (0, 0) _ rfl (heap_alloc_new w _) Try.underlying46 rfl Try.size46) rfl ⟨rfl, (Below.refl _ w).alloc (Nat.le_refl _) _⟩

/-! ### plain -/
def sumT (tl : Nat → Nat) : Nat → Int
  | 0 => 0
  | k + 1 => sumT tl k + tl k
def turnsT (q : Nat → Int) : Nat → Int
  | 0 => 0
  | k + 1 => turnsT q k + turnOf (q k)
def entsL (E : Nat → List Value) : Nat → List Value
  | 0 => []
  | k + 1 => entsL E k ++ E k

def AllLe (tl : Nat → Nat) (k : Nat) : Prop := ∀ i, i < k → tl i ≤ 1048576
theorem AllLe.zero (tl : Nat → Nat) : AllLe tl 0 := fun i hi => absurd hi (Nat.not_lt_zero i)
theorem AllLe.succ {tl : Nat → Nat} {k : Nat} (h : AllLe tl k) (hk : tl k ≤ 1048576) : AllLe tl (k + 1) := fun i hi => by
  by_cases e : i = k
  · rw [e]; exact hk
  · exact h i (by omega)

theorem sumT_bd {tl : Nat → Nat} : ∀ {k : Nat}, AllLe tl k → 0 ≤ sumT tl k ∧ sumT tl k ≤ k * 1048576
  | 0, _ => by simp [sumT]
  | k + 1, h => by
    have ih := sumT_bd (k := k) (fun i hi => h i (by omega))
    have := h k (by omega)
    simp only [sumT]
    omega
theorem turn_bd (s : Int) : 0 ≤ turnOf s ∧ turnOf s ≤ 1 := by unfold turnOf; split <;> omega
theorem turnsT_bd (q : Nat → Int) : ∀ k : Nat, 0 ≤ turnsT q k ∧ turnsT q k ≤ k
  | 0 => by simp [turnsT]
  | k + 1 => by
    have ih := turnsT_bd q k
    have := turn_bd (q k)
    simp only [turnsT]
    omega

theorem entsL_len {E : Nat → List Value} (hE : ∀ i, (E i).length = 10) : ∀ k, (entsL E k).length = k * 10
  | 0 => rfl
  | k + 1 => by simp only [entsL, List.length_append, entsL_len hE k, hE k]; omega
theorem entsL_at {E : Nat → List Value} (hE : ∀ i, (E i).length = 10) : ∀ (n j r : Nat), j < n → r < 10 → (entsL E n)[j * 10 + r]? = (E j)[r]?
  | 0, j, r, hj, _ => absurd hj (Nat.not_lt_zero j)
  | n + 1, j, r, hj, hr => by
    simp only [entsL]
    by_cases e : j = n
    · subst e
      rw [List.getElem?_append_right (by rw [entsL_len hE]; omega), entsL_len hE]
      congr 1; omega
    · rw [List.getElem?_append_left (by rw [entsL_len hE]; omega)]
      exact entsL_at hE n j r (by omega) hr

theorem Lists.fn {B B' : Nat} {w : World} {a : Option Addr} {len : Nat} {tl : Nat → Nat} {bs : Nat → Nat → Int} (h : Lists B B' w a len tl bs) :
    ∃ (ta : Nat → Option Addr) (tc : Nat → Nat), len = 0 ∨ ∃ b off, a = some ⟨b, off, none⟩ ∧ B ≤ b ∧ ∀ i, i < len → w.cell? ⟨b, off + i, none⟩ = some (.slice (ta i) (tl i) (tc i)) ∧ Byts B' w (ta i) (tl i) (bs i) := by
  rcases h with h | ⟨b, off, rfl, hB, hz⟩
  · exact ⟨fun _ => none, fun _ => 0, Or.inl h⟩
  · have hz' : ∀ i, ∃ p : Option Addr × Nat, i < len → w.cell? ⟨b, off + i, none⟩ = some (.slice p.1 (tl i) p.2) ∧ Byts B' w p.1 (tl i) (bs i) := fun i => by
      by_cases hi : i < len
      · obtain ⟨ta, tc, h1, h2⟩ := hz i hi
        exact ⟨(ta, tc), fun _ => ⟨h1, h2⟩⟩
      · exact ⟨(none, 0), fun e => absurd e hi⟩
    have hf := fun i => Classical.choose_spec (hz' i)
    exact ⟨fun i => (Classical.choose (hz' i)).1, fun i => (Classical.choose (hz' i)).2, Or.inr ⟨b, off, rfl, hB, fun i hi => hf i hi⟩⟩

/-- An owned row's cells. -/
theorem own_cell {w : World} {base : Nat} {g n gc : Nat} {xs : List Value} (h : w.ownsRow base 46 10 (.slice (some ⟨g, 0, none⟩) n gc) n xs) {p : Nat} (hp : p < n * 10) : w.cell? ⟨g, p, none⟩ = xs[p]? ∧ g < w.heap.size := by
  obtain ⟨_, h2⟩ := h
  rcases h2 with ⟨h, _⟩ | ⟨g', c, cur, hv, _, hh, _, _, _, ht⟩
  · cases h
  · cases hv
    refine ⟨?_, (Array.getElem?_eq_some_iff.1 hh).1⟩
    rw [cell_of_row w g p _ _ _ hh, ← ht, List.getElem?_take_of_lt hp]
    simp

/-- What the sum of lengths tells. -/
def IsBoolT (tl : Nat → Nat) (len : Nat) (e : Ending) : Prop := ∃ r, e = .returned (.bool r) ∧ (r = true → AllLe tl len)
theorem isBoolT_false (tl : Nat → Nat) (len : Nat) : IsBoolT tl len (.returned (.bool false)) := ⟨false, rfl, fun h => by cases h⟩

set_option maxRecDepth 100000 in
set_option maxHeartbeats 4000000 in
theorem bytesT_any (s1 : ByteArray) (x1 x2 x3 : Value) (s2 s3 : ByteArray) (a : Option Addr) (len cap : Nat) (tl : Nat → Nat) (bs : Nat → Nat → Int) (sa : Option Addr) (sl sc : Nat) (na : Option Addr) (nl nc : Nat) (ss : Nat → ByteArray) (ia : Option Addr) (il ic : Nat) (ra : Option Addr) (rl rc : Nat)
    (w : World) (h1 : s1.size ≤ maxLen) (h2 : s2.size ≤ maxLen) (h3 : s3.size ≤ maxLen) (hl : len ≤ maxLen) (hsl : sl ≤ maxLen) (hnl : nl ≤ maxLen) (hil : il ≤ maxLen) (hrl : rl ≤ maxLen) (htl : ∀ i, i < len → tl i ≤ maxLen) (hss : Lists 0 0 w a len tl bs) (hns : StrsF w na nl ss) :
    Calls Try.prog 11 #[.string s1, x1, x2, x3, .string s2, .string s3, .slice a len cap, .slice sa sl sc, .slice na nl nc, .slice ia il ic, .slice ra rl rc] w fun e w' => IsBoolT tl len e ∧ w' = w := by
  have HS := hideIt hss
  have HN := hideIt hns
  have HT := hideIt htl
  clear hss hns htl
  unfold maxLen at h1 h2 h3 hl hsl hnl hil hrl
  go_enter Try.func11, Try.ntmps11
  go_wp2
  all_goals first | (go_ret; exact ⟨isBoolT_false tl len, rfl⟩) | skip
  go_loop [23, 24] (fun z i => ∃ (k : Nat) (q : Int), k ≤ len ∧ i = .int .i64 k ∧ z = .int .i64 q ∧ AllLe tl k) (fun _ i => len - (intOf i).toNat)
  case atStart => exact ⟨0, _, Nat.zero_le _, rfl, rfl, AllLe.zero tl⟩
  case round =>
    obtain ⟨k, q, hk, rfl, rfl, hall⟩ := hrel
    have HA := hideIt hall
    clear hall
    by_cases hlt : k < len
    · rcases HS.out with h0 | ⟨b', off, rfl, _, hss⟩
      · omega
      · obtain ⟨ta, tc, hc, _⟩ := hss k hlt
        have hsz := HT.out k hlt
        unfold maxLen at hsz
        clear hss HS HN HT
        go_wp2
        all_goals first | (go_ret; exact ⟨isBoolT_false tl len, rfl⟩) | skip
        go_round
        case rel => exact ⟨k + 1, _, by omega, by go_num, rfl, HA.out.succ (by omega)⟩
        case measure => simp [intOf]; omega
    · clear HS HT
      go_wp2
      all_goals first | (go_ret; exact ⟨isBoolT_false tl len, rfl⟩) | skip
      go_loop [23, 25] (fun z i => ∃ (k : Nat) (q : Int), k ≤ nl ∧ i = .int .i64 k ∧ z = .int .i64 q) (fun _ i => nl - (intOf i).toNat)
      case atStart => exact ⟨0, _, Nat.zero_le _, rfl, rfl⟩
      case round =>
        obtain ⟨k', q', hk', rfl, rfl⟩ := hrel
        by_cases hlt' : k' < nl
        · rcases HN.out with h0 | ⟨b', off, rfl, hss⟩
          · omega
          · obtain ⟨hc, hsz⟩ := hss k' hlt'
            unfold maxLen at hsz
            clear hss HN
            go_wp2
            all_goals first | (go_ret; exact ⟨isBoolT_false tl len, rfl⟩) | skip
            go_round
            case rel => exact ⟨k' + 1, _, by omega, by go_num, rfl⟩
            case measure => simp [intOf]; omega
        · clear HN
          go_wp2
          all_goals first | (go_ret; exact ⟨isBoolT_false tl len, rfl⟩) | skip
          go_ret
          exact ⟨⟨true, rfl, fun _ => (show k = len by omega) ▸ HA.out⟩, rfl⟩
end Go.Proofs.Qxb6609105a
