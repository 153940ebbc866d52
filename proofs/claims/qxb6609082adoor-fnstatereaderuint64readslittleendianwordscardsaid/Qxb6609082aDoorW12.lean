import Derived.Test.Qxb6609082aDoorW11
namespace Go.Proofs.Qxb6609082aDoor
open Go Go.RowKit

theorem Src.below {sa : Option Addr} {d : Nat → Int} {n N : Nat} {w w' : World} (h : Src sa d n w) (b : Below N w w') (hN : w.heap.size ≤ N) : Src sa d n w' where
  dat := by
    rcases h.dat with h0 | ⟨bd, e, hl, hc⟩
    · exact .inl h0
    · exact .inr ⟨bd, e, Nat.lt_of_lt_of_le hl b.size, fun j hj => (b.cell (p := ⟨bd, j, none⟩) (Nat.lt_of_lt_of_le hl hN)).trans (hc j hj)⟩
  lt := fun bd e => Nat.lt_of_lt_of_le (h.lt bd e) b.size

/-- a, then b. -/
def join (da db : Nat → Int) (n t : Nat) : Int := if t < n then da t else db (t - n)

theorem pad_join {da db : Nat → Int} {n m t : Nat} (h : t < n) : pad (join da db n) (n + m) t = pad da n t := by
  unfold pad join
  rw [if_pos (by omega), if_pos h, if_pos h]

theorem word_prefix {da db : Nat → Int} {n m i : Nat} (h : 8 * i + 8 ≤ n) : wordAt da n i = wordAt (join da db n) (n + m) i := by
  unfold wordAt word8
  simp only []
  rw [pad_join (by omega), pad_join (by omega), pad_join (by omega), pad_join (by omega), pad_join (by omega), pad_join (by omega), pad_join (by omega), pad_join (by omega)]

theorem word_ok {d : Nat → Int} (hd : ∀ j, 0 ≤ d j ∧ d j < 256) (n i : Nat) : 0 ≤ wordAt d n i ∧ wordAt d n i < 18446744073709551616 := by
  have h := fun t => pad_ok hd n t
  have h0 := h (8 * i + 0); have h1 := h (8 * i + 1); have h2 := h (8 * i + 2); have h3 := h (8 * i + 3); have h4 := h (8 * i + 4); have h5 := h (8 * i + 5); have h6 := h (8 * i + 6); have h7 := h (8 * i + 7)
  unfold wordAt word8
  simp only []
  omega

theorem join_ok {da db : Nat → Int} (ha : ∀ j, 0 ≤ da j ∧ da j < 256) (hb : ∀ j, 0 ≤ db j ∧ db j < 256) (n : Nat) : ∀ j, 0 ≤ join da db n j ∧ join da db n j < 256 := by
  intro j
  unfold join
  split
  · exact ha j
  · exact hb _

theorem pad_end {da : Nat → Int} {n t : Nat} (h : n ≤ t) : pad da n t = 0 := by unfold pad; rw [if_neg (by omega)]

/-- The next word of a is the low bytes of the longer reader's. -/
theorem word_cut {da db : Nat → Int} (ha : ∀ j, 0 ≤ da j ∧ da j < 256) (hb : ∀ j, 0 ≤ db j ∧ db j < 256) (n m q r : Nat) (hn : n = 8 * q + r) (hr : r < 8) :
    wordAt da n q = wordAt (join da db n) (n + m) q % (2 : Int) ^ (8 * r) := by
  have h := fun t => pad_ok (join_ok ha hb n) (n + m) t
  have h0 := h (8 * q + 0); have h1 := h (8 * q + 1); have h2 := h (8 * q + 2); have h3 := h (8 * q + 3); have h4 := h (8 * q + 4); have h5 := h (8 * q + 5); have h6 := h (8 * q + 6); have h7 := h (8 * q + 7)
  have hj : ∀ t, t < n → pad da n t = pad (join da db n) (n + m) t := fun t ht => (pad_join ht).symm
  have hz : ∀ t, n ≤ t → pad da n t = 0 := fun t ht => pad_end ht
  unfold wordAt word8
  simp only []
  generalize pad (join da db n) (n + m) = p at *
  have e : r = 0 ∨ r = 1 ∨ r = 2 ∨ r = 3 ∨ r = 4 ∨ r = 5 ∨ r = 6 ∨ r = 7 := by omega
  rcases e with rfl | rfl | rfl | rfl | rfl | rfl | rfl | rfl
  · rw [hz (8 * q + 0) (by omega), hz (8 * q + 1) (by omega), hz (8 * q + 2) (by omega), hz (8 * q + 3) (by omega), hz (8 * q + 4) (by omega), hz (8 * q + 5) (by omega), hz (8 * q + 6) (by omega), hz (8 * q + 7) (by omega)]
    omega
  · rw [hj (8 * q + 0) (by omega), hz (8 * q + 1) (by omega), hz (8 * q + 2) (by omega), hz (8 * q + 3) (by omega), hz (8 * q + 4) (by omega), hz (8 * q + 5) (by omega), hz (8 * q + 6) (by omega), hz (8 * q + 7) (by omega)]
    omega
  · rw [hj (8 * q + 0) (by omega), hj (8 * q + 1) (by omega), hz (8 * q + 2) (by omega), hz (8 * q + 3) (by omega), hz (8 * q + 4) (by omega), hz (8 * q + 5) (by omega), hz (8 * q + 6) (by omega), hz (8 * q + 7) (by omega)]
    omega
  · rw [hj (8 * q + 0) (by omega), hj (8 * q + 1) (by omega), hj (8 * q + 2) (by omega), hz (8 * q + 3) (by omega), hz (8 * q + 4) (by omega), hz (8 * q + 5) (by omega), hz (8 * q + 6) (by omega), hz (8 * q + 7) (by omega)]
    omega
  · rw [hj (8 * q + 0) (by omega), hj (8 * q + 1) (by omega), hj (8 * q + 2) (by omega), hj (8 * q + 3) (by omega), hz (8 * q + 4) (by omega), hz (8 * q + 5) (by omega), hz (8 * q + 6) (by omega), hz (8 * q + 7) (by omega)]
    omega
  · rw [hj (8 * q + 0) (by omega), hj (8 * q + 1) (by omega), hj (8 * q + 2) (by omega), hj (8 * q + 3) (by omega), hj (8 * q + 4) (by omega), hz (8 * q + 5) (by omega), hz (8 * q + 6) (by omega), hz (8 * q + 7) (by omega)]
    omega
  · rw [hj (8 * q + 0) (by omega), hj (8 * q + 1) (by omega), hj (8 * q + 2) (by omega), hj (8 * q + 3) (by omega), hj (8 * q + 4) (by omega), hj (8 * q + 5) (by omega), hz (8 * q + 6) (by omega), hz (8 * q + 7) (by omega)]
    omega
  · rw [hj (8 * q + 0) (by omega), hj (8 * q + 1) (by omega), hj (8 * q + 2) (by omega), hj (8 * q + 3) (by omega), hj (8 * q + 4) (by omega), hj (8 * q + 5) (by omega), hj (8 * q + 6) (by omega), hz (8 * q + 7) (by omega)]
    omega

theorem word_mask {da db : Nat → Int} (ha : ∀ j, 0 ≤ da j ∧ da j < 256) (hb : ∀ j, 0 ≤ db j ∧ db j < 256) (n m q r : Nat) (hn : n = 8 * q + r) (hr : r < 8) :
    bits .and .u64 (wordAt (join da db n) (n + m) q) ((2 : Int) ^ (8 * r) - 1) = wordAt da n q := by
  rw [word_cut ha hb n m q r hn hr]
  have hw := word_ok (join_ok ha hb n) (n + m) q
  exact bits_mask .u64 64 (by decide) wraps_u64 (8 * r) (by omega) _ hw.1 (by have := hw.2; simpa using this)
end Go.Proofs.Qxb6609082aDoor
