import Derived.Test.Qxb6613740aDoorW4
namespace Go.Proofs.Qxb6613740aDoor
open Go Go.RowKit

/-- The six bytes as one number. -/
def key (a : Nat → Int) (s : Int) : Int := num4 (a 0) (a 1) (a 2) (a 3) * 65536 + s

theorem key_ok (a : Nat → Int) (s : Int) (ha : ∀ j, 0 ≤ a j ∧ a j < 256) (hs : 0 ≤ s ∧ s < 65536) : 0 ≤ key a s ∧ key a s < 281474976710656 := by
  have h0 := ha 0; have h1 := ha 1; have h2 := ha 2; have h3 := ha 3
  unfold key num4
  omega

/-- THE PLAIN LAW: the keys are in order as the bytes are. -/
theorem cmp_law (a b : Nat → Int) (s t : Int) (ha : ∀ j, 0 ≤ a j ∧ a j < 256) (hb : ∀ j, 0 ≤ b j ∧ b j < 256) (hs : 0 ≤ s ∧ s < 65536) (ht : 0 ≤ t ∧ t < 65536) :
    (key a s < key b t ∧ cmpBytes a b s t 4 = -1) ∨ (key a s = key b t ∧ cmpBytes a b s t 4 = 0) ∨ (key b t < key a s ∧ cmpBytes a b s t 4 = 1) := by
  have h0 := ha 0; have h1 := ha 1; have h2 := ha 2; have h3 := ha 3
  have g0 := hb 0; have g1 := hb 1; have g2 := hb 2; have g3 := hb 3
  unfold key num4
  simp only [cmpBytes, sign3, Nat.reduceSub]
  generalize a 0 = a0 at *; generalize a 1 = a1 at *; generalize a 2 = a2 at *; generalize a 3 = a3 at *
  generalize b 0 = b0 at *; generalize b 1 = b1 at *; generalize b 2 = b2 at *; generalize b 3 = b3 at *
  clear ha hb
  repeat' split
  all_goals omega

/-- It returns true; what was there is as it was. -/
def RT (w : World) (e : Ending) (w' : World) : Prop := e = .returned (.bool true) ∧ Below w.heap.size w w'

theorem shr48 (k : Int) (h : 0 ≤ k ∧ k < 281474976710656) : k / 281474976710656 = 0 := by omega

/-- The two boxes of the arguments. -/
def boxes (a b : Nat → Int) (w : World) : World := (w.alloc (.cells #[.int .u8 (a 0), .int .u8 (a 1), .int .u8 (a 2), .int .u8 (a 3)] 39)).alloc (.cells #[.int .u8 (b 0), .int .u8 (b 1), .int .u8 (b 2), .int .u8 (b 3)] 39)

theorem boxes_cells {a b : Nat → Int} {w w1 : World} (B : Below (boxes a b w).heap.size (boxes a b w) w1) :
    (w1.cell? ⟨w.heap.size, 0, none⟩ = some (.int .u8 (a 0)) ∧ w1.cell? ⟨w.heap.size, 1, none⟩ = some (.int .u8 (a 1)) ∧ w1.cell? ⟨w.heap.size, 2, none⟩ = some (.int .u8 (a 2)) ∧ w1.cell? ⟨w.heap.size, 3, none⟩ = some (.int .u8 (a 3))) ∧
    (w1.cell? ⟨w.heap.size + 1, 0, none⟩ = some (.int .u8 (b 0)) ∧ w1.cell? ⟨w.heap.size + 1, 1, none⟩ = some (.int .u8 (b 1)) ∧ w1.cell? ⟨w.heap.size + 1, 2, none⟩ = some (.int .u8 (b 2)) ∧ w1.cell? ⟨w.heap.size + 1, 3, none⟩ = some (.int .u8 (b 3))) := by
  have k0 : ∀ j v, (boxes a b w).cell? ⟨w.heap.size, j, none⟩ = some v → w1.cell? ⟨w.heap.size, j, none⟩ = some v := fun j v h => (B.cell (p := ⟨w.heap.size, j, none⟩) (by simp [boxes]; omega)).trans h
  have k1 : ∀ j v, (boxes a b w).cell? ⟨w.heap.size + 1, j, none⟩ = some v → w1.cell? ⟨w.heap.size + 1, j, none⟩ = some v := fun j v h => (B.cell (p := ⟨w.heap.size + 1, j, none⟩) (by simp [boxes])).trans h
  refine ⟨⟨k0 _ _ ?_, k0 _ _ ?_, k0 _ _ ?_, k0 _ _ ?_⟩, ⟨k1 _ _ ?_, k1 _ _ ?_, k1 _ _ ?_, k1 _ _ ?_⟩⟩ <;> unfold boxes <;> go_simp

theorem boxes_z {a b : Nat → Int} {w w1 : World} {p : Addr} (B : Below (boxes a b w).heap.size (boxes a b w) w1) (hz : w.cell? ⟨1, 0, none⟩ = some (.pointer (some p))) : w1.cell? ⟨1, 0, none⟩ = some (.pointer (some p)) := by
  have hsz : 1 < w.heap.size := World.block_lt_of_cell? _ _ hz
  exact (B.cell (p := ⟨1, 0, none⟩) (by simp [boxes] <;> omega)).trans ((cell_two hz).2 _ _)

set_option maxHeartbeats 4000000 in
theorem orders_any (a b : Nat → Int) (s t : Int) (p : Addr) (w : World) (ha : ∀ j, 0 ≤ a j ∧ a j < 256) (hb : ∀ j, 0 ≤ b j ∧ b j < 256) (hs : 0 ≤ s ∧ s < 65536) (ht : 0 ≤ t ∧ t < 65536) (hz : w.cell? ⟨1, 0, none⟩ = some (.pointer (some p))) :
    Calls Tryd.prog 4 #[.agg #[.int .u8 (a 0), .int .u8 (a 1), .int .u8 (a 2), .int .u8 (a 3)], .int .u16 s, .agg #[.int .u8 (b 0), .int .u8 (b 1), .int .u8 (b 2), .int .u8 (b 3)], .int .u16 t] w (RT w) := by
  have hz2 := (cell_two hz).2
  go_enter Tryd.func4, Tryd.ntmps4
  go_wp2_with fail
  refine (keyOf9 (a 0) (a 1) (a 2) (a 3) s p _ (ha 0) (ha 1) (ha 2) (ha 3) hs (hz2 _ _)).mono ?_
  rintro e w1 ⟨rfl, B1⟩
  obtain ⟨⟨a0, a1, a2, a3⟩, b0, b1, b2, b3⟩ := boxes_cells B1
  go_wp2_with fail
  clear a0 a1 a2 a3 b0 b1 b2 b3
  refine (keyOf9 (b 0) (b 1) (b 2) (b 3) t p _ (hb 0) (hb 1) (hb 2) (hb 3) ht (boxes_z B1 hz)).mono ?_
  rintro e w2 ⟨rfl, B2⟩
  have B12 : Below (boxes a b w).heap.size (boxes a b w) w2 := B1.trans (B2.mono B1.size)
  obtain ⟨⟨a0, a1, a2, a3⟩, b0, b1, b2, b3⟩ := boxes_cells B12
  go_wp2_with fail
  clear a0 a1 a2 a3 b0 b1 b2 b3
  refine (cmp10 a b s t _).mono ?_
  rintro e w3 ⟨rfl, B3⟩
  have BB : Below w.heap.size w w3 := (below_two w _ _).trans ((B12.mono (by simp [boxes]; omega)).trans (B3.mono (by have := B12.size; simp [boxes] at this; omega)))
  have k1 := key_ok a s ha hs
  have k2 := key_ok b t hb ht
  have s1 := shr48 _ k1
  have s2 := shr48 _ k2
  have hl := cmp_law a b s t ha hb hs ht
  unfold key at hl k1 k2 s1 s2
  generalize num4 (a 0) (a 1) (a 2) (a 3) * 65536 + s = x at hl k1 k2 s1 s2 ⊢
  generalize num4 (b 0) (b 1) (b 2) (b 3) * 65536 + t = y at hl k1 k2 s1 s2 ⊢
  clear B1 B2 B12 B3
  rcases hl with ⟨hl, hc⟩ | ⟨hl, hc⟩ | ⟨hl, hc⟩
  · have hne : (x == y) = false := by simp; omega
    rw [hc]
    go_wp2_with fail
    go_ret
    exact ⟨rfl, BB⟩
  · subst hl
    rw [hc]
    go_wp2_with fail
    go_ret
    exact ⟨rfl, BB⟩
  · have hne : (x == y) = false := by simp; omega
    have hnl : decide (x < y) = false := by simp; omega
    rw [hc]
    go_wp2_with fail
    go_ret
    exact ⟨rfl, BB⟩
end Go.Proofs.Qxb6613740aDoor
