import Derived.Test.Qxb6614448aW4
namespace Go.Proofs.Qxb6614448a
open Go Go.RowKit

/-- What 'make' lays for n rows. -/
def zero10 : Array Value := #[.int .i64 0, .bool false, .string ⟨#[]⟩, .string ⟨#[]⟩, .string ⟨#[]⟩, .string ⟨#[]⟩, .string ⟨#[]⟩, .string ⟨#[]⟩, .string ⟨#[]⟩, .string ⟨#[]⟩]
def madeR (n : Nat) : Obj := .cells (madeCells zero10 (n * 10)) 39

theorem info39 : (Try.prog.info? 39).map (fun i => (i.zero, i.size, i.bytes)) = some (some (.agg zero10), 10, 144) := by kernel_rfl

theorem run_make22 (n : Nat) (h : n ≤ 1048576) (w : World) : (Instr.makeSlice 22 (.int .i64 (n : Int)) (.int .i64 (n : Int))).run Try.prog w = .ok (.slice (some ⟨w.heap.size, 0, none⟩) n n) (w.alloc (madeR n)) := by
  obtain ⟨i, hi, hz0, hz1, hz2⟩ := info_parts info39
  have hr := run_make (P := Try.prog) w 22 39 i _ Try.underlying22 hi hz0 .i64 .i64 n n (by omega) (Int.le_refl _) (by rw [hz2]; omega) (by omega)
  rw [hz1] at hr
  simpa [madeR, Value.cells] using hr

theorem madeR_cell (w : World) (n o : Nat) (h : o < n * 10) : ∃ u, (w.alloc (madeR n)).cell? ⟨w.heap.size, o, none⟩ = some u := by
  have hs := size_madeCells zero10 (n * 10)
  unfold madeR
  generalize madeCells zero10 (n * 10) = cs at hs ⊢
  refine ⟨cs[o]'(by omega), ?_⟩
  have : o < cs.size := by omega
  go_simp
theorem madeR_frozen (w : World) (n o : Nat) : (w.alloc (madeR n)).frozen? ⟨w.heap.size, o, none⟩ = false := by
  unfold madeR
  go_simp

/-- A row of the call's own: m cells are there, and may be written. -/
structure RowOk (B m : Nat) (w : World) : Prop where
  cell : ∀ o, o < m → ∃ u, w.cell? ⟨B, o, none⟩ = some u
  frozen : ∀ o, w.frozen? ⟨B, o, none⟩ = false
  lt : B < w.heap.size

theorem RowOk.below {B m : Nat} {w w' : World} (h : RowOk B m w) (hb : Below w.heap.size w w') : RowOk B m w' where
  cell := fun o ho => by obtain ⟨u, hu⟩ := h.cell o ho; exact ⟨u, (hb.cell (p := ⟨B, o, none⟩) h.lt).trans hu⟩
  frozen := fun o => (World.frozen?_of_block (a := ⟨B, o, none⟩) (hb.block B h.lt)).trans (h.frozen o)
  lt := Nat.lt_of_lt_of_le h.lt hb.size

/-- The ten cells of a row, stored at o. -/
def storedAt (w2 : World) (B o : Nat) (v0 v1 v2 v3 v4 v5 v6 v7 v8 v9 : Value) : World :=
  (((((((((w2.setCell ⟨B, o, none⟩ v0).setCell ⟨B, o + 1, none⟩ v1).setCell ⟨B, o + 2, none⟩ v2).setCell ⟨B, o + 3, none⟩ v3).setCell ⟨B, o + 4, none⟩ v4).setCell ⟨B, o + 5, none⟩ v5).setCell ⟨B, o + 6, none⟩ v6).setCell ⟨B, o + 7, none⟩ v7).setCell ⟨B, o + 8, none⟩ v8).setCell ⟨B, o + 9, none⟩ v9

section
variable (w2 : World) (B o : Nat) (v0 v1 v2 v3 v4 v5 v6 v7 v8 v9 : Value)
theorem storedAt_size : (storedAt w2 B o v0 v1 v2 v3 v4 v5 v6 v7 v8 v9).heap.size = w2.heap.size := by
  simp [storedAt, World.setCell]
theorem cell_setCell_off (w : World) (B o j : Nat) (v : Value) (h : j ≠ o) : (w.setCell ⟨B, o, none⟩ v).cell? ⟨B, j, none⟩ = w.cell? ⟨B, j, none⟩ :=
  World.cell?_setCell_other _ _ _ _ (fun e => h (by injection e with _ e2 _; exact e2.symm))
theorem storedAt_off (j : Nat) (h : j < o ∨ o + 10 ≤ j) : (storedAt w2 B o v0 v1 v2 v3 v4 v5 v6 v7 v8 v9).cell? ⟨B, j, none⟩ = w2.cell? ⟨B, j, none⟩ := by
  unfold storedAt
  repeat rw [cell_setCell_off _ _ _ _ _ (by omega)]
theorem storedAt_frozen (b j : Nat) : (storedAt w2 B o v0 v1 v2 v3 v4 v5 v6 v7 v8 v9).frozen? ⟨b, j, none⟩ = w2.frozen? ⟨b, j, none⟩ := by
  unfold storedAt
  go_simp
theorem storedAt_below {N : Nat} {w : World} (h : Below N w w2) (hB : N ≤ B) : Below N w (storedAt w2 B o v0 v1 v2 v3 v4 v5 v6 v7 v8 v9) :=
  (((((((((h.setCell (p := ⟨B, o, none⟩) hB v0).setCell (p := ⟨B, o + 1, none⟩) hB v1).setCell (p := ⟨B, o + 2, none⟩) hB v2).setCell (p := ⟨B, o + 3, none⟩) hB v3).setCell (p := ⟨B, o + 4, none⟩) hB v4).setCell (p := ⟨B, o + 5, none⟩) hB v5).setCell (p := ⟨B, o + 6, none⟩) hB v6).setCell (p := ⟨B, o + 7, none⟩) hB v7).setCell (p := ⟨B, o + 8, none⟩) hB v8).setCell (p := ⟨B, o + 9, none⟩) hB v9
end

theorem RowOk.stored {B m : Nat} {w2 : World} (h : RowOk B m w2) (o : Nat) (v0 v1 v2 v3 v4 v5 v6 v7 v8 v9 : Value) : RowOk B m (storedAt w2 B o v0 v1 v2 v3 v4 v5 v6 v7 v8 v9) where
  cell := fun j hj => by
    have step : ∀ (w : World) (o : Nat) (v : Value), (∃ u, w.cell? ⟨B, j, none⟩ = some u) → ∃ u, (w.setCell ⟨B, o, none⟩ v).cell? ⟨B, j, none⟩ = some u := by
      rintro w o v ⟨u, hu⟩
      by_cases e : j = o
      · subst e; exact ⟨v, World.cell?_setCell_same _ _ _ hu⟩
      · exact ⟨u, (cell_setCell_off _ _ _ _ _ e).trans hu⟩
    unfold storedAt
    exact step _ _ _ (step _ _ _ (step _ _ _ (step _ _ _ (step _ _ _ (step _ _ _ (step _ _ _ (step _ _ _ (step _ _ _ (step _ _ _ (h.cell j hj))))))))))
  frozen := fun j => by rw [storedAt_frozen]; exact h.frozen j
  lt := by rw [storedAt_size]; exact h.lt

theorem stored_row {B m : Nat} {w2 : World} (h : RowOk B m w2) (o : Nat) (ho : o + 10 ≤ m) (s : Int) (p : Bool) (g : Nat → ByteArray) :
    RowAt (storedAt w2 B o (.int .i64 s) (.bool p) (.string (g 2)) (.string (g 3)) (.string (g 4)) (.string (g 5)) (.string (g 6)) (.string (g 7)) (.string (g 8)) (.string (g 9))) B o s p g := by
  obtain ⟨u0, y0⟩ := h.cell o (by omega)
  obtain ⟨u1, y1⟩ := h.cell (o + 1) (by omega)
  obtain ⟨u2, y2⟩ := h.cell (o + 2) (by omega)
  obtain ⟨u3, y3⟩ := h.cell (o + 3) (by omega)
  obtain ⟨u4, y4⟩ := h.cell (o + 4) (by omega)
  obtain ⟨u5, y5⟩ := h.cell (o + 5) (by omega)
  obtain ⟨u6, y6⟩ := h.cell (o + 6) (by omega)
  obtain ⟨u7, y7⟩ := h.cell (o + 7) (by omega)
  obtain ⟨u8, y8⟩ := h.cell (o + 8) (by omega)
  obtain ⟨u9, y9⟩ := h.cell (o + 9) (by omega)
  refine ⟨?_, ?_, ?_, ?_, ?_, ?_, ?_, ?_, ?_, ?_⟩
  all_goals (unfold storedAt; go_simp)

theorem row_stored {w2 : World} {B o o' : Nat} {s : Int} {p : Bool} {g : Nat → ByteArray} (h : RowAt w2 B o' s p g) (ho : o' + 10 ≤ o ∨ o + 10 ≤ o') (v0 v1 v2 v3 v4 v5 v6 v7 v8 v9 : Value) : RowAt (storedAt w2 B o v0 v1 v2 v3 v4 v5 v6 v7 v8 v9) B o' s p g := by
  have hc : ∀ j, j < 10 → (storedAt w2 B o v0 v1 v2 v3 v4 v5 v6 v7 v8 v9).cell? ⟨B, o' + j, none⟩ = w2.cell? ⟨B, o' + j, none⟩ := fun j hj => storedAt_off _ _ _ _ _ _ _ _ _ _ _ _ _ _ (by omega)
  exact ⟨(hc 0 (by omega)).trans h.c0, (hc 1 (by omega)).trans h.c1, (hc 2 (by omega)).trans h.c2, (hc 3 (by omega)).trans h.c3, (hc 4 (by omega)).trans h.c4, (hc 5 (by omega)).trans h.c5, (hc 6 (by omega)).trans h.c6, (hc 7 (by omega)).trans h.c7, (hc 8 (by omega)).trans h.c8, (hc 9 (by omega)).trans h.c9⟩

/-- k of n rows are laid in block B. -/
structure Ren (w0 : World) (B n k : Nat) (s : Nat → Int) (p : Nat → Bool) (g : Nat → Nat → ByteArray) (wr : World) : Prop where
  bel : Below w0.heap.size w0 wr
  old : w0.heap.size ≤ B
  row : RowOk B (n * 10) wr
  rows : ∀ j, j < k → RowAt wr B (j * 10) (s j) (p j) (g j)

theorem Ren.start (w : World) (n : Nat) (s : Nat → Int) (p : Nat → Bool) (g : Nat → Nat → ByteArray) : Ren w w.heap.size n 0 s p g (w.alloc (madeR n)) :=
  ⟨(Below.refl _ w).alloc (Nat.le_refl _) _, Nat.le_refl _, ⟨fun o ho => madeR_cell w n o ho, fun o => madeR_frozen w n o, by simp⟩, fun j hj => by omega⟩

theorem Ren.below {w0 : World} {B n k : Nat} {s : Nat → Int} {p : Nat → Bool} {g : Nat → Nat → ByteArray} {wr w : World} (h : Ren w0 B n k s p g wr) (H : Below wr.heap.size wr w) : Ren w0 B n k s p g w :=
  ⟨h.bel.trans (H.mono h.bel.size), h.old, h.row.below H, fun j hj => (h.rows j hj).below H⟩

theorem Ren.next {w0 : World} {B n k : Nat} {s : Nat → Int} {p : Nat → Bool} {g : Nat → Nat → ByteArray} {wr : World} (h : Ren w0 B n k s p g wr) (hk : k < n) {x2 x3 x4 x5 x6 x7 x8 x9 : ByteArray}
    (e2 : g k 2 = x2) (e3 : g k 3 = x3) (e4 : g k 4 = x4) (e5 : g k 5 = x5) (e6 : g k 6 = x6) (e7 : g k 7 = x7) (e8 : g k 8 = x8) (e9 : g k 9 = x9) :
    Ren w0 B n (k + 1) s p g (storedAt wr B (k * 10) (.int .i64 (s k)) (.bool (p k)) (.string x2) (.string x3) (.string x4) (.string x5) (.string x6) (.string x7) (.string x8) (.string x9)) := by
  subst e2 e3 e4 e5 e6 e7 e8 e9
  refine ⟨storedAt_below _ _ _ _ _ _ _ _ _ _ _ _ _ h.bel h.old, h.old, h.row.stored _ _ _ _ _ _ _ _ _ _ _, fun j hj => ?_⟩
  by_cases e : j = k
  · subst e
    exact stored_row h.row _ (by omega) _ _ _
  · exact row_stored (h.rows j (by omega)) (by omega) _ _ _ _ _ _ _ _ _ _

theorem Ren.all {w0 : World} {B n : Nat} {s : Nat → Int} {p : Nat → Bool} {g : Nat → Nat → ByteArray} {wr : World} (h : Ren w0 B n n s p g wr) : RowsIn wr (some ⟨B, 0, none⟩) n s p g := fun k hk => ⟨B, 0, rfl, by rw [Nat.zero_add]; exact h.rows k hk⟩

/-- The ten cells of row k may be written, in a world with one block more. -/
theorem Ren.ten {w0 : World} {B n k : Nat} {s : Nat → Int} {p : Nat → Bool} {g : Nat → Nat → ByteArray} {wr : World} (h : Ren w0 B n k s p g wr) (hk : k < n) (i : Nat) (hi : i < 10) : ∃ u, ∀ A, (wr.alloc A).cell? ⟨B, k * 10 + i, none⟩ = some u := by
  obtain ⟨u, hu⟩ := h.row.cell (k * 10 + i) (by omega)
  exact ⟨u, fun A => (World.cell?_alloc_old _ _ _ (by have := h.row.lt; show B ≠ _; omega)).trans hu⟩
theorem Ren.fr {w0 : World} {B n k : Nat} {s : Nat → Int} {p : Nat → Bool} {g : Nat → Nat → ByteArray} {wr : World} (h : Ren w0 B n k s p g wr) (A : Obj) (o : Nat) : (wr.alloc A).frozen? ⟨B, o, none⟩ = false :=
  (h.row.below ((Below.refl _ wr).alloc (Nat.le_refl _) A)).frozen o

/-! ### The plain law -/
/-- A field renamed. -/
def ren1 (nd ot x : ByteArray) : ByteArray := if x.toList == nd.toList then ot else x
/-- A row renamed. -/
def ren (nd ot : ByteArray) (g : Nat → ByteArray) (j : Nat) : ByteArray := if j = 3 ∨ j = 6 ∨ j = 7 ∨ j = 9 then ren1 nd ot (g j) else g j

theorem ren1_nd {nd ot : ByteArray} (h : (nd.toList == ot.toList) = false) (x : ByteArray) : ((ren1 nd ot x).toList == nd.toList) = false := by
  unfold ren1
  cases hx : (x.toList == nd.toList) with
  | true =>
    rw [if_pos rfl]
    have hne : nd.toList ≠ ot.toList := by simpa using h
    simpa using fun e => hne e.symm
  | false => rw [if_neg (by simp)]; exact hx
theorem ren1_ot {nd ot : ByteArray} (x : ByteArray) : ((ren1 nd ot x).toList == ot.toList) = (x.toList == nd.toList || x.toList == ot.toList) := by
  unfold ren1
  cases hx : (x.toList == nd.toList) with
  | true => rw [if_pos rfl]; simp
  | false => rw [if_neg (by simp)]; simp

theorem hit_nd {nd ot : ByteArray} (h : (nd.toList == ot.toList) = false) (g : Nat → ByteArray) : hit (ren nd ot g) nd = false := by
  unfold hit
  rw [show ren nd ot g 3 = ren1 nd ot (g 3) from rfl, show ren nd ot g 6 = ren1 nd ot (g 6) from rfl, show ren nd ot g 7 = ren1 nd ot (g 7) from rfl, show ren nd ot g 9 = ren1 nd ot (g 9) from rfl, ren1_nd h, ren1_nd h, ren1_nd h, ren1_nd h]
  rfl
theorem hit_ot {nd ot : ByteArray} (g : Nat → ByteArray) : hit (ren nd ot g) ot = (hit g nd || hit g ot) := by
  unfold hit
  rw [show ren nd ot g 3 = ren1 nd ot (g 3) from rfl, show ren nd ot g 6 = ren1 nd ot (g 6) from rfl, show ren nd ot g 7 = ren1 nd ot (g 7) from rfl, show ren nd ot g 9 = ren1 nd ot (g 9) from rfl, ren1_ot, ren1_ot, ren1_ot, ren1_ot]
  generalize ((g 3).toList == nd.toList) = a3; generalize ((g 3).toList == ot.toList) = b3
  generalize ((g 6).toList == nd.toList) = a6; generalize ((g 6).toList == ot.toList) = b6
  generalize ((g 7).toList == nd.toList) = a7; generalize ((g 7).toList == ot.toList) = b7
  generalize ((g 9).toList == nd.toList) = a9; generalize ((g 9).toList == ot.toList) = b9
  cases a3 <;> cases b3 <;> cases a6 <;> cases b6 <;> cases a7 <;> cases b7 <;> cases a9 <;> cases b9 <;> rfl

theorem held_nd {nd ot : ByteArray} (h : (nd.toList == ot.toList) = false) (f : Nat → Nat → ByteArray) : ∀ n, held (fun k => ren nd ot (f k)) nd n = false
  | 0 => rfl
  | n + 1 => by
    show (held (fun k => ren nd ot (f k)) nd n || hit (ren nd ot (f n)) nd) = false
    rw [held_nd h f n, hit_nd h]
    rfl
theorem held_ot {nd ot : ByteArray} (f : Nat → Nat → ByteArray) : ∀ n, held (fun k => ren nd ot (f k)) ot n = (held f nd n || held f ot n)
  | 0 => rfl
  | n + 1 => by
    show (held (fun k => ren nd ot (f k)) ot n || hit (ren nd ot (f n)) ot) = ((held f nd n || hit (f n) nd) || (held f ot n || hit (f n) ot))
    rw [held_ot f n, hit_ot]
    generalize held f nd n = a; generalize held f ot n = b; generalize hit (f n) nd = c; generalize hit (f n) ot = d
    cases a <;> cases b <;> cases c <;> cases d <;> rfl
end Go.Proofs.Qxb6614448a
