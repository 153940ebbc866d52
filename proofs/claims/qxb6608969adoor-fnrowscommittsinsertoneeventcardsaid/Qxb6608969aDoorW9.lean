import Derived.Test.Qxb6608969aDoorW8
namespace Go.Proofs.Qxb6608969aDoor
open Go Go.RowKit

/-- What 'make' lays for n events. -/
def madeObj (n : Nat) (t : TypeId) : Obj := .cells (madeCells #[.pointer none, .int .u64 0, .bool false, .bool false, .pointer none, .pointer none, .string ⟨#[]⟩] (n * 7)) t

theorem info47 : (Tryd.prog.info? 47).map (fun i => (i.zero, i.size, i.bytes)) = some (some (.agg #[.pointer none, .int .u64 0, .bool false, .bool false, .pointer none, .pointer none, .string ⟨#[]⟩]), 7, 56) := by kernel_rfl
theorem info29 : (Tryd.prog.info? 29).map (fun i => (i.zero, i.size, i.bytes)) = some (some (.agg #[.pointer none, .int .u64 0, .bool false, .bool false, .pointer none, .pointer none, .string ⟨#[]⟩]), 7, 56) := by kernel_rfl

theorem run_make47 (n : Nat) (h : n ≤ 1048576) (w : World) : (Instr.makeSlice 34 (.int .i64 (n : Int)) (.int .i64 (n : Int))).run Tryd.prog w = .ok (.slice (some ⟨w.heap.size, 0, none⟩) n n) (w.alloc (madeObj n 47)) := by
  obtain ⟨i, hi, hz0, hz1, hz2⟩ := info_parts info47
  have hr := run_make (P := Tryd.prog) w 34 47 i _ Tryd.underlying34 hi hz0 .i64 .i64 n n (by omega) (Int.le_refl _) (by rw [hz2]; omega) (by omega)
  rw [hz1] at hr
  simpa [madeObj, Value.cells] using hr

theorem made_cell (w : World) (n : Nat) (t : TypeId) (o : Nat) (h : o < n * 7) : ∃ u, (w.alloc (madeObj n t)).cell? ⟨w.heap.size, o, none⟩ = some u := by
  have hs := size_madeCells #[.pointer none, .int .u64 0, .bool false, .bool false, .pointer none, .pointer none, .string ⟨#[]⟩] (n * 7)
  unfold madeObj
  generalize madeCells #[.pointer none, .int .u64 0, .bool false, .bool false, .pointer none, .pointer none, .string ⟨#[]⟩] (n * 7) = cs at hs ⊢
  refine ⟨cs[o]'(by omega), ?_⟩
  have : o < cs.size := by omega
  go_simp

theorem made_frozen (w : World) (n : Nat) (t : TypeId) (o : Nat) : (w.alloc (madeObj n t)).frozen? ⟨w.heap.size, o, none⟩ = false := by
  unfold madeObj
  go_simp

/-- A row of the call's own: m cells are there, and may be written. -/
structure RowOk (B m : Nat) (w : World) : Prop where
  cell : ∀ o, o < m → ∃ u, w.cell? ⟨B, o, none⟩ = some u
  frozen : ∀ o, w.frozen? ⟨B, o, none⟩ = false
  lt : B < w.heap.size

theorem RowOk.below {B m : Nat} {w w' : World} (h : RowOk B m w) (hb : Below w.heap.size w w') : RowOk B m w' where
  cell := fun o ho => by obtain ⟨u, hu⟩ := h.cell o ho; exact ⟨u, (hb.cell (p := ⟨B, o, none⟩) h.lt).trans hu⟩
  frozen := fun o => (hb.frozen (p := ⟨B, o, none⟩) h.lt).trans (h.frozen o)
  lt := Nat.lt_of_lt_of_le h.lt hb.size

theorem rowOk_made (w : World) (n : Nat) (t : TypeId) : RowOk w.heap.size (n * 7) (w.alloc (madeObj n t)) where
  cell := fun o ho => made_cell w n t o ho
  frozen := fun o => made_frozen w n t o
  lt := by simp

/-- The seven cells of an event, stored at o. -/
def storedAt (w2 : World) (B o : Nat) (v0 v1 v2 v3 v4 v5 v6 : Value) : World :=
  ((((((w2.setCell ⟨B, o, none⟩ v0).setCell ⟨B, o + 1, none⟩ v1).setCell ⟨B, o + 2, none⟩ v2).setCell ⟨B, o + 3, none⟩ v3).setCell ⟨B, o + 4, none⟩ v4).setCell ⟨B, o + 5, none⟩ v5).setCell ⟨B, o + 6, none⟩ v6

section
variable (w2 : World) (B o : Nat) (v0 v1 v2 v3 v4 v5 v6 : Value)
theorem storedAt_size : (storedAt w2 B o v0 v1 v2 v3 v4 v5 v6).heap.size = w2.heap.size := by
  simp [storedAt, World.setCell]
theorem storedAt_far (b j : Nat) (h : b ≠ B) : (storedAt w2 B o v0 v1 v2 v3 v4 v5 v6).cell? ⟨b, j, none⟩ = w2.cell? ⟨b, j, none⟩ := by
  unfold storedAt
  simp only [World.cell?]
  repeat rw [Below.heap_setCell _ _ _ _ (by simpa using h)]
theorem cell_setCell_off (w : World) (B o j : Nat) (v : Value) (h : j ≠ o) : (w.setCell ⟨B, o, none⟩ v).cell? ⟨B, j, none⟩ = w.cell? ⟨B, j, none⟩ := by
  exact World.cell?_setCell_other _ _ _ _ (fun e => h (by injection e with _ e2 _; exact e2.symm))
theorem storedAt_off (j : Nat) (h : j < o ∨ o + 7 ≤ j) : (storedAt w2 B o v0 v1 v2 v3 v4 v5 v6).cell? ⟨B, j, none⟩ = w2.cell? ⟨B, j, none⟩ := by
  unfold storedAt
  repeat rw [cell_setCell_off _ _ _ _ _ (by omega)]
theorem storedAt_frozen (b j : Nat) : (storedAt w2 B o v0 v1 v2 v3 v4 v5 v6).frozen? ⟨b, j, none⟩ = w2.frozen? ⟨b, j, none⟩ := by
  unfold storedAt
  go_simp
theorem storedAt_below {N : Nat} {w : World} (h : Below N w w2) (hB : N ≤ B) : Below N w (storedAt w2 B o v0 v1 v2 v3 v4 v5 v6) :=
  ((((((h.setCell (p := ⟨B, o, none⟩) hB v0).setCell (p := ⟨B, o + 1, none⟩) hB v1).setCell (p := ⟨B, o + 2, none⟩) hB v2).setCell (p := ⟨B, o + 3, none⟩) hB v3).setCell (p := ⟨B, o + 4, none⟩) hB v4).setCell (p := ⟨B, o + 5, none⟩) hB v5).setCell (p := ⟨B, o + 6, none⟩) hB v6
end

/-- One event of the call's own, in a row. -/
def EvOut (L M : Nat) (w : World) (b o : Nat) (c : Option (ByteArray × Int)) : Prop :=
  ∃ (p0 : Option Addr) (t1 : Int) (b2 b3 : Bool) (p4 p5 : Option Addr) (s6 : ByteArray),
    w.cell? ⟨b, o, none⟩ = some (.pointer p0) ∧ w.cell? ⟨b, o + 1, none⟩ = some (.int .u64 t1) ∧ w.cell? ⟨b, o + 2, none⟩ = some (.bool b2) ∧
    w.cell? ⟨b, o + 3, none⟩ = some (.bool b3) ∧ w.cell? ⟨b, o + 4, none⟩ = some (.pointer p4) ∧ w.cell? ⟨b, o + 5, none⟩ = some (.pointer p5) ∧
    w.cell? ⟨b, o + 6, none⟩ = some (.string s6) ∧ ChgOut L M w p0 c

theorem ChgOut.below {L M : Nat} {w w' : World} {p : Option Addr} {c : Option (ByteArray × Int)} (hb : Below M w w') (h : ChgOut L M w p c) : ChgOut L M w' p c := by
  rcases h with h | ⟨b, op, ts, e1, e2, ⟨h1, h2⟩, h3, h4⟩
  · exact .inl h
  · exact .inr ⟨b, op, ts, e1, e2, ⟨h1, h2⟩, (hb.cell h2).trans h3, (hb.cell h2).trans h4⟩

theorem ChgOut.mono {L L' M M' : Nat} {w : World} {p : Option Addr} {c : Option (ByteArray × Int)} (h : ChgOut L M w p c) (hL : L' ≤ L) (hM : M ≤ M') : ChgOut L' M' w p c := by
  rcases h with h | ⟨b, op, ts, e1, e2, ⟨h1, h2⟩, h3, h4⟩
  · exact .inl h
  · exact .inr ⟨b, op, ts, e1, e2, ⟨by omega, by omega⟩, h3, h4⟩

theorem EvOut.below {L M : Nat} {w w' : World} {b o : Nat} {c : Option (ByteArray × Int)} (hb : Below M w w') (hM : b < M) (h : EvOut L M w b o c) : EvOut L M w' b o c := by
  obtain ⟨p0, t1, b2, b3, p4, p5, s6, h0, h1, h2, h3, h4, h5, h6, k0⟩ := h
  exact ⟨p0, t1, b2, b3, p4, p5, s6, (hb.cell hM).trans h0, (hb.cell hM).trans h1, (hb.cell hM).trans h2, (hb.cell hM).trans h3, (hb.cell hM).trans h4, (hb.cell hM).trans h5, (hb.cell hM).trans h6, k0.below hb⟩

theorem EvOut.mono {L M M' : Nat} {w : World} {b o : Nat} {c : Option (ByteArray × Int)} (h : EvOut L M w b o c) (hM : M ≤ M') : EvOut L M' w b o c := by
  obtain ⟨p0, t1, b2, b3, p4, p5, s6, h0, h1, h2, h3, h4, h5, h6, k0⟩ := h
  exact ⟨p0, t1, b2, b3, p4, p5, s6, h0, h1, h2, h3, h4, h5, h6, k0.mono (Nat.le_refl _) hM⟩

/-- A store elsewhere in the row keeps an event. -/
theorem EvOut.stored {L M : Nat} {w2 : World} {B o o' : Nat} {c : Option (ByteArray × Int)} (h : EvOut L M w2 B o c) (hL : B < L) (ho : o + 7 ≤ o' ∨ o' + 7 ≤ o) (v0 v1 v2 v3 v4 v5 v6 : Value) : EvOut L M (storedAt w2 B o' v0 v1 v2 v3 v4 v5 v6) B o c := by
  obtain ⟨p0, t1, b2, b3, p4, p5, s6, h0, h1, h2, h3, h4, h5, h6, k0⟩ := h
  have hc : ∀ j, j < 7 → (storedAt w2 B o' v0 v1 v2 v3 v4 v5 v6).cell? ⟨B, o + j, none⟩ = w2.cell? ⟨B, o + j, none⟩ := fun j hj => storedAt_off _ _ _ _ _ _ _ _ _ _ _ (by omega)
  refine ⟨p0, t1, b2, b3, p4, p5, s6, (hc 0 (by omega)).trans h0, (hc 1 (by omega)).trans h1, (hc 2 (by omega)).trans h2, (hc 3 (by omega)).trans h3, (hc 4 (by omega)).trans h4, (hc 5 (by omega)).trans h5, (hc 6 (by omega)).trans h6, ?_⟩
  rcases k0 with h | ⟨b, op, ts, e1, e2, ⟨g1, g2⟩, g3, g4⟩
  · exact .inl h
  · exact .inr ⟨b, op, ts, e1, e2, ⟨g1, g2⟩, by rw [storedAt_far _ _ _ _ _ _ _ _ _ _ _ _ (by omega)]; exact g3, by rw [storedAt_far _ _ _ _ _ _ _ _ _ _ _ _ (by omega)]; exact g4⟩

/-- What was stored is an event. -/
theorem EvOut.new {L M m : Nat} {w2 : World} {B o : Nat} {c : Option (ByteArray × Int)} {p0 : Option Addr} {t1 : Int} {b2 b3 : Bool} {p4 p5 : Option Addr} {s6 : ByteArray} (hr : RowOk B m w2) (ho : o + 7 ≤ m) (hL : B < L) (k0 : ChgOut L M w2 p0 c) :
    EvOut L M (storedAt w2 B o (.pointer p0) (.int .u64 t1) (.bool b2) (.bool b3) (.pointer p4) (.pointer p5) (.string s6)) B o c := by
  obtain ⟨u0, y0⟩ := hr.cell o (by omega)
  obtain ⟨u1, y1⟩ := hr.cell (o + 1) (by omega)
  obtain ⟨u2, y2⟩ := hr.cell (o + 2) (by omega)
  obtain ⟨u3, y3⟩ := hr.cell (o + 3) (by omega)
  obtain ⟨u4, y4⟩ := hr.cell (o + 4) (by omega)
  obtain ⟨u5, y5⟩ := hr.cell (o + 5) (by omega)
  obtain ⟨u6, y6⟩ := hr.cell (o + 6) (by omega)
  refine ⟨p0, t1, b2, b3, p4, p5, s6, ?_, ?_, ?_, ?_, ?_, ?_, ?_, ?_⟩
  case refine_8 =>
    rcases k0 with h | ⟨b, op, ts, e1, e2, ⟨g1, g2⟩, g3, g4⟩
    · exact .inl h
    · exact .inr ⟨b, op, ts, e1, e2, ⟨g1, g2⟩, by rw [storedAt_far _ _ _ _ _ _ _ _ _ _ _ _ (by omega)]; exact g3, by rw [storedAt_far _ _ _ _ _ _ _ _ _ _ _ _ (by omega)]; exact g4⟩
  all_goals (unfold storedAt; go_simp)

theorem RowOk.stored {B m : Nat} {w2 : World} (h : RowOk B m w2) (o : Nat) (v0 v1 v2 v3 v4 v5 v6 : Value) : RowOk B m (storedAt w2 B o v0 v1 v2 v3 v4 v5 v6) where
  cell := fun j hj => by
    have step : ∀ (w : World) (o : Nat) (v : Value), (∃ u, w.cell? ⟨B, j, none⟩ = some u) → ∃ u, (w.setCell ⟨B, o, none⟩ v).cell? ⟨B, j, none⟩ = some u := by
      rintro w o v ⟨u, hu⟩
      by_cases e : j = o
      · subst e; exact ⟨v, World.cell?_setCell_same _ _ _ hu⟩
      · exact ⟨u, (cell_setCell_off _ _ _ _ _ e).trans hu⟩
    unfold storedAt
    exact step _ _ _ (step _ _ _ (step _ _ _ (step _ _ _ (step _ _ _ (step _ _ _ (step _ _ _ (h.cell j hj)))))))
  frozen := fun j => by rw [storedAt_frozen]; exact h.frozen j
  lt := by rw [storedAt_size]; exact h.lt
end Go.Proofs.Qxb6608969aDoor
