import Derived.Test.Qxb6609082aDoorW2
namespace Go.Proofs.Qxb6609082aDoor
open Go Go.RowKit

/-- The bufio.Reader: her buffer, what she reads from, where she stands, the error that she holds. -/
structure BF (bb bf br r q : Nat) (er : Value) (w : World) : Prop where
  c0 : w.cell? ⟨bb, 0, none⟩ = some (.slice (some ⟨bf, 0, none⟩) 4096 4096)
  c1 : w.cell? ⟨bb, 1, none⟩ = some (.iface 36 (.pointer (some ⟨br, 0, none⟩)))
  c2 : w.cell? ⟨bb, 2, none⟩ = some (.int .i64 r)
  c3 : w.cell? ⟨bb, 3, none⟩ = some (.int .i64 q)
  c4 : w.cell? ⟨bb, 4, none⟩ = some er
  c5 : ∃ v, w.cell? ⟨bb, 5, none⟩ = some v
  c6 : ∃ v, w.cell? ⟨bb, 6, none⟩ = some v
  fr : ∀ o, w.frozen? ⟨bb, o, none⟩ = false
  lt : bb < w.heap.size

theorem BF.keep {bb bf br r q : Nat} {er : Value} {w w' : World} {S : List Nat} (h : BF bb bf br r q er w) (k : Kept S w w') (hs : bb ∉ S) : BF bb bf br r q er w' where
  c0 := (k.cell (p := ⟨bb, 0, none⟩) h.lt hs).trans h.c0
  c1 := (k.cell (p := ⟨bb, 1, none⟩) h.lt hs).trans h.c1
  c2 := (k.cell (p := ⟨bb, 2, none⟩) h.lt hs).trans h.c2
  c3 := (k.cell (p := ⟨bb, 3, none⟩) h.lt hs).trans h.c3
  c4 := (k.cell (p := ⟨bb, 4, none⟩) h.lt hs).trans h.c4
  c5 := by obtain ⟨v, hv⟩ := h.c5; exact ⟨v, (k.cell (p := ⟨bb, 5, none⟩) h.lt hs).trans hv⟩
  c6 := by obtain ⟨v, hv⟩ := h.c6; exact ⟨v, (k.cell (p := ⟨bb, 6, none⟩) h.lt hs).trans hv⟩
  fr := fun o => (k.frozen (p := ⟨bb, o, none⟩) h.lt hs).trans (h.fr o)
  lt := Nat.lt_of_lt_of_le h.lt k.size

/-- A store into one of her fields. -/
theorem off_ne {b o o' : Nat} (h : o ≠ o') : (⟨b, o, none⟩ : Addr) ≠ ⟨b, o', none⟩ := fun e => h (by injection e)
theorem BF.set2 {bb bf br r q : Nat} {er : Value} {w : World} (h : BF bb bf br r q er w) (r' : Nat) : BF bb bf br r' q er (w.setCell ⟨bb, 2, none⟩ (.int .i64 r')) := by
  obtain ⟨c0, c1, c2, c3, c4, ⟨v5, c5⟩, ⟨v6, c6⟩, fr, lt⟩ := h
  refine ⟨?_, ?_, ?_, ?_, ?_, ⟨v5, ?_⟩, ⟨v6, ?_⟩, fun o => ?_, ?_⟩
  · rw [World.cell?_setCell_other _ _ _ _ (off_ne (by decide))]; exact c0
  · rw [World.cell?_setCell_other _ _ _ _ (off_ne (by decide))]; exact c1
  · exact World.cell?_setCell_same _ _ _ c2
  · rw [World.cell?_setCell_other _ _ _ _ (off_ne (by decide))]; exact c3
  · rw [World.cell?_setCell_other _ _ _ _ (off_ne (by decide))]; exact c4
  · rw [World.cell?_setCell_other _ _ _ _ (off_ne (by decide))]; exact c5
  · rw [World.cell?_setCell_other _ _ _ _ (off_ne (by decide))]; exact c6
  · rw [World.frozen?_setCell]; exact fr o
  · simpa using lt
theorem BF.set3 {bb bf br r q : Nat} {er : Value} {w : World} (h : BF bb bf br r q er w) (q' : Nat) : BF bb bf br r q' er (w.setCell ⟨bb, 3, none⟩ (.int .i64 q')) := by
  obtain ⟨c0, c1, c2, c3, c4, ⟨v5, c5⟩, ⟨v6, c6⟩, fr, lt⟩ := h
  refine ⟨?_, ?_, ?_, ?_, ?_, ⟨v5, ?_⟩, ⟨v6, ?_⟩, fun o => ?_, ?_⟩
  · rw [World.cell?_setCell_other _ _ _ _ (off_ne (by decide))]; exact c0
  · rw [World.cell?_setCell_other _ _ _ _ (off_ne (by decide))]; exact c1
  · rw [World.cell?_setCell_other _ _ _ _ (off_ne (by decide))]; exact c2
  · exact World.cell?_setCell_same _ _ _ c3
  · rw [World.cell?_setCell_other _ _ _ _ (off_ne (by decide))]; exact c4
  · rw [World.cell?_setCell_other _ _ _ _ (off_ne (by decide))]; exact c5
  · rw [World.cell?_setCell_other _ _ _ _ (off_ne (by decide))]; exact c6
  · rw [World.frozen?_setCell]; exact fr o
  · simpa using lt
theorem BF.set4 {bb bf br r q : Nat} {er : Value} {w : World} (h : BF bb bf br r q er w) (e' : Value) : BF bb bf br r q e' (w.setCell ⟨bb, 4, none⟩ e') := by
  obtain ⟨c0, c1, c2, c3, c4, ⟨v5, c5⟩, ⟨v6, c6⟩, fr, lt⟩ := h
  refine ⟨?_, ?_, ?_, ?_, ?_, ⟨v5, ?_⟩, ⟨v6, ?_⟩, fun o => ?_, ?_⟩
  · rw [World.cell?_setCell_other _ _ _ _ (off_ne (by decide))]; exact c0
  · rw [World.cell?_setCell_other _ _ _ _ (off_ne (by decide))]; exact c1
  · rw [World.cell?_setCell_other _ _ _ _ (off_ne (by decide))]; exact c2
  · rw [World.cell?_setCell_other _ _ _ _ (off_ne (by decide))]; exact c3
  · exact World.cell?_setCell_same _ _ _ c4
  · rw [World.cell?_setCell_other _ _ _ _ (off_ne (by decide))]; exact c5
  · rw [World.cell?_setCell_other _ _ _ _ (off_ne (by decide))]; exact c6
  · rw [World.frozen?_setCell]; exact fr o
  · simpa using lt
theorem BF.set5 {bb bf br r q : Nat} {er : Value} {w : World} (h : BF bb bf br r q er w) (e' : Value) : BF bb bf br r q er (w.setCell ⟨bb, 5, none⟩ e') := by
  obtain ⟨c0, c1, c2, c3, c4, ⟨v5, c5⟩, ⟨v6, c6⟩, fr, lt⟩ := h
  refine ⟨?_, ?_, ?_, ?_, ?_, ⟨e', ?_⟩, ⟨v6, ?_⟩, fun o => ?_, ?_⟩
  · rw [World.cell?_setCell_other _ _ _ _ (off_ne (by decide))]; exact c0
  · rw [World.cell?_setCell_other _ _ _ _ (off_ne (by decide))]; exact c1
  · rw [World.cell?_setCell_other _ _ _ _ (off_ne (by decide))]; exact c2
  · rw [World.cell?_setCell_other _ _ _ _ (off_ne (by decide))]; exact c3
  · rw [World.cell?_setCell_other _ _ _ _ (off_ne (by decide))]; exact c4
  · exact World.cell?_setCell_same _ _ _ c5
  · rw [World.cell?_setCell_other _ _ _ _ (off_ne (by decide))]; exact c6
  · rw [World.frozen?_setCell]; exact fr o
  · simpa using lt
theorem BF.set6 {bb bf br r q : Nat} {er : Value} {w : World} (h : BF bb bf br r q er w) (e' : Value) : BF bb bf br r q er (w.setCell ⟨bb, 6, none⟩ e') := by
  obtain ⟨c0, c1, c2, c3, c4, ⟨v5, c5⟩, ⟨v6, c6⟩, fr, lt⟩ := h
  refine ⟨?_, ?_, ?_, ?_, ?_, ⟨v5, ?_⟩, ⟨e', ?_⟩, fun o => ?_, ?_⟩
  · rw [World.cell?_setCell_other _ _ _ _ (off_ne (by decide))]; exact c0
  · rw [World.cell?_setCell_other _ _ _ _ (off_ne (by decide))]; exact c1
  · rw [World.cell?_setCell_other _ _ _ _ (off_ne (by decide))]; exact c2
  · rw [World.cell?_setCell_other _ _ _ _ (off_ne (by decide))]; exact c3
  · rw [World.cell?_setCell_other _ _ _ _ (off_ne (by decide))]; exact c4
  · rw [World.cell?_setCell_other _ _ _ _ (off_ne (by decide))]; exact c5
  · exact World.cell?_setCell_same _ _ _ c6
  · rw [World.frozen?_setCell]; exact fr o
  · simpa using lt

/-- readErr: what she held goes out, nil stands in its place. -/
def R42 (bb bf br r q : Nat) (er : Value) (w : World) (e : Ending) (w' : World) : Prop :=
  e = .returned er ∧ BF bb bf br r q .nilIface w' ∧ Kept [bb] w w'

theorem readErr_any (bb bf br r q : Nat) (er : Value) (w : World) (h : BF bb bf br r q er w) : Calls Tryd.prog 42 #[.pointer (some ⟨bb, 0, none⟩)] w (R42 bb bf br r q er w) := by
  have h4 := h.c4
  have hf := h.fr 4
  go_enter Tryd.func42, Tryd.ntmps42
  go_wp2
  go_ret
  exact ⟨rfl, h.set4 _, (Kept.refl _ _).setCell (p := ⟨bb, 4, none⟩) (by simp) _⟩

theorem Room.keep {b o m : Nat} {w w' : World} {S : List Nat} (h : Room b o m w) (k : Kept S w w') (hs : b ∉ S) : Room b o m w' where
  cell := fun j hj => by obtain ⟨u, hu⟩ := h.cell j hj; exact ⟨u, (k.cell (p := ⟨b, o + j, none⟩) h.lt hs).trans hu⟩
  fr := fun j => (k.frozen (p := ⟨b, j, none⟩) h.lt hs).trans (h.fr j)
  lt := Nat.lt_of_lt_of_le h.lt k.size

/-- The bufio.Reader over the bytes.Reader: pos bytes have been handed out; r .. q of the buffer are the next. -/
structure Rd (bb bf br : Nat) (sa : Option Addr) (d : Nat → Int) (n pos r q : Nat) (w : World) : Prop where
  bfs : BF bb bf br r q .nilIface w
  brs : BR br sa n (pos + (q - r)) w
  hr : r ≤ q
  hq : q ≤ 4096
  hin : pos + (q - r) ≤ n
  buf : ∀ j, j < q - r → w.cell? ⟨bf, r + j, none⟩ = some (.int .u8 (d (pos + j)))
  room : Room bf 0 4096 w
  n1 : bb ≠ bf
  n2 : bb ≠ br
  n3 : bf ≠ br
  dat : n = 0 ∨ ∃ bd, sa = some ⟨bd, 0, none⟩ ∧ bd < w.heap.size ∧ bd ≠ bb ∧ bd ≠ bf ∧ bd ≠ br ∧ ∀ j, j < n → w.cell? ⟨bd, j, none⟩ = some (.int .u8 (d j))
end Go.Proofs.Qxb6609082aDoor
