import Derived.Test.Qxb6609082aDoorRows
import Derived.WalkKit
import Derived.BigQuiet
import Derived.Handy
import Derived.Laws.IdiomCopy
import Derived.WideLaws
namespace Go.Proofs.Qxb6609082aDoor
open Go Go.RowKit

/-- Of the blocks that were there, all but those of S are as they were. -/
structure Kept (S : List Nat) (w w' : World) : Prop where
  os : w'.os = w.os
  tape : w'.tape = w.tape
  output : w'.output = w.output
  size : w.heap.size ≤ w'.heap.size
  block : ∀ k, k < w.heap.size → k ∉ S → w'.heap[k]? = w.heap[k]?

theorem Kept.refl (S : List Nat) (w : World) : Kept S w w := ⟨rfl, rfl, rfl, Nat.le_refl _, fun _ _ _ => rfl⟩
theorem Kept.trans {S : List Nat} {a b c : World} (h : Kept S a b) (k : Kept S b c) : Kept S a c :=
  ⟨k.os.trans h.os, k.tape.trans h.tape, k.output.trans h.output, Nat.le_trans h.size k.size, fun i hi hs => (k.block i (Nat.lt_of_lt_of_le hi h.size) hs).trans (h.block i hi hs)⟩
theorem Kept.mono {S T : List Nat} {a b : World} (h : Kept S a b) (hs : ∀ k, k ∈ S → k ∈ T) : Kept T a b :=
  ⟨h.os, h.tape, h.output, h.size, fun i hi ht => h.block i hi (fun e => ht (hs i e))⟩
theorem Kept.drew {S : List Nat} {a w : World} (h : Kept S a w) : Kept S a w.drew := ⟨h.os, h.tape, h.output, h.size, h.block⟩
theorem Kept.drewN {S : List Nat} {a w : World} (h : Kept S a w) (n : Nat) : Kept S a (w.drewN n) := ⟨h.os, h.tape, h.output, h.size, h.block⟩
theorem Kept.alloc {S : List Nat} {a w : World} (h : Kept S a w) (o : Obj) : Kept S a (w.alloc o) :=
  h.trans ⟨rfl, rfl, rfl, by simp, fun k hk _ => Below.heap_alloc _ _ _ hk⟩
theorem Kept.setCell {S : List Nat} {a w : World} (h : Kept S a w) {p : Addr} (hp : p.block ∈ S) (u : Value) : Kept S a (w.setCell p u) :=
  h.trans ⟨rfl, rfl, rfl, by simp [World.setCell], fun k _ hs => Below.heap_setCell _ _ _ _ (fun e => hs (e ▸ hp))⟩
theorem Kept.setCells {S : List Nat} {a : World} {b : Nat} (hb : b ∈ S) : ∀ (vs : List Value) (o : Nat) {w : World}, Kept S a w → Kept S a (w.setCells b o vs)
  | [], _, _, h => h
  | v :: vs, o, _, h => Kept.setCells hb vs (o + 1) (h.setCell (p := ⟨b, o, none⟩) hb v)
/-- A new block, written by the call itself: what was there is as it was. -/
theorem Kept.setNew {S : List Nat} {a w : World} (h : Kept S a w) {p : Addr} (hp : a.heap.size ≤ p.block) (u : Value) : Kept S a (w.setCell p u) :=
  ⟨h.os, h.tape, h.output, by simpa [World.setCell] using h.size, fun k hk hs => (Below.heap_setCell _ _ _ _ (by omega)).trans (h.block k hk hs)⟩
theorem Kept.cell {S : List Nat} {w w' : World} (h : Kept S w w') {p : Addr} (hp : p.block < w.heap.size) (hs : p.block ∉ S) : w'.cell? p = w.cell? p := World.cell?_of_block (w := w) (h.block p.block hp hs)
theorem Kept.frozen {S : List Nat} {w w' : World} (h : Kept S w w') {p : Addr} (hp : p.block < w.heap.size) (hs : p.block ∉ S) : w'.frozen? p = w.frozen? p := World.frozen?_of_block (w := w) (h.block p.block hp hs)
theorem Kept.below {S : List Nat} {w w' : World} (h : Kept S w w') {N : Nat} (hN : N ≤ w.heap.size) (hs : ∀ k, k ∈ S → N ≤ k) : Below N w w' :=
  ⟨h.os, h.tape, h.output, h.size, fun k hk => h.block k (by omega) (fun e => by have := hs k e; omega)⟩
theorem Kept.ofBelow {S : List Nat} {w w' : World} (h : Below w.heap.size w w') : Kept S w w' :=
  ⟨h.os, h.tape, h.output, h.size, fun k hk _ => h.block k hk⟩

/-- The bytes.Reader: her row of n bytes, and how many are read. -/
structure BR (br : Nat) (sa : Option Addr) (n i : Nat) (w : World) : Prop where
  c0 : w.cell? ⟨br, 0, none⟩ = some (.slice sa n n)
  c1 : w.cell? ⟨br, 1, none⟩ = some (.int .i64 i)
  c2 : ∃ v, w.cell? ⟨br, 2, none⟩ = some v
  fr : ∀ o, w.frozen? ⟨br, o, none⟩ = false
  lt : br < w.heap.size

theorem BR.keep {br : Nat} {sa : Option Addr} {n i : Nat} {w w' : World} {S : List Nat} (h : BR br sa n i w) (k : Kept S w w') (hs : br ∉ S) : BR br sa n i w' where
  c0 := (k.cell (p := ⟨br, 0, none⟩) h.lt hs).trans h.c0
  c1 := (k.cell (p := ⟨br, 1, none⟩) h.lt hs).trans h.c1
  c2 := by obtain ⟨v, hv⟩ := h.c2; exact ⟨v, (k.cell (p := ⟨br, 2, none⟩) h.lt hs).trans hv⟩
  fr := fun o => (k.frozen (p := ⟨br, o, none⟩) h.lt hs).trans (h.fr o)
  lt := Nat.lt_of_lt_of_le h.lt k.size

/-- The row of bytes. -/
def Dat (sa : Option Addr) (d : Nat → Int) (n : Nat) (w : World) : Prop :=
  n = 0 ∨ ∃ bd, sa = some ⟨bd, 0, none⟩ ∧ bd < w.heap.size ∧ ∀ j, j < n → w.cell? ⟨bd, j, none⟩ = some (.int .u8 (d j))

/-- m cells from o on that may be written. -/
structure Room (b o m : Nat) (w : World) : Prop where
  cell : ∀ j, j < m → ∃ u, w.cell? ⟨b, o + j, none⟩ = some u
  fr : ∀ j, w.frozen? ⟨b, j, none⟩ = false
  lt : b < w.heap.size

/-- (*bytes.Reader).Read at the end of her row. -/
def AtEnd (S : List Nat) (w : World) (u : TypeId) (v : Value) (e : Ending) (w' : World) : Prop :=
  e = .returned (.tuple #[.int .i64 0, .iface u v]) ∧ Kept S w w'

theorem readA_end (br : Nat) (sa pa : Option Addr) (n m c : Nat) (u : TypeId) (v : Value) (w : World) (h : BR br sa n n w) (hg : w.cell? ⟨2, 0, none⟩ = some (.iface u v)) :
    Calls Tryd.prog 44 #[.pointer (some ⟨br, 0, none⟩), .slice pa m c] w (AtEnd [] w u v) := by
  obtain ⟨c0, c1, ⟨v2, c2⟩, fr, lt⟩ := h
  go_enter Tryd.func44, Tryd.ntmps44
  go_wp2
  go_quiet (fail)
  go_wp2
  go_quiet (fail)
  go_wp2
  go_ret2
  exact ⟨rfl, Kept.drewN ((Kept.refl _ _).drewN _) _⟩
end Go.Proofs.Qxb6609082aDoor
