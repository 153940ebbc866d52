import Derived.Test.Qxb6614448aW3
namespace Go.Proofs.Qxb6614448a
open Go Go.RowKit

/-- n nil pointers. -/
def madeP (n : Nat) : Obj := .cells (madeCells #[.pointer none] n) 35

theorem info35 : (Try.prog.info? 35).map (fun i => (i.zero, i.size, i.bytes)) = some (some (.pointer none), 1, 8) := by kernel_rfl

theorem run_make25 (n : Nat) (h : n ≤ 1048576) (w : World) : (Instr.makeSlice 25 (.int .i64 (n : Int)) (.int .i64 (n : Int))).run Try.prog w = .ok (.slice (some ⟨w.heap.size, 0, none⟩) n n) (w.alloc (madeP n)) := by
  obtain ⟨i, hi, hz0, hz1, hz2⟩ := info_parts info35
  have hr := run_make (P := Try.prog) w 25 35 i _ Try.underlying25 hi hz0 .i64 .i64 n n (by omega) (Int.le_refl _) (by rw [hz2]; omega) (by omega)
  rw [hz1] at hr
  simpa [madeP, Value.cells] using hr

theorem madeP_cell (w : World) (n o : Nat) (h : o < n) : (w.alloc (madeP n)).cell? ⟨w.heap.size, o, none⟩ = some (.pointer none) := by
  have hs := size_madeCells #[.pointer none] n
  have hg : (madeCells #[.pointer none] n)[o]? = some (.pointer none) := by
    have := toList_madeCells_one (.pointer none) n
    rw [← Array.getElem?_toList, this]
    simp [h]
  unfold madeP
  generalize madeCells #[.pointer none] n = cs at hs hg ⊢
  have hlt : o < cs.size := by omega
  have hge : cs[o] = .pointer none := by simpa [hlt] using hg
  go_simp
theorem madeP_frozen (w : World) (n o : Nat) : (w.alloc (madeP n)).frozen? ⟨w.heap.size, o, none⟩ = false := by
  unfold madeP
  go_simp

/-- The row of pointers in block B: k of n are laid. -/
structure Mk (w0 : World) (B n k : Nat) (f : Nat → Nat → ByteArray) (wr : World) : Prop where
  bel : Below w0.heap.size w0 wr
  old : w0.heap.size ≤ B
  lt : B < wr.heap.size
  fr : ∀ j, wr.frozen? ⟨B, j, none⟩ = false
  nils : ∀ j, k ≤ j → j < n → wr.cell? ⟨B, j, none⟩ = some (.pointer none)
  ptr : ∀ j, j < k → ∃ b, B < b ∧ wr.cell? ⟨B, j, none⟩ = some (.pointer (some ⟨b, 0, none⟩)) ∧ CopyAt wr b (f j)

theorem Mk.start (w : World) (n : Nat) (f : Nat → Nat → ByteArray) : Mk w w.heap.size n 0 f (w.alloc (madeP n)) :=
  ⟨(Below.refl _ w).alloc (Nat.le_refl _) _, Nat.le_refl _, by simp, fun j => madeP_frozen w n j, fun j _ hj => madeP_cell w n j hj, fun j hj => by omega⟩

theorem Mk.below {w0 : World} {B n k : Nat} {f : Nat → Nat → ByteArray} {wr w : World} (h : Mk w0 B n k f wr) (H : Below wr.heap.size wr w) : Mk w0 B n k f w where
  bel := h.bel.trans (H.mono h.bel.size)
  old := h.old
  lt := Nat.lt_of_lt_of_le h.lt H.size
  fr := fun j => (World.frozen?_of_block (a := ⟨B, j, none⟩) (H.block B h.lt)).trans (h.fr j)
  nils := fun j h1 h2 => (H.cell (p := ⟨B, j, none⟩) h.lt).trans (h.nils j h1 h2)
  ptr := fun j hj => by
    obtain ⟨b, hb, hc, hk⟩ := h.ptr j hj
    exact ⟨b, hb, (H.cell (p := ⟨B, j, none⟩) h.lt).trans hc, hk.below H⟩

/-- One more pointer, to the block that was made last. -/
theorem Mk.next {w0 : World} {B n k b : Nat} {f : Nat → Nat → ByteArray} {wr : World} (h : Mk w0 B n k f wr) (hk : k < n) (hb : B < b) (hc : CopyAt wr b (f k)) :
    Mk w0 B n (k + 1) f (wr.setCell ⟨B, k, none⟩ (.pointer (some ⟨b, 0, none⟩))) := by
  have ko : ∀ (j : Nat), j ≠ k → (wr.setCell ⟨B, k, none⟩ (.pointer (some ⟨b, 0, none⟩))).cell? ⟨B, j, none⟩ = wr.cell? ⟨B, j, none⟩ := fun j hj => World.cell?_setCell_other _ _ _ _ (fun e => by injection e with _ e2; exact hj e2.symm)
  have kb : ∀ (a j : Nat), B < a → (wr.setCell ⟨B, k, none⟩ (.pointer (some ⟨b, 0, none⟩))).cell? ⟨a, j, none⟩ = wr.cell? ⟨a, j, none⟩ := fun a j ha => World.cell?_setCell_other _ _ _ _ (fun e => by injection e with e1; omega)
  have kc : ∀ (a : Nat) (g : Nat → ByteArray), B < a → CopyAt wr a g → CopyAt (wr.setCell ⟨B, k, none⟩ (.pointer (some ⟨b, 0, none⟩))) a g := fun a g ha h => ⟨(kb a 3 ha).trans h.c3, (kb a 6 ha).trans h.c6, (kb a 7 ha).trans h.c7, (kb a 9 ha).trans h.c9⟩
  refine ⟨h.bel.setCell (p := ⟨B, k, none⟩) h.old _, h.old, by simpa using h.lt, fun j => by rw [World.frozen?_setCell]; exact h.fr j, fun j h1 h2 => (ko j (by omega)).trans (h.nils j (by omega) h2), fun j hj => ?_⟩
  by_cases e : j = k
  · subst e
    exact ⟨b, hb, World.cell?_setCell_same _ _ _ (h.nils j (Nat.le_refl _) hk), kc b _ hb hc⟩
  · obtain ⟨b', hb', hc', hk'⟩ := h.ptr j (by omega)
    exact ⟨b', hb', (ko j e).trans hc', kc b' _ hb' hk'⟩

theorem copyAt_new (W : World) (s : Int) (p : Bool) (f : Nat → ByteArray) : CopyAt (W.alloc (.cells #[.int .i64 s, .bool p, .string (f 2), .string (f 3), .string (f 4), .string (f 5), .string (f 6), .string (f 7), .string (f 8), .string (f 9), .int .u64 0, .int .i64 0, .pointer none] 34)) W.heap.size f := by
  refine ⟨?_, ?_, ?_, ?_⟩ <;> go_simp

/-- buildPtrs' answer. -/
def R7 (n : Nat) (f : Nat → Nat → ByteArray) (w : World) (e : Ending) (w' : World) : Prop :=
  e = .returned (.slice (some ⟨w.heap.size, 0, none⟩) n n) ∧ Mk w w.heap.size n n f w'

set_option maxHeartbeats 4000000 in
theorem ptrs_any (a : Option Addr) (n c : Nat) (s : Nat → Int) (p : Nat → Bool) (f : Nat → Nat → ByteArray) (w : World) (hn : n ≤ 65536) (h : RowsIn w a n s p f) : Calls Try.prog 7 #[.slice a n c] w (R7 n f w) := by
  have hmk := run_make25 n (by omega)
  have H : Hid (RowsIn w a n s p f) := h
  have HN : Hid (n ≤ 1048576) := Nat.le_trans hn (by omega)
  clear h hn
  go_enter Try.func7, Try.ntmps7
  go_wp2_with fail
  clear hmk
  go_loopw [4] (fun s4 wr => ∃ k : Nat, k ≤ n ∧ s4 = .int .i64 k ∧ Mk w w.heap.size n k f wr) (fun s4 _ => n - (intOf s4).toNat)
  case atStart => exact ⟨0, Nat.zero_le _, rfl, Mk.start w n f⟩
  case round =>
    obtain ⟨k, hk, rfl, M⟩ := hrel
    by_cases hlt : k < n
    · have hlti : (k : Int) < (n : Int) := Int.ofNat_lt.2 hlt
      obtain ⟨hwi, hwj⟩ := i_step HN.out hlt
      obtain ⟨b, o, rfl, R⟩ := H.out.below M.bel k hlt
      have r0 := R.c0; have r1 := R.c1; have r2 := R.c2; have r3 := R.c3; have r4 := R.c4; have r5 := R.c5; have r6 := R.c6; have r7 := R.c7; have r8 := R.c8; have r9 := R.c9
      have HLT : Hid (k < n) := hlt
      have HM : Hid (Mk w w.heap.size n k f wr) := M
      clear R M hlt
      go_wp2_with fail
      refine (copy_any (s k) (p k) (f k) wr).mono ?_
      rintro e w1 ⟨rfl, B1⟩
      have M1 := HM.out.below B1
      have M2 := M1.below ((Below.refl _ w1).alloc (Nat.le_refl _) (.cells #[.int .i64 (s k), .bool (p k), .string (f k 2), .string (f k 3), .string (f k 4), .string (f k 5), .string (f k 6), .string (f k 7), .string (f k 8), .string (f k 9), .int .u64 0, .int .i64 0, .pointer none] 34))
      have hx := M2.nils k (Nat.le_refl _) HLT.out
      have hf := M2.fr k
      have hM3 := M2.next HLT.out M1.lt (copyAt_new w1 (s k) (p k) (f k))
      have HM3 : Hid (Mk w w.heap.size n (k + 1) f _) := hM3
      clear r0 r1 r2 r3 r4 r5 r6 r7 r8 r9 hM3 M1 M2 B1 HM
      go_wp2_with fail
      go_roundw
      case rel => exact ⟨k + 1, HLT.out, by go_num, HM3.out⟩
      case measure => simp [intOf]; exact meas HLT.out
    · obtain rfl : k = n := Nat.le_antisymm hk (Nat.le_of_not_lt hlt)
      go_wp2_with fail
      go_ret
      exact ⟨rfl, M⟩

/-- Out of the row of pointers: a part of it. -/
theorem Mk.part {w0 : World} {B n : Nat} {f : Nat → Nat → ByteArray} {wr : World} (h : Mk w0 B n n f wr) (o m : Nat) (hm : o + m ≤ n) : PtrsIn wr (some ⟨B, o, none⟩) m (fun j => f (o + j)) := fun j hj => by
  obtain ⟨b, _, hc, hk⟩ := h.ptr (o + j) (by omega)
  exact ⟨B, o, b, rfl, hc, hk⟩
theorem Mk.all {w0 : World} {B n : Nat} {f : Nat → Nat → ByteArray} {wr : World} (h : Mk w0 B n n f wr) : PtrsIn wr (some ⟨B, 0, none⟩) n f := fun j hj => by
  obtain ⟨b, _, hc, hk⟩ := h.ptr j hj
  exact ⟨B, 0, b, rfl, by rw [Nat.zero_add]; exact hc, hk⟩
end Go.Proofs.Qxb6614448a
