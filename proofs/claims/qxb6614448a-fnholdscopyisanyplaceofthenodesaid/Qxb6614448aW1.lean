import Derived.Test.Qxb6614448aRows
import Derived.WalkKit
import Derived.BigQuiet
import Derived.Handy
import Derived.Laws.IdiomCopy
import Derived.WideLaws
import Derived.OwnWalk
namespace Go.Proofs.Qxb6614448a
open Go Go.RowKit

/-- The ten cells of row k, from o on in block b. -/
structure RowAt (w : World) (b o : Nat) (s : Int) (p : Bool) (f : Nat → ByteArray) : Prop where
  c0 : w.cell? ⟨b, o, none⟩ = some (.int .i64 s)
  c1 : w.cell? ⟨b, o + 1, none⟩ = some (.bool p)
  c2 : w.cell? ⟨b, o + 2, none⟩ = some (.string (f 2))
  c3 : w.cell? ⟨b, o + 3, none⟩ = some (.string (f 3))
  c4 : w.cell? ⟨b, o + 4, none⟩ = some (.string (f 4))
  c5 : w.cell? ⟨b, o + 5, none⟩ = some (.string (f 5))
  c6 : w.cell? ⟨b, o + 6, none⟩ = some (.string (f 6))
  c7 : w.cell? ⟨b, o + 7, none⟩ = some (.string (f 7))
  c8 : w.cell? ⟨b, o + 8, none⟩ = some (.string (f 8))
  c9 : w.cell? ⟨b, o + 9, none⟩ = some (.string (f 9))

theorem RowAt.below {w w' : World} {b o : Nat} {s : Int} {p : Bool} {f : Nat → ByteArray} (h : RowAt w b o s p f) (B : Below w.heap.size w w') : RowAt w' b o s p f := by
  have hb : b < w.heap.size := World.block_lt_of_cell? _ _ h.c0
  exact ⟨(B.cell (p := ⟨b, o, none⟩) hb).trans h.c0, (B.cell (p := ⟨b, o + 1, none⟩) hb).trans h.c1, (B.cell (p := ⟨b, o + 2, none⟩) hb).trans h.c2, (B.cell (p := ⟨b, o + 3, none⟩) hb).trans h.c3, (B.cell (p := ⟨b, o + 4, none⟩) hb).trans h.c4,
    (B.cell (p := ⟨b, o + 5, none⟩) hb).trans h.c5, (B.cell (p := ⟨b, o + 6, none⟩) hb).trans h.c6, (B.cell (p := ⟨b, o + 7, none⟩) hb).trans h.c7, (B.cell (p := ⟨b, o + 8, none⟩) hb).trans h.c8, (B.cell (p := ⟨b, o + 9, none⟩) hb).trans h.c9⟩

/-- n rows: nil, or from an address on. -/
def RowsIn (w : World) (a : Option Addr) (n : Nat) (s : Nat → Int) (p : Nat → Bool) (f : Nat → Nat → ByteArray) : Prop :=
  ∀ k, k < n → ∃ b o, a = some ⟨b, o, none⟩ ∧ RowAt w b (o + k * 10) (s k) (p k) (f k)

theorem RowsIn.below {w w' : World} {a : Option Addr} {n : Nat} {s : Nat → Int} {p : Nat → Bool} {f : Nat → Nat → ByteArray} (h : RowsIn w a n s p f) (B : Below w.heap.size w w') : RowsIn w' a n s p f := fun k hk => by
  obtain ⟨b, o, e, hr⟩ := h k hk
  exact ⟨b, o, e, hr.below B⟩

def RBool (w : World) (e : Ending) (w' : World) : Prop := ∃ b, e = .returned (.bool b) ∧ w' = w

/-- It returns a number; the world is as it was. -/
def RInt (w : World) (e : Ending) (w' : World) : Prop := ∃ z, e = .returned (.int .i64 z) ∧ w' = w

theorem clamp_any (z : Int) (w : World) : Calls Try.prog 11 #[.int .i64 z] w (RInt w) := by
  go_enter Try.func11, Try.ntmps11
  go_wp2
  all_goals (go_ret; exact ⟨_, rfl, rfl⟩)

theorem i_step {n i : Nat} (hn : n ≤ 1048576) (hi : i < n) : wrap64 ((i : Int) + 1) = (i : Int) + 1 ∧ IntKind.i64.wrap ((i : Int) + 1) = (i : Int) + 1 := by
  refine ⟨?_, ?_⟩
  · rw [IntWalk.wrap64_in] <;> omega
  · rw [IntWalk.i64_in] <;> omega
theorem meas {q i : Nat} (h : i < q) : q - (i + 1) < q - i := by omega

set_option maxHeartbeats 4000000 in
set_option maxRecDepth 100000 in
theorem bytes10_any (a : Option Addr) (n c : Nat) (s : Nat → Int) (p : Nat → Bool) (f : Nat → Nat → ByteArray) (nd ot : ByteArray) (w : World) (h : RowsIn w a n s p f) : Calls Try.prog 10 #[.slice a n c, .string nd, .string ot] w (RBool w) := by
  by_cases hn : n ≤ 1048576
  · have t1 : ¬ (1048576 : Int) < (n : Int) := by omega
    have H : Hid (RowsIn w a n s p f) := h
    have HN : Hid (n ≤ 1048576) := hn
    clear h hn
    go_enter Try.func10, Try.ntmps10
    go_wp2_with fail
    go_loopw [7, 8] (fun s7 s8 wr => ∃ (z : Int) (k : Nat), k ≤ n ∧ s8 = .int .i64 k ∧ s7 = .int .i64 z ∧ wr = w) (fun _ s8 _ => n - (intOf s8).toNat)
    case atStart => exact ⟨_, 0, Nat.zero_le _, rfl, rfl, rfl⟩
    case round =>
      obtain ⟨z, k, hk, rfl, rfl, rfl⟩ := hrel
      by_cases hlt : k < n
      · have hlti : (k : Int) < (n : Int) := Int.ofNat_lt.2 hlt
        obtain ⟨hwi, hwj⟩ := i_step HN.out hlt
        obtain ⟨b, o, rfl, R⟩ := H.out k hlt
        have r2 := R.c2; have r3 := R.c3; have r4 := R.c4; have r5 := R.c5; have r6 := R.c6; have r7 := R.c7; have r8 := R.c8; have r9 := R.c9
        have HLT : Hid (k < n) := hlt
        clear R hlt
        go_wp2_with fail
        all_goals (first | (go_ret; exact ⟨_, rfl, rfl⟩) | skip)
        go_roundw
        case rel => exact ⟨_, k + 1, HLT.out, by go_num, rfl, trivial⟩
        case measure => simp [intOf]; exact meas HLT.out
      · go_wp2_with fail
        all_goals (go_ret; exact ⟨_, rfl, rfl⟩)
  · have t1 : (1048576 : Int) < (n : Int) := by omega
    go_enter Try.func10, Try.ntmps10
    go_wp2_with fail
    go_ret
    exact ⟨_, rfl, rfl⟩
end Go.Proofs.Qxb6614448a
