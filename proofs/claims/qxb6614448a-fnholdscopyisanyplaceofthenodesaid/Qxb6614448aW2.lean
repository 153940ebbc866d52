import Derived.Test.Qxb6614448aW1
namespace Go.Proofs.Qxb6614448a
open Go Go.RowKit

/-- rowsTooBig's answer. -/
def RTB (n : Nat) (w : World) (e : Ending) (w' : World) : Prop := ∃ b, e = .returned (.bool b) ∧ (b = false → n ≤ 65536) ∧ Below w.heap.size w w'

set_option maxHeartbeats 4000000 in
set_option maxRecDepth 100000 in
theorem tooBig_any (a : Option Addr) (n c : Nat) (s : Nat → Int) (p : Nat → Bool) (f : Nat → Nat → ByteArray) (t : Int) (w : World) (h : RowsIn w a n s p f) : Calls Try.prog 6 #[.slice a n c, .int .i64 t] w (RTB n w) := by
  by_cases hn : n ≤ 65536
  · have t1 : ¬ (65536 : Int) < (n : Int) := by omega
    by_cases ht : (1048576 : Int) < t
    · go_enter Try.func6, Try.ntmps6
      go_wp2_with fail
      go_ret
      exact ⟨_, rfl, fun _ => hn, Below.refl _ _⟩
    · have H : Hid (RowsIn w a n s p f) := h
      have HN : Hid (n ≤ 65536) := hn
      clear h hn
      go_enter Try.func6, Try.ntmps6
      go_wp2_with fail
      go_loopw [1, 5] (fun s1 s5 wr => ∃ (z : Int) (k : Nat), k ≤ n ∧ s5 = .int .i64 k ∧ s1 = .int .i64 z ∧ Below w.heap.size w wr) (fun _ s5 _ => n - (intOf s5).toNat)
      case atStart => exact ⟨_, 0, Nat.zero_le _, rfl, rfl, Below.refl _ _⟩
      case round =>
        obtain ⟨z, k, hk, rfl, rfl, hB⟩ := hrel
        by_cases hlt : k < n
        · have hlti : (k : Int) < (n : Int) := Int.ofNat_lt.2 hlt
          obtain ⟨hwi, hwj⟩ := i_step (Nat.le_trans HN.out (by omega)) hlt
          obtain ⟨b, o, rfl, R⟩ := H.out.below hB k hlt
          have r0 := R.c0; have r1 := R.c1; have r2 := R.c2; have r3 := R.c3; have r4 := R.c4; have r5 := R.c5; have r6 := R.c6; have r7 := R.c7; have r8 := R.c8; have r9 := R.c9
          have HLT : Hid (k < n) := hlt
          have HB : Hid (Below w.heap.size w wr) := hB
          clear R hlt hB
          go_wp2_with (go_at_call 11; refine (clamp_any _ _).mono ?_; rintro e w' ⟨zz, rfl, rfl⟩)
          · go_ret
            exact ⟨_, rfl, fun _ => HN.out, HB.out.alloc HB.out.size _⟩
          · go_roundw
            case rel => exact ⟨_, k + 1, HLT.out, by go_num, rfl, HB.out.alloc HB.out.size _⟩
            case measure => simp [intOf]; exact meas HLT.out
        · go_wp2_with fail
          go_ret
          exact ⟨_, rfl, fun _ => HN.out, hB⟩
  · have t1 : (65536 : Int) < (n : Int) := by omega
    go_enter Try.func6, Try.ntmps6
    go_wp2_with fail
    go_ret
    exact ⟨true, rfl, fun h => by simp at h, Below.refl _ _⟩

theorem below_two (w : World) (A B : Obj) : Below w.heap.size w ((w.alloc A).alloc B) := ((Below.refl _ w).alloc (Nat.le_refl _) A).alloc (by simp) B

/-- buildCopy's answer. -/
def R12 (s : Int) (p : Bool) (f : Nat → ByteArray) (w : World) (e : Ending) (w' : World) : Prop :=
  e = .returned (.agg #[.int .i64 s, .bool p, .string (f 2), .string (f 3), .string (f 4), .string (f 5), .string (f 6), .string (f 7), .string (f 8), .string (f 9), .int .u64 0, .int .i64 0, .pointer none]) ∧ Below w.heap.size w w'

set_option maxHeartbeats 4000000 in
theorem copy_any (s : Int) (p : Bool) (f : Nat → ByteArray) (w : World) :
    Calls Try.prog 12 #[.agg #[.int .i64 s, .bool p, .string (f 2), .string (f 3), .string (f 4), .string (f 5), .string (f 6), .string (f 7), .string (f 8), .string (f 9)]] w (R12 s p f w) := by
  go_enter Try.func12, Try.ntmps12
  go_wp2_with fail
  go_returns
  exact ⟨rfl, below_two w _ _⟩
end Go.Proofs.Qxb6614448a
