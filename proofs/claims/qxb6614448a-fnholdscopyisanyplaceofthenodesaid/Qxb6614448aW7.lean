import Derived.Test.Qxb6614448aW5
namespace Go.Proofs.Qxb6614448a
open Go Go.RowKit

set_option maxHeartbeats 4000000 in
set_option maxRecDepth 100000 in
theorem bytes5_any (a : Option Addr) (n c : Nat) (s : Nat → Int) (p : Nat → Bool) (f : Nat → Nat → ByteArray) (nd : ByteArray) (c1 c2 c3 : Int) (w : World) (h : RowsIn w a n s p f) : Calls Try.prog 5 #[.slice a n c, .string nd, .int .i64 c1, .int .i64 c2, .int .i64 c3] w (RBool w) := by
  by_cases hn : n ≤ 1048576
  · have t1 : ¬ (1048576 : Int) < (n : Int) := by omega
    have H : Hid (RowsIn w a n s p f) := h
    have HN : Hid (n ≤ 1048576) := hn
    clear h hn
    go_enter Try.func5, Try.ntmps5
    go_wp2_with fail
    go_loopw [11, 12] (fun s7 s8 wr => ∃ (z : Int) (k : Nat), k ≤ n ∧ s8 = .int .i64 k ∧ s7 = .int .i64 z ∧ wr = w) (fun _ s8 _ => n - (intOf s8).toNat)
    case atStart => exact ⟨_, 0, Nat.zero_le _, rfl, rfl, rfl⟩
    case round =>
      obtain ⟨z, k, hk, rfl, rfl, rfl⟩ := hrel
      by_cases hlt : k < n
      · have hlti : (k : Int) < (n : Int) := Int.ofNat_lt.2 hlt
        obtain ⟨hwi, hwj⟩ := i_step HN.out hlt
        obtain ⟨b, o, rfl, R⟩ := H.out k hlt
        have r2 := R.c2; have r3 := R.c3; have r4 := R.c4; have r5 := R.c5; have r6 := R.c6; have r7 := R.c7; have r8 := R.c8; have r9 := R.c9
        have HLT : Hid (k < n) := hlt
        clear R hlt
        go_wp2_with fail
        all_goals (first | (go_ret; exact ⟨_, rfl, rfl⟩) | skip)
        go_roundw
        case rel => exact ⟨_, k + 1, HLT.out, by go_num, rfl, trivial⟩
        case measure => simp [intOf]; exact meas HLT.out
      · go_wp2_with fail
        all_goals (go_ret; exact ⟨_, rfl, rfl⟩)
  · have t1 : (1048576 : Int) < (n : Int) := by omega
    go_enter Try.func5, Try.ntmps5
    go_wp2_with fail
    go_ret
    exact ⟨_, rfl, rfl⟩

/-- It returns b; what was there is as it was. -/
def R14 (b : Bool) (w : World) (e : Ending) (w' : World) : Prop := e = .returned (.bool b) ∧ Below w.heap.size w w'

set_option maxHeartbeats 4000000 in
theorem places_any (s : Int) (p : Bool) (f : Nat → ByteArray) (x : ByteArray) (w : World) :
    Calls Try.prog 14 #[.agg #[.int .i64 s, .bool p, .string (f 2), .string (f 3), .string (f 4), .string (f 5), .string (f 6), .string (f 7), .string (f 8), .string (f 9)], .string x] w (R14 (hit f x) w) := by
  have HU : Hid (hit f x = ((f 3).toList == x.toList || (f 6).toList == x.toList || (f 7).toList == x.toList || (f 9).toList == x.toList)) := rfl
  cases h3 : ((f 3).toList == x.toList) with
  | true =>
    go_enter Try.func14, Try.ntmps14
    go_wp2_with fail
    go_ret
    exact ⟨by rw [HU.out, h3]; rfl, (Below.refl _ w).alloc (Nat.le_refl _) _⟩
  | false =>
    cases h6 : ((f 6).toList == x.toList) with
    | true =>
      go_enter Try.func14, Try.ntmps14
      go_wp2_with fail
      go_ret
      exact ⟨by rw [HU.out, h3, h6]; rfl, (Below.refl _ w).alloc (Nat.le_refl _) _⟩
    | false =>
      cases h7 : ((f 7).toList == x.toList) with
      | true =>
        go_enter Try.func14, Try.ntmps14
        go_wp2_with fail
        go_ret
        exact ⟨by rw [HU.out, h3, h6, h7]; rfl, (Below.refl _ w).alloc (Nat.le_refl _) _⟩
      | false =>
        cases h9 : ((f 9).toList == x.toList) with
        | true =>
          go_enter Try.func14, Try.ntmps14
          go_wp2_with fail
          go_ret
          exact ⟨by rw [HU.out, h3, h6, h7, h9]; rfl, (Below.refl _ w).alloc (Nat.le_refl _) _⟩
        | false =>
          go_enter Try.func14, Try.ntmps14
          go_wp2_with fail
          go_ret
          exact ⟨by rw [HU.out, h3, h6, h7, h9]; rfl, (Below.refl _ w).alloc (Nat.le_refl _) _⟩

set_option maxHeartbeats 4000000 in
theorem anyP_any (a : Option Addr) (n c : Nat) (s : Nat → Int) (p : Nat → Bool) (f : Nat → Nat → ByteArray) (x : ByteArray) (w : World) (hn : n ≤ 65536) (h : RowsIn w a n s p f) : Calls Try.prog 9 #[.slice a n c, .string x] w (R14 (held f x n) w) := by
  have H : Hid (RowsIn w a n s p f) := h
  have HN : Hid (n ≤ 1048576) := Nat.le_trans hn (by omega)
  clear h hn
  go_enter Try.func9, Try.ntmps9
  go_wp2_with fail
  go_loopw [5] (fun s5 wr => ∃ k : Nat, k ≤ n ∧ s5 = .int .i64 k ∧ held f x k = false ∧ Below w.heap.size w wr) (fun s5 _ => n - (intOf s5).toNat)
  case atStart => exact ⟨0, Nat.zero_le _, rfl, rfl, Below.refl _ _⟩
  case round =>
    obtain ⟨k, hk, rfl, hh, hB⟩ := hrel
    by_cases hlt : k < n
    · have hlti : (k : Int) < (n : Int) := Int.ofNat_lt.2 hlt
      obtain ⟨hwi, hwj⟩ := i_step HN.out hlt
      obtain ⟨b, o, rfl, R⟩ := H.out.below hB k hlt
      have r0 := R.c0; have r1 := R.c1; have r2 := R.c2; have r3 := R.c3; have r4 := R.c4; have r5 := R.c5; have r6 := R.c6; have r7 := R.c7; have r8 := R.c8; have r9 := R.c9
      have HLT : Hid (k < n) := hlt
      have HH : Hid (held f x k = false) := hh
      have HB : Hid (Below w.heap.size w wr) := hB
      clear R hlt hh hB
      go_wp2_with fail
      refine (places_any (s k) (p k) (f k) x wr).mono ?_
      rintro e w1 ⟨rfl, B1⟩
      have HB1 : Below w.heap.size w w1 := HB.out.trans (B1.mono HB.out.size)
      clear B1 r0 r1 r2 r3 r4 r5 r6 r7 r8 r9
      cases hu : hit (f k) x with
      | true =>
        go_wp2_with fail
        go_ret
        exact ⟨by rw [held_hit hu HLT.out]; rfl, HB1⟩
      | false =>
        go_wp2_with fail
        go_roundw
        case rel => exact ⟨k + 1, HLT.out, by go_num, by show (held f x k || hit (f k) x) = false; rw [HH.out, hu]; rfl, HB1⟩
        case measure => simp [intOf]; exact meas HLT.out
    · obtain rfl : k = n := Nat.le_antisymm hk (Nat.le_of_not_lt hlt)
      go_wp2_with fail
      go_ret
      exact ⟨by rw [hh]; rfl, hB⟩

theorem held_split (f : Nat → Nat → ByteArray) (x : ByteArray) (c : Nat) : ∀ m, held f x (c + m) = (held f x c || held (fun j => f (c + j)) x m)
  | 0 => by simp [held]
  | m + 1 => by
    show (held f x (c + m) || hit (f (c + m)) x) = (held f x c || (held (fun j => f (c + j)) x m || hit (f (c + m)) x))
    rw [held_split f x c m, Bool.or_assoc]
end Go.Proofs.Qxb6614448a
