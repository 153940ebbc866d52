import Derived.Test.Qxb6614448aW5
namespace Go.Proofs.Qxb6614448a
open Go Go.RowKit

/-- It returns true; what was there is as it was. -/
def RT (w : World) (e : Ending) (w' : World) : Prop := e = .returned (.bool true) ∧ Below w.heap.size w w'

/-- The count behind k rows. -/
def Cnt (f : Nat → Nat → ByteArray) (nd : ByteArray) (k : Nat) (z : Int) : Prop := 0 ≤ z ∧ z ≤ 4 * (k : Int) ∧ decide (0 < z) = held f nd k

theorem cnt_none {f : Nat → Nat → ByteArray} {nd : ByteArray} {k : Nat} {z : Int} (h : Cnt f nd k z) (hh : hit (f k) nd = false) : Cnt f nd (k + 1) z := by
  obtain ⟨a, b, c⟩ := h
  refine ⟨a, by omega, ?_⟩
  show _ = (held f nd k || hit (f k) nd)
  rw [hh, Bool.or_false, c]
theorem cnt_some {f : Nat → Nat → ByteArray} {nd : ByteArray} {k : Nat} {z z' : Int} {d : Int} (h : Cnt f nd k z) (hh : hit (f k) nd = true) (he : z' = z + d) (h1 : 1 ≤ d) (h4 : d ≤ 4) : Cnt f nd (k + 1) z' := by
  obtain ⟨a, b, c⟩ := h
  refine ⟨by omega, by omega, ?_⟩
  show _ = (held f nd k || hit (f k) nd)
  rw [hh, Bool.or_true]
  simp
  omega
theorem z_wrap {z z' : Int} (h0 : 0 ≤ z) (h1 : z ≤ 1048576) (he : z' = z + 1) : wrap64 (z + 1) = z' ∧ IntKind.i64.wrap (z + 1) = z' := by
  subst he
  refine ⟨?_, ?_⟩
  · rw [IntWalk.wrap64_in] <;> omega
  · rw [IntWalk.i64_in] <;> omega

set_option maxHeartbeats 8000000 in
set_option maxRecDepth 100000 in
theorem renamed_any (a : Option Addr) (n c : Nat) (s : Nat → Int) (p : Nat → Bool) (f : Nat → Nat → ByteArray) (nd ot : ByteArray) (w : World) (h : RowsIn w a n s p f) :
    Calls Try.prog 4 #[.slice a n c, .string nd, .string ot] w (RT w) := by
  go_enter Try.func4, Try.ntmps4
  go_wp2_with fail
  refine (bytes10_any a n c s p f nd ot w h).mono ?_
  rintro e w' ⟨bb, rfl, rfl⟩
  cases bb with
  | false =>
    go_wp2_with fail
    go_ret
    exact ⟨rfl, Below.refl _ _⟩
  | true =>
    by_cases hl1 : (65536 : Int) < (nd.size : Int)
    · go_wp2_with fail
      go_ret
      exact ⟨rfl, Below.refl _ _⟩
    by_cases hl2 : (65536 : Int) < (ot.size : Int)
    · go_wp2_with fail
      go_ret
      exact ⟨rfl, Below.refl _ _⟩
    go_wp2_with fail
    refine (tooBig_any a n c s p f _ w' h).mono ?_
    rintro e w1 ⟨b1, rfl, hb1, B1⟩
    clear hl1 hl2
    cases b1 with
    | true =>
      go_wp2_with fail
      go_ret
      exact ⟨rfl, B1⟩
    | false =>
      have hn := hb1 rfl
      clear hb1
      cases hne : (nd.toList == ot.toList) with
      | true =>
        go_wp2_with fail
        go_ret
        exact ⟨rfl, B1⟩
      | false =>
        have hmk := run_make22 n (by omega)
        have H1 : Hid (RowsIn w1 a n s p f) := h.below B1
        have HN : Hid (n ≤ 65536) := hn
        have HB1 : Hid (Below w'.heap.size w' w1) := B1
        clear h B1 hn
        go_wp2_with fail
        clear hmk
        go_loopw [8, 9] (fun s8 s9 wr => ∃ (z : Int) (k : Nat), k ≤ n ∧ s9 = .int .i64 k ∧ s8 = .int .i64 z ∧ Cnt f nd k z ∧ Ren w1 w1.heap.size n k s p (fun k => ren nd ot (f k)) wr) (fun _ s9 _ => n - (intOf s9).toNat)
        case atStart => exact ⟨0, 0, Nat.zero_le _, rfl, rfl, ⟨by omega, by omega, rfl⟩, Ren.start w1 n s p _⟩
        case round =>
          obtain ⟨z, k, hk, rfl, rfl, hC, R⟩ := hrel
          by_cases hlt : k < n
          · have hlti : (k : Int) < (n : Int) := Int.ofNat_lt.2 hlt
            obtain ⟨hwi, hwj⟩ := i_step (Nat.le_trans HN.out (by omega)) hlt
            obtain ⟨b, o, rfl, RW⟩ := H1.out.below R.bel k hlt
            have r0 := RW.c0; have r1 := RW.c1; have r2 := RW.c2; have r3 := RW.c3; have r4 := RW.c4; have r5 := RW.c5; have r6 := RW.c6; have r7 := RW.c7; have r8 := RW.c8; have r9 := RW.c9
            obtain ⟨u0, y0⟩ := R.ten hlt 0 (by omega)
            rw [Nat.add_zero] at y0
            obtain ⟨u1, y1⟩ := R.ten hlt 1 (by omega)
            obtain ⟨u2, y2⟩ := R.ten hlt 2 (by omega)
            obtain ⟨u3, y3⟩ := R.ten hlt 3 (by omega)
            obtain ⟨u4, y4⟩ := R.ten hlt 4 (by omega)
            obtain ⟨u5, y5⟩ := R.ten hlt 5 (by omega)
            obtain ⟨u6, y6⟩ := R.ten hlt 6 (by omega)
            obtain ⟨u7, y7⟩ := R.ten hlt 7 (by omega)
            obtain ⟨u8, y8⟩ := R.ten hlt 8 (by omega)
            obtain ⟨u9, y9⟩ := R.ten hlt 9 (by omega)
            have hfr := R.fr
            have hz0 := hC.1
            have hz9 : z ≤ 262144 := by have := hC.2.1; have := HN.out; omega
            obtain ⟨z1, q1⟩ : ∃ z1, z1 = z + 1 := ⟨_, rfl⟩
            obtain ⟨z2, q2⟩ : ∃ z2, z2 = z1 + 1 := ⟨_, rfl⟩
            obtain ⟨z3, q3⟩ : ∃ z3, z3 = z2 + 1 := ⟨_, rfl⟩
            obtain ⟨z4, q4⟩ : ∃ z4, z4 = z3 + 1 := ⟨_, rfl⟩
            obtain ⟨p1, p1'⟩ := z_wrap hz0 (by omega) q1
            obtain ⟨p2, p2'⟩ := z_wrap (z := z1) (by omega) (by omega) q2
            obtain ⟨p3, p3'⟩ := z_wrap (z := z2) (by omega) (by omega) q3
            obtain ⟨p4, p4'⟩ := z_wrap (z := z3) (by omega) (by omega) q4
            have HE1 : Hid (z1 = z + 1) := q1
            have HE2 : Hid (z2 = z + 2) := by unfold Hid; omega
            have HE3 : Hid (z3 = z + 3) := by unfold Hid; omega
            have HE4 : Hid (z4 = z + 4) := by unfold Hid; omega
            have HLT : Hid (k < n) := hlt
            have HC : Hid (Cnt f nd k z) := hC
            have HR : Hid (Ren w1 w1.heap.size n k s p (fun k => ren nd ot (f k)) wr) := R
            have HU : Hid (hit (f k) nd = ((f k 3).toList == nd.toList || (f k 6).toList == nd.toList || (f k 7).toList == nd.toList || (f k 9).toList == nd.toList)) := rfl
            have e2 : (fun k => ren nd ot (f k)) k 2 = f k 2 := rfl
            have e4 : (fun k => ren nd ot (f k)) k 4 = f k 4 := rfl
            have e5 : (fun k => ren nd ot (f k)) k 5 = f k 5 := rfl
            have e8 : (fun k => ren nd ot (f k)) k 8 = f k 8 := rfl
            clear RW R hC hlt q1 q2 q3 q4 hz0 hz9
            cases h3 : ((f k 3).toList == nd.toList) with
            | true =>
              have e3 : (fun k => ren nd ot (f k)) k 3 = ot := (show ren1 nd ot (f k 3) = _ by unfold ren1; rw [h3]; rfl)
              cases h6 : ((f k 6).toList == nd.toList) with
              | true =>
                have e6 : (fun k => ren nd ot (f k)) k 6 = ot := (show ren1 nd ot (f k 6) = _ by unfold ren1; rw [h6]; rfl)
                cases h7 : ((f k 7).toList == nd.toList) with
                | true =>
                  have e7 : (fun k => ren nd ot (f k)) k 7 = ot := (show ren1 nd ot (f k 7) = _ by unfold ren1; rw [h7]; rfl)
                  cases h9 : ((f k 9).toList == nd.toList) with
                  | true =>
                    have e9 : (fun k => ren nd ot (f k)) k 9 = ot := (show ren1 nd ot (f k 9) = _ by unfold ren1; rw [h9]; rfl)
                    go_wp2_with fail
                    go_roundw
                    case rel => exact ⟨z4, k + 1, HLT.out, by go_num, rfl, cnt_some HC.out (HU.out.trans (by rw [h3, h6, h7, h9]; rfl)) HE4.out (by omega) (by omega), (HR.out.below ((Below.refl _ wr).alloc (Nat.le_refl _) _)).next HLT.out e2 e3 e4 e5 e6 e7 e8 e9⟩
                    case measure => simp [intOf]; exact meas HLT.out
                  | false =>
                    have e9 : (fun k => ren nd ot (f k)) k 9 = f k 9 := (show ren1 nd ot (f k 9) = _ by unfold ren1; rw [h9]; rfl)
                    go_wp2_with fail
                    go_roundw
                    case rel => exact ⟨z3, k + 1, HLT.out, by go_num, rfl, cnt_some HC.out (HU.out.trans (by rw [h3, h6, h7, h9]; rfl)) HE3.out (by omega) (by omega), (HR.out.below ((Below.refl _ wr).alloc (Nat.le_refl _) _)).next HLT.out e2 e3 e4 e5 e6 e7 e8 e9⟩
                    case measure => simp [intOf]; exact meas HLT.out
                | false =>
                  have e7 : (fun k => ren nd ot (f k)) k 7 = f k 7 := (show ren1 nd ot (f k 7) = _ by unfold ren1; rw [h7]; rfl)
                  cases h9 : ((f k 9).toList == nd.toList) with
                  | true =>
                    have e9 : (fun k => ren nd ot (f k)) k 9 = ot := (show ren1 nd ot (f k 9) = _ by unfold ren1; rw [h9]; rfl)
                    go_wp2_with fail
                    go_roundw
                    case rel => exact ⟨z3, k + 1, HLT.out, by go_num, rfl, cnt_some HC.out (HU.out.trans (by rw [h3, h6, h7, h9]; rfl)) HE3.out (by omega) (by omega), (HR.out.below ((Below.refl _ wr).alloc (Nat.le_refl _) _)).next HLT.out e2 e3 e4 e5 e6 e7 e8 e9⟩
                    case measure => simp [intOf]; exact meas HLT.out
                  | false =>
                    have e9 : (fun k => ren nd ot (f k)) k 9 = f k 9 := (show ren1 nd ot (f k 9) = _ by unfold ren1; rw [h9]; rfl)
                    go_wp2_with fail
                    go_roundw
                    case rel => exact ⟨z2, k + 1, HLT.out, by go_num, rfl, cnt_some HC.out (HU.out.trans (by rw [h3, h6, h7, h9]; rfl)) HE2.out (by omega) (by omega), (HR.out.below ((Below.refl _ wr).alloc (Nat.le_refl _) _)).next HLT.out e2 e3 e4 e5 e6 e7 e8 e9⟩
                    case measure => simp [intOf]; exact meas HLT.out
              | false =>
                have e6 : (fun k => ren nd ot (f k)) k 6 = f k 6 := (show ren1 nd ot (f k 6) = _ by unfold ren1; rw [h6]; rfl)
                cases h7 : ((f k 7).toList == nd.toList) with
                | true =>
                  have e7 : (fun k => ren nd ot (f k)) k 7 = ot := (show ren1 nd ot (f k 7) = _ by unfold ren1; rw [h7]; rfl)
                  cases h9 : ((f k 9).toList == nd.toList) with
                  | true =>
                    have e9 : (fun k => ren nd ot (f k)) k 9 = ot := (show ren1 nd ot (f k 9) = _ by unfold ren1; rw [h9]; rfl)
                    go_wp2_with fail
                    go_roundw
                    case rel => exact ⟨z3, k + 1, HLT.out, by go_num, rfl, cnt_some HC.out (HU.out.trans (by rw [h3, h6, h7, h9]; rfl)) HE3.out (by omega) (by omega), (HR.out.below ((Below.refl _ wr).alloc (Nat.le_refl _) _)).next HLT.out e2 e3 e4 e5 e6 e7 e8 e9⟩
                    case measure => simp [intOf]; exact meas HLT.out
                  | false =>
                    have e9 : (fun k => ren nd ot (f k)) k 9 = f k 9 := (show ren1 nd ot (f k 9) = _ by unfold ren1; rw [h9]; rfl)
                    go_wp2_with fail
                    go_roundw
                    case rel => exact ⟨z2, k + 1, HLT.out, by go_num, rfl, cnt_some HC.out (HU.out.trans (by rw [h3, h6, h7, h9]; rfl)) HE2.out (by omega) (by omega), (HR.out.below ((Below.refl _ wr).alloc (Nat.le_refl _) _)).next HLT.out e2 e3 e4 e5 e6 e7 e8 e9⟩
                    case measure => simp [intOf]; exact meas HLT.out
                | false =>
                  have e7 : (fun k => ren nd ot (f k)) k 7 = f k 7 := (show ren1 nd ot (f k 7) = _ by unfold ren1; rw [h7]; rfl)
                  cases h9 : ((f k 9).toList == nd.toList) with
                  | true =>
                    have e9 : (fun k => ren nd ot (f k)) k 9 = ot := (show ren1 nd ot (f k 9) = _ by unfold ren1; rw [h9]; rfl)
                    go_wp2_with fail
                    go_roundw
                    case rel => exact ⟨z2, k + 1, HLT.out, by go_num, rfl, cnt_some HC.out (HU.out.trans (by rw [h3, h6, h7, h9]; rfl)) HE2.out (by omega) (by omega), (HR.out.below ((Below.refl _ wr).alloc (Nat.le_refl _) _)).next HLT.out e2 e3 e4 e5 e6 e7 e8 e9⟩
                    case measure => simp [intOf]; exact meas HLT.out
                  | false =>
                    have e9 : (fun k => ren nd ot (f k)) k 9 = f k 9 := (show ren1 nd ot (f k 9) = _ by unfold ren1; rw [h9]; rfl)
                    go_wp2_with fail
                    go_roundw
                    case rel => exact ⟨z1, k + 1, HLT.out, by go_num, rfl, cnt_some HC.out (HU.out.trans (by rw [h3, h6, h7, h9]; rfl)) HE1.out (by omega) (by omega), (HR.out.below ((Below.refl _ wr).alloc (Nat.le_refl _) _)).next HLT.out e2 e3 e4 e5 e6 e7 e8 e9⟩
                    case measure => simp [intOf]; exact meas HLT.out
            | false =>
              have e3 : (fun k => ren nd ot (f k)) k 3 = f k 3 := (show ren1 nd ot (f k 3) = _ by unfold ren1; rw [h3]; rfl)
              cases h6 : ((f k 6).toList == nd.toList) with
              | true =>
                have e6 : (fun k => ren nd ot (f k)) k 6 = ot := (show ren1 nd ot (f k 6) = _ by unfold ren1; rw [h6]; rfl)
                cases h7 : ((f k 7).toList == nd.toList) with
                | true =>
                  have e7 : (fun k => ren nd ot (f k)) k 7 = ot := (show ren1 nd ot (f k 7) = _ by unfold ren1; rw [h7]; rfl)
                  cases h9 : ((f k 9).toList == nd.toList) with
                  | true =>
                    have e9 : (fun k => ren nd ot (f k)) k 9 = ot := (show ren1 nd ot (f k 9) = _ by unfold ren1; rw [h9]; rfl)
                    go_wp2_with fail
                    go_roundw
                    case rel => exact ⟨z3, k + 1, HLT.out, by go_num, rfl, cnt_some HC.out (HU.out.trans (by rw [h3, h6, h7, h9]; rfl)) HE3.out (by omega) (by omega), (HR.out.below ((Below.refl _ wr).alloc (Nat.le_refl _) _)).next HLT.out e2 e3 e4 e5 e6 e7 e8 e9⟩
                    case measure => simp [intOf]; exact meas HLT.out
                  | false =>
                    have e9 : (fun k => ren nd ot (f k)) k 9 = f k 9 := (show ren1 nd ot (f k 9) = _ by unfold ren1; rw [h9]; rfl)
                    go_wp2_with fail
                    go_roundw
                    case rel => exact ⟨z2, k + 1, HLT.out, by go_num, rfl, cnt_some HC.out (HU.out.trans (by rw [h3, h6, h7, h9]; rfl)) HE2.out (by omega) (by omega), (HR.out.below ((Below.refl _ wr).alloc (Nat.le_refl _) _)).next HLT.out e2 e3 e4 e5 e6 e7 e8 e9⟩
                    case measure => simp [intOf]; exact meas HLT.out
                | false =>
                  have e7 : (fun k => ren nd ot (f k)) k 7 = f k 7 := (show ren1 nd ot (f k 7) = _ by unfold ren1; rw [h7]; rfl)
                  cases h9 : ((f k 9).toList == nd.toList) with
                  | true =>
                    have e9 : (fun k => ren nd ot (f k)) k 9 = ot := (show ren1 nd ot (f k 9) = _ by unfold ren1; rw [h9]; rfl)
                    go_wp2_with fail
                    go_roundw
                    case rel => exact ⟨z2, k + 1, HLT.out, by go_num, rfl, cnt_some HC.out (HU.out.trans (by rw [h3, h6, h7, h9]; rfl)) HE2.out (by omega) (by omega), (HR.out.below ((Below.refl _ wr).alloc (Nat.le_refl _) _)).next HLT.out e2 e3 e4 e5 e6 e7 e8 e9⟩
                    case measure => simp [intOf]; exact meas HLT.out
                  | false =>
                    have e9 : (fun k => ren nd ot (f k)) k 9 = f k 9 := (show ren1 nd ot (f k 9) = _ by unfold ren1; rw [h9]; rfl)
                    go_wp2_with fail
                    go_roundw
                    case rel => exact ⟨z1, k + 1, HLT.out, by go_num, rfl, cnt_some HC.out (HU.out.trans (by rw [h3, h6, h7, h9]; rfl)) HE1.out (by omega) (by omega), (HR.out.below ((Below.refl _ wr).alloc (Nat.le_refl _) _)).next HLT.out e2 e3 e4 e5 e6 e7 e8 e9⟩
                    case measure => simp [intOf]; exact meas HLT.out
              | false =>
                have e6 : (fun k => ren nd ot (f k)) k 6 = f k 6 := (show ren1 nd ot (f k 6) = _ by unfold ren1; rw [h6]; rfl)
                cases h7 : ((f k 7).toList == nd.toList) with
                | true =>
                  have e7 : (fun k => ren nd ot (f k)) k 7 = ot := (show ren1 nd ot (f k 7) = _ by unfold ren1; rw [h7]; rfl)
                  cases h9 : ((f k 9).toList == nd.toList) with
                  | true =>
                    have e9 : (fun k => ren nd ot (f k)) k 9 = ot := (show ren1 nd ot (f k 9) = _ by unfold ren1; rw [h9]; rfl)
                    go_wp2_with fail
                    go_roundw
                    case rel => exact ⟨z2, k + 1, HLT.out, by go_num, rfl, cnt_some HC.out (HU.out.trans (by rw [h3, h6, h7, h9]; rfl)) HE2.out (by omega) (by omega), (HR.out.below ((Below.refl _ wr).alloc (Nat.le_refl _) _)).next HLT.out e2 e3 e4 e5 e6 e7 e8 e9⟩
                    case measure => simp [intOf]; exact meas HLT.out
                  | false =>
                    have e9 : (fun k => ren nd ot (f k)) k 9 = f k 9 := (show ren1 nd ot (f k 9) = _ by unfold ren1; rw [h9]; rfl)
                    go_wp2_with fail
                    go_roundw
                    case rel => exact ⟨z1, k + 1, HLT.out, by go_num, rfl, cnt_some HC.out (HU.out.trans (by rw [h3, h6, h7, h9]; rfl)) HE1.out (by omega) (by omega), (HR.out.below ((Below.refl _ wr).alloc (Nat.le_refl _) _)).next HLT.out e2 e3 e4 e5 e6 e7 e8 e9⟩
                    case measure => simp [intOf]; exact meas HLT.out
                | false =>
                  have e7 : (fun k => ren nd ot (f k)) k 7 = f k 7 := (show ren1 nd ot (f k 7) = _ by unfold ren1; rw [h7]; rfl)
                  cases h9 : ((f k 9).toList == nd.toList) with
                  | true =>
                    have e9 : (fun k => ren nd ot (f k)) k 9 = ot := (show ren1 nd ot (f k 9) = _ by unfold ren1; rw [h9]; rfl)
                    go_wp2_with fail
                    go_roundw
                    case rel => exact ⟨z1, k + 1, HLT.out, by go_num, rfl, cnt_some HC.out (HU.out.trans (by rw [h3, h6, h7, h9]; rfl)) HE1.out (by omega) (by omega), (HR.out.below ((Below.refl _ wr).alloc (Nat.le_refl _) _)).next HLT.out e2 e3 e4 e5 e6 e7 e8 e9⟩
                    case measure => simp [intOf]; exact meas HLT.out
                  | false =>
                    have e9 : (fun k => ren nd ot (f k)) k 9 = f k 9 := (show ren1 nd ot (f k 9) = _ by unfold ren1; rw [h9]; rfl)
                    go_wp2_with fail
                    go_roundw
                    case rel => exact ⟨z, k + 1, HLT.out, by go_num, rfl, cnt_none HC.out (HU.out.trans (by rw [h3, h6, h7, h9]; rfl)), (HR.out.below ((Below.refl _ wr).alloc (Nat.le_refl _) _)).next HLT.out e2 e3 e4 e5 e6 e7 e8 e9⟩
                    case measure => simp [intOf]; exact meas HLT.out
          · obtain rfl : k = n := Nat.le_antisymm hk (Nat.le_of_not_lt hlt)
            have hdec := hC.2.2
            have hk65 : k ≤ 65536 := HN.out
            have hz0 := hC.1
            have L1 := held_nd hne f k
            have L2 := held_ot (nd := nd) (ot := ot) f k
            have HF := H1.out.below R.bel
            have HG := R.all
            have HB : Hid (Below w'.heap.size w' wr) := HB1.out.trans (R.bel.mono HB1.out.size)
            have HD : Hid (decide (0 < z) = held f nd k) := hdec
            have HL1 : Hid (held (fun k => ren nd ot (f k)) nd k = false) := L1
            have HL2 : Hid (held (fun k => ren nd ot (f k)) ot k = (held f nd k || held f ot k)) := L2
            clear R hC hdec L1 L2 HB1 H1 hlt
            go_wp2_with fail
            refine (ptrs_any a k c s p f wr hk65 HF).mono ?_
            rintro e w2 ⟨rfl, M2⟩
            have HF2 := HF.below M2.bel
            have HG2 := HG.below M2.bel
            have HB2 := HB.out.trans (M2.bel.mono HB.out.size)
            go_wp2_with fail
            refine (zholds_any _ k k f nd w2 (by omega) M2.all).mono ?_
            rintro e w2' ⟨rfl, rfl⟩
            clear M2 HF HG
            go_wp2_with fail
            refine (ptrs_any a k c s p f w2' hk65 HF2).mono ?_
            rintro e w3 ⟨rfl, M3⟩
            have HG3 := HG2.below M3.bel
            have HB3 := HB2.trans (M3.bel.mono HB2.size)
            go_wp2_with fail
            refine (zholds_any _ k k f ot w3 (by omega) M3.all).mono ?_
            rintro e w3' ⟨rfl, rfl⟩
            clear M3 HF2 HG2 HB2
            go_wp2_with fail
            refine (ptrs_any _ k k s p (fun k => ren nd ot (f k)) w3' hk65 HG3).mono ?_
            rintro e w4 ⟨rfl, M4⟩
            have HG4 := HG3.below M4.bel
            have HB4 := HB3.trans (M4.bel.mono HB3.size)
            go_wp2_with fail
            refine (zholds_any _ k k (fun k => ren nd ot (f k)) nd w4 (by omega) M4.all).mono ?_
            rintro e w4' ⟨rfl, rfl⟩
            clear M4 HG3 HB3
            go_wp2_with fail
            refine (ptrs_any _ k k s p (fun k => ren nd ot (f k)) w4' hk65 HG4).mono ?_
            rintro e w5 ⟨rfl, M5⟩
            have HB5 := HB4.trans (M5.bel.mono HB4.size)
            go_wp2_with fail
            refine (zholds_any _ k k (fun k => ren nd ot (f k)) ot w5 (by omega) M5.all).mono ?_
            rintro e w5' ⟨rfl, rfl⟩
            clear M5 HG4 HB4
            rw [HL1.out, HL2.out]
            rw [← HD.out]
            clear HL1 HL2 HD
            generalize held f ot k = bo
            by_cases hz : 0 < z
            · have hzd : decide (0 < z) = true := decide_eq_true hz
              cases bo <;> (go_wp2_with fail; go_ret; exact ⟨rfl, HB5⟩)
            · have hzd : decide (0 < z) = false := decide_eq_false hz
              cases bo <;> (go_wp2_with fail; go_ret; exact ⟨rfl, HB5⟩)
end Go.Proofs.Qxb6614448a
