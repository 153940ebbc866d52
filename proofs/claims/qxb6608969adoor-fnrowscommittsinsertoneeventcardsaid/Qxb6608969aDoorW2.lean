import Derived.Test.Qxb6608969aDoorW1
namespace Go.Proofs.Qxb6608969aDoor
open Go Go.RowKit

/-! ### zzEventsBytes -/
set_option maxHeartbeats 1000000 in
theorem eventsBytes_any (N : Nat) (t : Int) (ao : Option Addr) (l : List (Option (ByteArray × Int))) (cap : Nat) (w : World) (hN : N ≤ w.heap.size) (ht : 0 ≤ t) (hl : l.length ≤ maxLen) (hin : EvsIn N w ao l) :
    Calls Tryd.prog 6 #[.int .i64 t, .slice ao l.length cap] w (RIB t (64 * l.length) N w) := by
  unfold maxLen at hl
  go_enter Tryd.func6, Tryd.ntmps6
  go_wp2
  go_loopw [0, 5] (fun t' i wr => ∃ k : Nat, ∃ y : Int, k ≤ l.length ∧ i = .int .i64 k ∧ t' = .int .i64 y ∧ 0 ≤ y ∧ Hid (y ≤ 1048576 → t + 64 * k ≤ y) ∧ Below N w wr) (fun _ i _ => l.length - (intOf i).toNat)
  case atStart => exact ⟨0, t, Nat.zero_le _, rfl, rfl, ht, fun _ => by omega, Below.refl _ _⟩
  case round =>
    obtain ⟨k, y, hk, rfl, rfl, hy0, hy, hbe⟩ := hrel
    by_cases hlt : k < l.length
    · obtain ⟨b, o, rfl, p0, t1, b2, b3, p4, p5, s6, hbN, h0, h1, h2, h3, h4, h5, h6, k0, k4, k5⟩ := (hin k l[k] (by simp [hlt]))
      have g0 := (hbe.cell hbN).trans h0
      have g1 := (hbe.cell hbN).trans h1
      have g2 := (hbe.cell hbN).trans h2
      have g3 := (hbe.cell hbN).trans h3
      have g4 := (hbe.cell hbN).trans h4
      have g5 := (hbe.cell hbN).trans h5
      have g6 := (hbe.cell hbN).trans h6
      clear h0 h1 h2 h3 h4 h5 h6
      have hNw : N ≤ wr.heap.size := Nat.le_trans hN hbe.size
      go_wp2_with (go_at_call 11; refine (eventBytes_any N _ _ _ _ _ _ _ _ _ _ hNw hy0 (k0.below hbe) (k4.below hbe) (k5.below hbe)).mono ?_; rintro e w' ⟨r, rfl, hb', hr0, hr⟩)
      · go_ret
        exact ⟨_, rfl, hbe, hy0, fun _ => by omega⟩
      · go_roundw
        case rel =>
          unfold Hid at *
          exact ⟨k + 1, r, by omega, by go_num, rfl, hr0, fun _ => by omega, hbe.trans hb'⟩
        case measure => simp [intOf]; omega
    · go_wp2
      go_ret
      unfold Hid at *
      exact ⟨_, rfl, hbe, hy0, fun _ => by omega⟩
end Go.Proofs.Qxb6608969aDoor
