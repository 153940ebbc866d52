import Derived.Test.Qxb6608969aDoorRows
import Derived.WalkKit
import Derived.BigQuiet
namespace Go.Proofs.Qxb6608969aDoor
open Go Go.RowKit

/-! ### What the walks are told of the events that came in -/
/-- A pointer to a ZChange (or nil), and what it tells: its op and its commit timestamp. -/
def ChgIn (N : Nat) (w : World) (p : Option Addr) (c : Option (ByteArray × Int)) : Prop :=
  (p = none ∧ c = none) ∨ ∃ (b o : Nat) (s0 s1 s2 : ByteArray) (t3 : Int) (b4 : Bool) (s5 : ByteArray), p = some ⟨b, o, none⟩ ∧ c = some (s0, t3) ∧ b < N ∧
    w.cell? ⟨b, o, none⟩ = some (.string s0) ∧ w.cell? ⟨b, o + 1, none⟩ = some (.string s1) ∧ w.cell? ⟨b, o + 2, none⟩ = some (.string s2) ∧
    w.cell? ⟨b, o + 3, none⟩ = some (.int .u64 t3) ∧ w.cell? ⟨b, o + 4, none⟩ = some (.bool b4) ∧ w.cell? ⟨b, o + 5, none⟩ = some (.string s5)

/-- A pointer to a ZTableSchema, or nil. -/
def SchIn (N : Nat) (w : World) (p : Option Addr) : Prop :=
  p = none ∨ ∃ (b o : Nat) (s0 : ByteArray) (t1 t2 : Int) (b3 : Bool) (s4 : ByteArray), p = some ⟨b, o, none⟩ ∧ b < N ∧
    w.cell? ⟨b, o, none⟩ = some (.string s0) ∧ w.cell? ⟨b, o + 1, none⟩ = some (.int .u64 t1) ∧ w.cell? ⟨b, o + 2, none⟩ = some (.int .u64 t2) ∧
    w.cell? ⟨b, o + 3, none⟩ = some (.bool b3) ∧ w.cell? ⟨b, o + 4, none⟩ = some (.string s4)

/-- One event's seven cells. -/
def EvIn (N : Nat) (w : World) (b o : Nat) (c : Option (ByteArray × Int)) : Prop :=
  ∃ (p0 : Option Addr) (t1 : Int) (b2 b3 : Bool) (p4 p5 : Option Addr) (s6 : ByteArray), b < N ∧
    w.cell? ⟨b, o, none⟩ = some (.pointer p0) ∧ w.cell? ⟨b, o + 1, none⟩ = some (.int .u64 t1) ∧ w.cell? ⟨b, o + 2, none⟩ = some (.bool b2) ∧
    w.cell? ⟨b, o + 3, none⟩ = some (.bool b3) ∧ w.cell? ⟨b, o + 4, none⟩ = some (.pointer p4) ∧ w.cell? ⟨b, o + 5, none⟩ = some (.pointer p5) ∧
    w.cell? ⟨b, o + 6, none⟩ = some (.string s6) ∧ ChgIn N w p0 c ∧ SchIn N w p4 ∧ SchIn N w p5

/-- A slice of events. -/
def EvsIn (N : Nat) (w : World) (ao : Option Addr) (l : List (Option (ByteArray × Int))) : Prop :=
  ∀ k c, l[k]? = some c → ∃ b o, ao = some ⟨b, o, none⟩ ∧ EvIn N w b (o + k * 7) c

theorem ChgIn.below {N : Nat} {w w' : World} {p : Option Addr} {c : Option (ByteArray × Int)} (hb : Below N w w') (h : ChgIn N w p c) : ChgIn N w' p c := by
  rcases h with h | ⟨b, o, s0, s1, s2, t3, b4, s5, e1, e2, hN, h0, h1, h2, h3, h4, h5⟩
  · exact .inl h
  · exact .inr ⟨b, o, s0, s1, s2, t3, b4, s5, e1, e2, hN, (hb.cell hN).trans h0, (hb.cell hN).trans h1, (hb.cell hN).trans h2, (hb.cell hN).trans h3, (hb.cell hN).trans h4, (hb.cell hN).trans h5⟩

theorem SchIn.below {N : Nat} {w w' : World} {p : Option Addr} (hb : Below N w w') (h : SchIn N w p) : SchIn N w' p := by
  rcases h with h | ⟨b, o, s0, t1, t2, b3, s4, e1, hN, h0, h1, h2, h3, h4⟩
  · exact .inl h
  · exact .inr ⟨b, o, s0, t1, t2, b3, s4, e1, hN, (hb.cell hN).trans h0, (hb.cell hN).trans h1, (hb.cell hN).trans h2, (hb.cell hN).trans h3, (hb.cell hN).trans h4⟩

theorem EvIn.below {N : Nat} {w w' : World} {b o : Nat} {c : Option (ByteArray × Int)} (hb : Below N w w') (h : EvIn N w b o c) : EvIn N w' b o c := by
  obtain ⟨p0, t1, b2, b3, p4, p5, s6, hN, h0, h1, h2, h3, h4, h5, h6, k0, k4, k5⟩ := h
  exact ⟨p0, t1, b2, b3, p4, p5, s6, hN, (hb.cell hN).trans h0, (hb.cell hN).trans h1, (hb.cell hN).trans h2, (hb.cell hN).trans h3, (hb.cell hN).trans h4, (hb.cell hN).trans h5, (hb.cell hN).trans h6, k0.below hb, k4.below hb, k5.below hb⟩

theorem EvsIn.below {N : Nat} {w w' : World} {ao : Option Addr} {l : List (Option (ByteArray × Int))} (hb : Below N w w') (h : EvsIn N w ao l) : EvsIn N w' ao l := by
  intro k c hk
  obtain ⟨b, o, e, h1⟩ := h k c hk
  exact ⟨b, o, e, h1.below hb⟩

/-- It returns an int that, within the bound, is at least t and d more; the world is as it was. -/
def RI (t d : Int) (w : World) (e : Ending) (w' : World) : Prop := ∃ r : Int, e = .returned (.int .i64 r) ∧ w' = w ∧ 0 ≤ r ∧ Hid (r ≤ 1048576 → t + d ≤ r)
/-- The same; the world below N is as it was. -/
def RIB (t d : Int) (N : Nat) (w : World) (e : Ending) (w' : World) : Prop := ∃ r : Int, e = .returned (.int .i64 r) ∧ Below N w w' ∧ 0 ≤ r ∧ Hid (r ≤ 1048576 → t + d ≤ r)

/-! ### zzAddLen -/
set_option maxHeartbeats 400000 in
theorem addLen_any (t n : Int) (w : World) (ht : 0 ≤ t) (hn : 0 ≤ n) : Calls Tryd.prog 15 #[.int .i64 t, .int .i64 n] w (RI t n w) := by
  go_enter Tryd.func15, Tryd.ntmps15
  go_wp2
  all_goals
    go_ret
    exact ⟨_, rfl, rfl, by omega, fun _ => by omega⟩

/-! ### zzSchemaBytes -/
set_option maxHeartbeats 400000 in
theorem schemaBytes_any (N : Nat) (t : Int) (p : Option Addr) (w : World) (ht : 0 ≤ t) (h : SchIn N w p) : Calls Tryd.prog 16 #[.int .i64 t, .pointer p] w (RI t 0 w) := by
  rcases h with rfl | ⟨b, o, s0, t1, t2, b3, s4, rfl, _, h0, _, _, _, h4⟩
  · go_enter Tryd.func16, Tryd.ntmps16
    go_wp2
    go_ret
    exact ⟨_, rfl, rfl, ht, fun _ => by omega⟩
  · go_enter Tryd.func16, Tryd.ntmps16
    go_wp2_with (go_at_call 15; refine (addLen_any _ _ _ (by omega) (by omega)).mono ?_; rintro e w' ⟨r, rfl, rfl, h0r, hr⟩)
    go_ret
    unfold Hid at *
    exact ⟨_, rfl, rfl, by omega, fun _ => by omega⟩

/-! ### zzEventBytes: it boxes its event -/
set_option maxHeartbeats 1000000 in
theorem eventBytes_any (N : Nat) (t : Int) (p0 : Option Addr) (t1 : Int) (b2 b3 : Bool) (p4 p5 : Option Addr) (s6 : ByteArray) (c : Option (ByteArray × Int)) (w : World) (hN : N ≤ w.heap.size) (ht : 0 ≤ t)
    (k0 : ChgIn N w p0 c) (k4 : SchIn N w p4) (k5 : SchIn N w p5) :
    Calls Tryd.prog 11 #[.int .i64 t, .agg #[.pointer p0, .int .u64 t1, .bool b2, .bool b3, .pointer p4, .pointer p5, .string s6]] w (RIB t 64 N w) := by
  have hbx : Below N w (w.alloc (.cells #[.pointer p0, .int .u64 t1, .bool b2, .bool b3, .pointer p4, .pointer p5, .string s6] 29)) := (Below.refl _ _).alloc hN _
  have k0' := k0.below hbx
  have k4' := k4.below hbx
  have k5' := k5.below hbx
  clear k0 k4 k5
  rcases k0' with ⟨rfl, rfl⟩ | ⟨b, o, s0, s1, s2, t3, b4, s5, rfl, rfl, _, h0, h1, h2, h3, h4, h5⟩
  · go_enter Tryd.func11, Tryd.ntmps11
    go_wp2_with (first | (go_at_call 15; refine (addLen_any _ _ _ (by omega) (by omega)).mono ?_; rintro e w' ⟨r, rfl, rfl, h0r, hr⟩) | (go_at_call 16; refine (schemaBytes_any N _ _ _ (by omega) (by assumption)).mono ?_; rintro e w' ⟨r, rfl, rfl, h0r, hr⟩))
    go_ret
    unfold Hid at *
    exact ⟨_, rfl, hbx, by omega, fun _ => by omega⟩
  · go_enter Tryd.func11, Tryd.ntmps11
    go_wp2_with (first | (go_at_call 15; refine (addLen_any _ _ _ (by omega) (by omega)).mono ?_; rintro e w' ⟨r, rfl, rfl, h0r, hr⟩) | (go_at_call 16; refine (schemaBytes_any N _ _ _ (by omega) (by assumption)).mono ?_; rintro e w' ⟨r, rfl, rfl, h0r, hr⟩))
    go_ret
    unfold Hid at *
    exact ⟨_, rfl, hbx, by omega, fun _ => by omega⟩
end Go.Proofs.Qxb6608969aDoor
