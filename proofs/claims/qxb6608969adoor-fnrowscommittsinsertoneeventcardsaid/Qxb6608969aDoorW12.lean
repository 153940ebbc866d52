import Derived.Test.Qxb6608969aDoorW11
namespace Go.Proofs.Qxb6608969aDoor
open Go Go.RowKit

theorem zz_any (so : Option Addr) (l : List (Option (ByteArray × Int))) (m : Nat) (u : TypeId) (v : Value) (w : World) (hl : l.length ≤ 1048576) (hout : EvsOut w.heap.size w so l) (hg : w.cell? ⟨0, 0, none⟩ = some (.iface u v)) :
    Calls Tryd.prog 7 #[.slice so l.length m] w (RTs l w) := by
  go_enter Tryd.func7, Tryd.ntmps7
  go_wp2_with (go_at_call 13; refine (rows_any so l m u v _ hl hout hg).mono ?_; rintro e w' ⟨ts, er, rfl, hb, hr⟩)
  go_ret2
  exact ⟨ts, er, rfl, hb, hr⟩

/-- It returns true; the world is as it was. -/
def RT (w : World) (e : Ending) (w' : World) : Prop := e = .returned (.bool true) ∧ w' = w

theorem ans_head {l : List (Option (ByteArray × Int))} {ts : Int} (h : ans l = some ts) : ∃ op r, l = some (op, ts) :: r := by
  unfold ans at h
  split at h
  · match l, h with
    | some (op, t) :: r, h => simp at h; subst h; exact ⟨op, r, rfl⟩
    | none :: r, h => simp at h
    | [], h => simp at h
  · simp at h

set_option maxHeartbeats 400000 in
theorem shape_no (v0 : Value) (w : World) : Calls Tryd.prog 9 #[v0, .int .u64 0, .bool false] w (RT w) := by
  go_enter Tryd.func9, Tryd.ntmps9
  go_wp2
  go_ret
  exact ⟨rfl, rfl⟩

set_option maxHeartbeats 400000 in
theorem shape_yes (N : Nat) (ao : Option Addr) (l : List (Option (ByteArray × Int))) (cap : Nat) (ts : Int) (w : World) (hin : EvsIn N w ao l) (ha : ans l = some ts) : Calls Tryd.prog 9 #[.slice ao l.length cap, .int .u64 ts, .bool true] w (RT w) := by
  obtain ⟨op, r, rfl⟩ := ans_head ha
  obtain ⟨b, o, rfl, p0, t1, b2, b3, p4, p5, s6, hbN, g0, g1, g2, g3, g4, g5, g6, k0, k4, k5⟩ := hin 0 (some (op, ts)) (by simp)
  rcases k0 with ⟨_, hc⟩ | ⟨b', o', a0, a1, a2, a3, a4, a5, rfl, hc, _, j0, j1, j2, j3, j4, j5⟩
  · simp at hc
  · simp only [Option.some.injEq, Prod.mk.injEq] at hc
    obtain ⟨rfl, rfl⟩ := hc
    have f0 : w.cell? ⟨b, o, none⟩ = some (.pointer (some ⟨b', o', none⟩)) := by simpa using g0
    generalize hn : ((some (op, ts) :: r).length) = n
    have hp : (0 : Int) < n := by simp at hn; omega
    clear hn hin ha g0 g1 g2 g3 g4 g5 g6 k4 k5 j0 j1 j2 j4 j5
    go_enter Tryd.func9, Tryd.ntmps9
    go_wp2
    go_ret
    exact ⟨rfl, rfl⟩

/-- It returns that bool; all that was there is as it was. -/
def RBb (x : Bool) (w : World) (e : Ending) (w' : World) : Prop := e = .returned (.bool x) ∧ Below w.heap.size w w'

set_option maxHeartbeats 400000 in
theorem isRow_any (N : Nat) (p0 : Option Addr) (t1 : Int) (b2 b3 : Bool) (p4 p5 : Option Addr) (s6 : ByteArray) (c : Option (ByteArray × Int)) (w : World) (hN : N ≤ w.heap.size) (k0 : ChgIn N w p0 c) :
    Calls Tryd.prog 12 #[.agg #[.pointer p0, .int .u64 t1, .bool b2, .bool b3, .pointer p4, .pointer p5, .string s6]] w (RBb (okRow c) w) := by
  rcases k0 with ⟨rfl, rfl⟩ | ⟨b', o', a0, a1, a2, a3, a4, a5, rfl, rfl, hb, j0, j1, j2, j3, j4, j5⟩
  · go_enter Tryd.func12, Tryd.ntmps12
    go_wp2
    go_ret
    exact ⟨rfl, (Below.refl _ _).alloc (Nat.le_refl _) _⟩
  · have hne : b' ≠ w.heap.size := by omega
    have i0 : ∀ A : Obj, (w.alloc A).cell? ⟨b', o', none⟩ = some (.string a0) := fun A => (World.cell?_alloc_old _ _ _ hne).trans j0
    clear j0 j1 j2 j3 j4 j5
    cases hdb : (a0.toList == [100, 100, 108])
    · go_enter Tryd.func12, Tryd.ntmps12
      go_wp2
      go_ret
      exact ⟨by simp [okRow, hdb], (Below.refl _ _).alloc (Nat.le_refl _) _⟩
    · go_enter Tryd.func12, Tryd.ntmps12
      go_wp2
      go_ret
      exact ⟨by simp [okRow, hdb], (Below.refl _ _).alloc (Nat.le_refl _) _⟩
end Go.Proofs.Qxb6608969aDoor
