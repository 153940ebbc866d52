import Derived.Test.Qxb6608969aDoorW9
namespace Go.Proofs.Qxb6608969aDoor
open Go Go.RowKit

/-- A slice of events of the call's own. -/
def EvsOut (M : Nat) (w : World) (so : Option Addr) (l : List (Option (ByteArray × Int))) : Prop :=
  ∀ k c, l[k]? = some c → ∃ b, so = some ⟨b, 0, none⟩ ∧ b < M ∧ EvOut (b + 1) M w b (k * 7) c

/-- zzEvents' answer. -/
def REvs (l : List (Option (ByteArray × Int))) (w : World) (e : Ending) (w' : World) : Prop :=
  ∃ (so : Option Addr) (m : Nat), e = .returned (.slice so l.length m) ∧ Below w.heap.size w w' ∧ EvsOut w'.heap.size w' so l

theorem run_eql22 (w : World) (a : Option Addr) (n c : Nat) : (binOp .eql 22 (.slice a n c) (.slice none 0 0)).run Tryd.prog w = .ok (.bool a.isNone) w := by
  have h : ∀ d, (Op.equalIn (d + 1) 22 (.slice a n c) (.slice none 0 0)).run Tryd.prog w = .ok a.isNone w := fun d => by
    cases a <;> simp [Op.equalIn, run_underlying Tryd.underlying22]
  simp only [binOp]
  simp [Op.equal, Op.maxDepth, h 9999]

theorem events_nil (w : World) : Calls Tryd.prog 8 #[.slice none 0 0] w (REvs [] w) := by
  have hq := run_eql22
  go_enter Tryd.func8, Tryd.ntmps8
  go_wp2
  go_ret
  exact ⟨none, 0, rfl, Below.refl _ _, fun k c h => by simp at h⟩

/-- The loop's relation. -/
structure Mk (N : Nat) (w : World) (l : List (Option (ByteArray × Int))) (k : Nat) (wr : World) : Prop where
  bel : Below w.heap.size w wr
  row : RowOk w.heap.size (l.length * 7) wr
  evs : ∀ j c, j < k → l[j]? = some c → EvOut (w.heap.size + 1) wr.heap.size wr w.heap.size (j * 7) c

theorem Mk.start {N : Nat} {w : World} {l : List (Option (ByteArray × Int))} : Mk N w l 0 (w.alloc (madeObj l.length 47)) where
  bel := (Below.refl _ _).alloc (Nat.le_refl _) _
  row := rowOk_made w l.length 47
  evs := fun j c h => by omega

theorem Mk.next {N : Nat} {w : World} {l : List (Option (ByteArray × Int))} {k : Nat} {wr w' : World} {c : Option (ByteArray × Int)} {p0 : Option Addr} {t1 : Int} {b2 b3 : Bool} {p4 p5 : Option Addr} {s6 : ByteArray} (h : Mk N w l k wr) (hk : l[k]? = some c)
    (hb : Below wr.heap.size wr w') (hc : ChgOut wr.heap.size w'.heap.size w' p0 c) :
    Mk N w l (k + 1) (storedAt w' w.heap.size (k * 7) (.pointer p0) (.int .u64 t1) (.bool b2) (.bool b3) (.pointer p4) (.pointer p5) (.string s6)) where
  bel := storedAt_below _ _ _ _ _ _ _ _ _ _ (h.bel.trans (hb.mono h.bel.size)) (Nat.le_refl _)
  row := (h.row.below hb).stored _ _ _ _ _ _ _ _
  evs := fun j c' hj hc' => by
    have hkl : k < l.length := (List.getElem?_eq_some_iff.1 hk).1
    rw [storedAt_size]
    by_cases e : j = k
    · subst e
      obtain rfl : c' = c := by rw [hc'] at hk; exact Option.some.inj hk
      exact EvOut.new (h.row.below hb) (by omega) (by omega) (hc.mono h.row.lt (Nat.le_refl _))
    · exact EvOut.stored (((h.evs j c' (by omega) hc').below hb h.row.lt).mono hb.size) (by omega) (by omega) _ _ _ _ _ _ _

theorem Mk.seven {N : Nat} {w : World} {l : List (Option (ByteArray × Int))} {k : Nat} {wr w' : World} (h : Hid (Mk N w l k wr)) (hk : k < l.length) (hb : Below wr.heap.size wr w') :
    (∃ u, w'.cell? ⟨w.heap.size, k * 7, none⟩ = some u) ∧ (∃ u, w'.cell? ⟨w.heap.size, k * 7 + 1, none⟩ = some u) ∧ (∃ u, w'.cell? ⟨w.heap.size, k * 7 + 2, none⟩ = some u) ∧ (∃ u, w'.cell? ⟨w.heap.size, k * 7 + 3, none⟩ = some u) ∧
    (∃ u, w'.cell? ⟨w.heap.size, k * 7 + 4, none⟩ = some u) ∧ (∃ u, w'.cell? ⟨w.heap.size, k * 7 + 5, none⟩ = some u) ∧ (∃ u, w'.cell? ⟨w.heap.size, k * 7 + 6, none⟩ = some u) ∧ ∀ o, w'.frozen? ⟨w.heap.size, o, none⟩ = false := by
  have hr := h.out.row.below hb
  exact ⟨hr.cell _ (by omega), hr.cell _ (by omega), hr.cell _ (by omega), hr.cell _ (by omega), hr.cell _ (by omega), hr.cell _ (by omega), hr.cell _ (by omega), hr.frozen⟩

set_option maxHeartbeats 1000000 in
theorem events_some (N : Nat) (a0 : Addr) (l : List (Option (ByteArray × Int))) (cap : Nat) (w : World) (hN : N ≤ w.heap.size) (hl : l.length ≤ 1048576) (hin : EvsIn N w (some a0) l) :
    Calls Tryd.prog 8 #[.slice (some a0) l.length cap] w (REvs l w) := by
  have hmk := run_make47 l.length hl
  have hq := run_eql22
  go_enter Tryd.func8, Tryd.ntmps8
  go_wp2
  clear hmk hq
  go_loopw [4] (fun i wr => ∃ k : Nat, k ≤ l.length ∧ i = .int .i64 k ∧ Mk N w l k wr) (fun i _ => l.length - (intOf i).toNat)
  case atStart => exact ⟨0, Nat.zero_le _, rfl, Mk.start⟩
  case round =>
    obtain ⟨k, hk, rfl, hm⟩ := hrel
    by_cases hlt : k < l.length
    · have hgk : l[k]? = some l[k] := by simp [hlt]
      obtain ⟨b, o, e, he⟩ := hin k l[k] hgk
      injection e with e
      subst e
      obtain ⟨p0, t1, b2, b3, p4, p5, s6, hbN, g0, g1, g2, g3, g4, g5, g6, k0, k4, k5⟩ := he.below (hm.bel.mono hN)
      have hNw : N ≤ wr.heap.size := Nat.le_trans hN hm.bel.size
      have HM : Hid (Mk N w l k wr) := hm
      have HG : Hid (l[k]? = some l[k]) := hgk
      clear hm hgk hin he
      go_wp2_with (go_at_call 14; refine (event_any N _ _ _ _ _ _ _ _ _ hNw k0 k4 k5).mono ?_; rintro e w' ⟨q0, r1, r2, r3, q4, q5, r6, rfl, hb', hc'⟩; obtain ⟨⟨y0, z0⟩, ⟨y1, z1⟩, ⟨y2, z2⟩, ⟨y3, z3⟩, ⟨y4, z4⟩, ⟨y5, z5⟩, ⟨y6, z6⟩, hfr⟩ := Mk.seven HM hlt hb')
      go_roundw
      case rel => exact ⟨k + 1, by omega, by go_num, Mk.next HM.out HG.out hb' hc'⟩
      case measure => simp [intOf]; omega
    · obtain rfl : k = l.length := by omega
      go_wp2
      go_ret
      exact ⟨_, _, rfl, hm.bel, fun j c hj => ⟨w.heap.size, rfl, hm.row.lt, hm.evs j c (List.getElem?_eq_some_iff.1 hj).1 hj⟩⟩

/-- zzEvents, whatever slice it is handed. -/
theorem events_any (N : Nat) (ao : Option Addr) (l : List (Option (ByteArray × Int))) (cap : Nat) (w : World) (hN : N ≤ w.heap.size) (hl : l.length ≤ 1048576) (hnil : ao = none → l = [] ∧ cap = 0) (hin : EvsIn N w ao l) :
    Calls Tryd.prog 8 #[.slice ao l.length cap] w (REvs l w) := by
  match ao with
  | none =>
    obtain ⟨rfl, rfl⟩ := hnil rfl
    exact events_nil w
  | some a0 => exact events_some N a0 l cap w hN hl hin
end Go.Proofs.Qxb6608969aDoor
