import Derived.Test.Qxb6608969aDoorW7
import Derived.Deep.CutRange
namespace Go.Proofs.Qxb6608969aDoor
open Go Go.RowKit
attribute [local go_sem ↓] Go.wp_at_zero Go.wp_at_succ

/-- The answer's own cells, and that they may be written. -/
def Zero7 (B : Nat) (w2 : World) : Prop :=
  (∃ u, w2.cell? ⟨B, 0, none⟩ = some u) ∧ (∃ u, w2.cell? ⟨B, 1, none⟩ = some u) ∧ (∃ u, w2.cell? ⟨B, 2, none⟩ = some u) ∧ (∃ u, w2.cell? ⟨B, 3, none⟩ = some u) ∧ (∃ u, w2.cell? ⟨B, 4, none⟩ = some u) ∧ (∃ u, w2.cell? ⟨B, 5, none⟩ = some u) ∧ (∃ u, w2.cell? ⟨B, 6, none⟩ = some u) ∧ ∀ j, w2.frozen? ⟨B, j, none⟩ = false

/-- The box's six later cells. -/
abbrev Six (B : Nat) (w : World) (t1 : Int) (b2 b3 : Bool) (p4 p5 : Option Addr) (s6 : ByteArray) : Prop :=
  w.cell? ⟨B, 1, none⟩ = some (.int .u64 t1) ∧ w.cell? ⟨B, 2, none⟩ = some (.bool b2) ∧ w.cell? ⟨B, 3, none⟩ = some (.bool b3) ∧ w.cell? ⟨B, 4, none⟩ = some (.pointer p4) ∧ w.cell? ⟨B, 5, none⟩ = some (.pointer p5) ∧ w.cell? ⟨B, 6, none⟩ = some (.string s6)

theorem six2 {B M : Nat} {w1 w2 : World} {t1 : Int} {b2 b3 : Bool} {p4 p5 : Option Addr} {s6 : ByteArray} (h : Six B w1 t1 b2 b3 p4 p5 s6) (hz : B < M) (hb : Below M w1 w2) : Six B w2 t1 b2 b3 p4 p5 s6 := by
  obtain ⟨h1, h2, h3, h4, h5, h6⟩ := h
  exact ⟨(hb.cell hz).trans h1, (hb.cell hz).trans h2, (hb.cell hz).trans h3, (hb.cell hz).trans h4, (hb.cell hz).trans h5, (hb.cell hz).trans h6⟩

theorem six_step {B : Nat} {wc w1 : World} {t1 : Int} {b2 b3 : Bool} {p4 p5 : Option Addr} {s6 : ByteArray} (h : Six B wc t1 b2 b3 p4 p5 s6) (hz : B < wc.heap.size) (hb : Below wc.drew.heap.size wc.drew w1) : Six B w1 t1 b2 b3 p4 p5 s6 :=
  six2 h hz (Below.trans (Below.drew (Below.refl wc.heap.size wc)) hb)

theorem zero2 {B M : Nat} {w1 w2 : World} (h : Zero7 B w1) (hz : B < M) (hb : Below M w1 w2) : Zero7 B w2 := by
  obtain ⟨⟨_, h0⟩, ⟨_, h1⟩, ⟨_, h2⟩, ⟨_, h3⟩, ⟨_, h4⟩, ⟨_, h5⟩, ⟨_, h6⟩, h7⟩ := h
  exact ⟨⟨_, (hb.cell hz).trans h0⟩, ⟨_, (hb.cell hz).trans h1⟩, ⟨_, (hb.cell hz).trans h2⟩, ⟨_, (hb.cell hz).trans h3⟩, ⟨_, (hb.cell hz).trans h4⟩, ⟨_, (hb.cell hz).trans h5⟩, ⟨_, (hb.cell hz).trans h6⟩, fun j => (hb.frozen (p := ⟨B, j, none⟩) hz).trans (h7 j)⟩

theorem zero_step {B : Nat} {wc w1 w2 : World} (h : Zero7 B wc) (hz : B < wc.heap.size) (hb : Below wc.drew.heap.size wc.drew w1) (hz1 : wc.heap.size ≤ w1.heap.size) (hb2 : Below w1.heap.size w1 w2) : Zero7 B w2 :=
  zero2 (zero2 h hz (Below.trans (Below.drew (Below.refl wc.heap.size wc)) hb)) (by omega) hb2

theorem sch_step {N : Nat} {wc : World} {p : Option Addr} (h : SchIn N wc p) : SchIn N wc.drew p := h.below (Below.drew (Below.refl _ _))
theorem sch_step2 {N : Nat} {wc w1 : World} {p : Option Addr} (h : SchIn N wc p) (hN : N ≤ wc.heap.size) (hb : Below wc.drew.heap.size wc.drew w1) : SchIn N w1 p := (sch_step h).below (hb.mono hN)

/-- What is known of the world behind the third region. -/
structure Mid (N : Nat) (w W : World) (p : Option Addr) (t1 : Int) (b2 b3 : Bool) (p4 p5 : Option Addr) (s6 : ByteArray) (c : Option (ByteArray × Int)) : Prop where
  bel : Below w.heap.size w W
  size : w.heap.size + 1 < W.heap.size
  six : Six w.heap.size W t1 b2 b3 p4 p5 s6
  zero : Zero7 (w.heap.size + 1) W
  k4 : SchIn N W p4
  k5 : SchIn N W p5
  chg : ChgOut w.heap.size W.heap.size W p c
  far : ∀ b, p = some ⟨b, 0, none⟩ → b ≠ w.heap.size + 1

theorem mid_nil {N : Nat} {w : World} {t1 : Int} {b2 b3 : Bool} {p4 p5 : Option Addr} {s6 : ByteArray} (hN : N ≤ w.heap.size) (k4 : SchIn N w p4) (k5 : SchIn N w p5) :
    Mid N w ((w.alloc (.cells #[.pointer none, .int .u64 t1, .bool b2, .bool b3, .pointer p4, .pointer p5, .string s6] 29)).alloc (.cells #[.pointer none, .int .u64 0, .bool false, .bool false, .pointer none, .pointer none, .string ⟨#[]⟩] 47)) none t1 b2 b3 p4 p5 s6 none := by
  have hbel : ∀ M, M ≤ w.heap.size → Below M w ((w.alloc (.cells #[.pointer none, .int .u64 t1, .bool b2, .bool b3, .pointer p4, .pointer p5, .string s6] 29)).alloc (.cells #[.pointer none, .int .u64 0, .bool false, .bool false, .pointer none, .pointer none, .string ⟨#[]⟩] 47)) := fun M hM => ((Below.refl _ _).alloc hM _).alloc (by simp; omega) _
  refine ⟨hbel _ (Nat.le_refl _), by simp, ⟨?_, ?_, ?_, ?_, ?_, ?_⟩, ⟨⟨.pointer none, ?_⟩, ⟨.int .u64 0, ?_⟩, ⟨.bool false, ?_⟩, ⟨.bool false, ?_⟩, ⟨.pointer none, ?_⟩, ⟨.pointer none, ?_⟩, ⟨.string ⟨#[]⟩, ?_⟩, ?_⟩, k4.below (hbel N hN), k5.below (hbel N hN), .inl ⟨rfl, rfl⟩, fun b' h => by simp at h⟩
  all_goals go_simp

theorem mid_some {N : Nat} {w : World} {b o : Nat} {s0 s1 s2 : ByteArray} {t3 : Int} {b4 : Bool} {s5 : ByteArray} {t1 : Int} {b2 b3 : Bool} {p4 p5 : Option Addr} {s6 : ByteArray} (hN : N ≤ w.heap.size) (k4 : SchIn N w p4) (k5 : SchIn N w p5) :
    Mid N w (((w.alloc (.cells #[.pointer (some ⟨b, o, none⟩), .int .u64 t1, .bool b2, .bool b3, .pointer p4, .pointer p5, .string s6] 29)).alloc (.cells #[.pointer none, .int .u64 0, .bool false, .bool false, .pointer none, .pointer none, .string ⟨#[]⟩] 47)).alloc
      (.cells #[.string s0, .string s1, .string s2, .int .u64 t3, .bool b4, .slice none 0 0, .slice none 0 0, .string s5] 55)).drew (some ⟨w.heap.size + 1 + 1, 0, none⟩) t1 b2 b3 p4 p5 s6 (some (s0, t3)) := by
  have hbel : ∀ M, M ≤ w.heap.size → Below M w (((w.alloc (.cells #[.pointer (some ⟨b, o, none⟩), .int .u64 t1, .bool b2, .bool b3, .pointer p4, .pointer p5, .string s6] 29)).alloc (.cells #[.pointer none, .int .u64 0, .bool false, .bool false, .pointer none, .pointer none, .string ⟨#[]⟩] 47)).alloc
      (.cells #[.string s0, .string s1, .string s2, .int .u64 t3, .bool b4, .slice none 0 0, .slice none 0 0, .string s5] 55)).drew := fun M hM => ((((Below.refl _ _).alloc hM _).alloc (by simp; omega) _).alloc (by simp; omega) _).drew
  refine ⟨hbel _ (Nat.le_refl _), by simp, ⟨?_, ?_, ?_, ?_, ?_, ?_⟩, ⟨⟨.pointer none, ?_⟩, ⟨.int .u64 0, ?_⟩, ⟨.bool false, ?_⟩, ⟨.bool false, ?_⟩, ⟨.pointer none, ?_⟩, ⟨.pointer none, ?_⟩, ⟨.string ⟨#[]⟩, ?_⟩, ?_⟩, k4.below (hbel N hN), k5.below (hbel N hN), .inr ⟨w.heap.size + 1 + 1, s0, t3, rfl, rfl, ⟨by omega, by simp⟩, ?_, ?_⟩, fun b' h => by simp at h; omega⟩
  all_goals go_simp

theorem stored_size (w2 : World) (B : Nat) (v0 v1 v2 v3 v4 v5 v6 : Value) : (stored w2 B v0 v1 v2 v3 v4 v5 v6).heap.size = w2.heap.size := by
  simp [stored, World.setCell]

theorem stored_far (w2 : World) (B b j : Nat) (h : b ≠ B) (v0 v1 v2 v3 v4 v5 v6 : Value) : (stored w2 B v0 v1 v2 v3 v4 v5 v6).cell? ⟨b, j, none⟩ = w2.cell? ⟨b, j, none⟩ := by
  unfold stored
  simp only [World.cell?]
  repeat rw [Below.heap_setCell _ _ _ _ (by simpa using h)]

theorem chg_end {L B : Nat} {W w2 : World} {p : Option Addr} {c : Option (ByteArray × Int)} (h : ChgOut L W.heap.size W p c) (hfar : ∀ b, p = some ⟨b, 0, none⟩ → b ≠ B) (hb : Below W.heap.size W w2) (v0 v1 v2 v3 v4 v5 v6 : Value) :
    ChgOut L (stored w2 B v0 v1 v2 v3 v4 v5 v6).heap.size (stored w2 B v0 v1 v2 v3 v4 v5 v6) p c := by
  rcases h with h | ⟨b, op, ts, e1, e2, ⟨hL, hlt⟩, h0, h3⟩
  · exact .inl h
  · have hne := hfar b e1
    have hz := hb.size
    refine .inr ⟨b, op, ts, e1, e2, ⟨hL, by rw [stored_size]; omega⟩, ?_, ?_⟩
    · rw [stored_far _ _ _ _ hne, hb.cell hlt]; exact h0
    · rw [stored_far _ _ _ _ hne, hb.cell hlt]; exact h3

set_option maxHeartbeats 1000000 in
/-- zzEvent, whatever event it is handed. -/
theorem event_any (N : Nat) (p0 : Option Addr) (t1 : Int) (b2 b3 : Bool) (p4 p5 : Option Addr) (s6 : ByteArray) (c : Option (ByteArray × Int)) (w : World) (hN : N ≤ w.heap.size) (k0 : ChgIn N w p0 c) (k4 : SchIn N w p4) (k5 : SchIn N w p5) :
    Calls Tryd.prog 14 #[.agg #[.pointer p0, .int .u64 t1, .bool b2, .bool b3, .pointer p4, .pointer p5, .string s6]] w (REv c w) := by
  go_enter Tryd.func14, Tryd.ntmps14
  go_upto_if 6 with fail
  go_cut [3] from 4 to 38 (fun s3 wx => ∃ p, s3 = .pointer p ∧ Mid N w wx p t1 b2 b3 p4 p5 s6 c)
  case first =>
    rcases k0 with ⟨rfl, rfl⟩ | ⟨b, o, s0, s1, s2, t3, b4, s5, rfl, rfl, hb, j0, j1, j2, j3, j4, j5⟩
    · go_wp2
      go_meet
      case rel => exact ⟨none, rfl, mid_nil hN k4 k5⟩
    · have hne : b ≠ w.heap.size := by omega
      have hne1 : b ≠ w.heap.size + 1 := by omega
      have i0 : ∀ A B : Obj, ((w.alloc A).alloc B).cell? ⟨b, o, none⟩ = some (.string s0) := fun A B => by rw [World.cell?_alloc_old _ _ _ (by simpa using hne1), World.cell?_alloc_old _ _ _ hne]; exact j0
      have i1 : ∀ A B : Obj, ((w.alloc A).alloc B).cell? ⟨b, o + 1, none⟩ = some (.string s1) := fun A B => by rw [World.cell?_alloc_old _ _ _ (by simpa using hne1), World.cell?_alloc_old _ _ _ hne]; exact j1
      have i2 : ∀ A B : Obj, ((w.alloc A).alloc B).cell? ⟨b, o + 2, none⟩ = some (.string s2) := fun A B => by rw [World.cell?_alloc_old _ _ _ (by simpa using hne1), World.cell?_alloc_old _ _ _ hne]; exact j2
      have i3 : ∀ A B : Obj, ((w.alloc A).alloc B).cell? ⟨b, o + 3, none⟩ = some (.int .u64 t3) := fun A B => by rw [World.cell?_alloc_old _ _ _ (by simpa using hne1), World.cell?_alloc_old _ _ _ hne]; exact j3
      have i4 : ∀ A B : Obj, ((w.alloc A).alloc B).cell? ⟨b, o + 4, none⟩ = some (.bool b4) := fun A B => by rw [World.cell?_alloc_old _ _ _ (by simpa using hne1), World.cell?_alloc_old _ _ _ hne]; exact j4
      have i5 : ∀ A B : Obj, ((w.alloc A).alloc B).cell? ⟨b, o + 5, none⟩ = some (.string s5) := fun A B => by rw [World.cell?_alloc_old _ _ _ (by simpa using hne1), World.cell?_alloc_old _ _ _ hne]; exact j5
      clear j0 j1 j2 j3 j4 j5
      go_wp2
      go_region_held3 (fun w' => w'.cell? ⟨w.heap.size, 0, none⟩ = some (.pointer (some ⟨b, o, none⟩)) ∧ w'.cell? ⟨b, o, none⟩ = some (.string s0) ∧ w'.cell? ⟨b, o + 1, none⟩ = some (.string s1) ∧ w'.cell? ⟨b, o + 2, none⟩ = some (.string s2) ∧
          w'.cell? ⟨b, o + 3, none⟩ = some (.int .u64 t3) ∧ w'.cell? ⟨b, o + 4, none⟩ = some (.bool b4) ∧ w'.cell? ⟨b, o + 5, none⟩ = some (.string s5)) (go_keep) (fail)
      clear i0 i1 i2 i3 i4 i5
      go_wp2
      go_meet
      case rel => exact ⟨_, rfl, mid_some hN k4 k5⟩
  case rest =>
    obtain ⟨p, rfl, hbel, hsz, hsix, hzero, k4, k5, hchg, hfar⟩ := hcut
    have hNc : N ≤ wc.heap.size := by omega
    have hsz0 : w.heap.size < wc.heap.size := by omega
    obtain ⟨x1, x2, x3, x4, x5, x6⟩ := id hsix
    go_wp2
    go_region_held3 (fun w' => w'.cell? ⟨w.heap.size, 1, none⟩ = some (.int .u64 t1) ∧ w'.cell? ⟨w.heap.size, 2, none⟩ = some (.bool b2) ∧ w'.cell? ⟨w.heap.size, 3, none⟩ = some (.bool b3) ∧ w'.cell? ⟨w.heap.size, 4, none⟩ = some (.pointer p4) ∧
        w'.cell? ⟨w.heap.size, 5, none⟩ = some (.pointer p5) ∧ w'.cell? ⟨w.heap.size, 6, none⟩ = some (.string s6)) (first | with_reducible exact hx2 | with_reducible exact hx1 | go_keep)
      (first | (go_at_call_of 18 p4; refine (schema_any N _ _ (sch_step k4)).mono ?_; rintro e w1 ⟨q4, rfl, hb1⟩; have hz1 : wc.heap.size ≤ w1.heap.size := hb1.size; have hx1 := six_step hsix hsz0 hb1)
             | (go_at_call_of 18 p5; refine (schema_any N _ _ (sch_step2 k5 hNc hb1)).mono ?_; rintro e w2 ⟨q5, rfl, hb2⟩; have hx2 := six2 hx1 (Nat.lt_of_lt_of_le hsz0 hz1) hb2;
                obtain ⟨⟨z0, y0⟩, ⟨z1, y1⟩, ⟨z2, y2⟩, ⟨z3, y3⟩, ⟨z4, y4⟩, ⟨z5, y5⟩, ⟨z6, y6⟩, y7⟩ := zero_step hzero hsz hb1 hz1 hb2))
    go_wp2
    have hbd : Below wc.heap.size wc w2 := (Below.trans (Below.drew (Below.refl wc.heap.size wc)) hb1).trans (hb2.mono hz1)
    refine bodyPost_ret (v := .agg #[.pointer p, .int .u64 t1, .bool b2, .bool b3, .pointer q4, .pointer q5, .string s6]) (results_cell1 Tryd.results14 _ _ _ ⟨w.heap.size + 1, 0, none⟩ _ rfl (load_stored w2 (w.heap.size + 1) p t1 b2 b3 q4 q5 s6 y0 y1 y2 y3 y4 y5 y6)) rfl ?_
    exact ⟨p, t1, b2, b3, q4, q5, s6, rfl, below_stored (hbel.trans (hbd.mono (Nat.le_of_lt hsz0))) (by omega) _ _ _ _ _ _ _, chg_end hchg hfar hbd _ _ _ _ _ _ _⟩
end Go.Proofs.Qxb6608969aDoor
