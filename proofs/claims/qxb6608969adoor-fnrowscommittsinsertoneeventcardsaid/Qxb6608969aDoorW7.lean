import Derived.Test.Qxb6608969aDoorW1
import Derived.BigRegion
import Derived.Deep.RegionHeld3
import Derived.Deep.DrawnRows
namespace Go.Proofs.Qxb6608969aDoor
open Go Go.RowKit
attribute [local go_sem ↓] Go.wp_at_zero Go.wp_at_succ

/-- It returns a pointer; all that was there is as it was. -/
def RP (w : World) (e : Ending) (w' : World) : Prop := ∃ p : Option Addr, e = .returned (.pointer p) ∧ Below w.heap.size w w'

set_option maxHeartbeats 1000000 in
theorem schema_any (N : Nat) (p : Option Addr) (w : World) (h : SchIn N w p) : Calls Tryd.prog 18 #[.pointer p] w (RP w) := by
  rcases h with rfl | ⟨b, o, s0, t1, t2, b3, s4, rfl, _, h0, h1, h2, h3, h4⟩
  · go_enter Tryd.func18, Tryd.ntmps18
    go_wp2
    go_ret
    exact ⟨_, rfl, Below.refl _ _⟩
  · go_enter Tryd.func18, Tryd.ntmps18
    go_wp2
    go_big_region
    go_wp2
    go_ret
    exact ⟨_, rfl, ((Below.refl _ _).alloc (Nat.le_refl _) _).drew⟩

/-- A pointer to a change.Change of the call's own, or nil. -/
def ChgOut (L N : Nat) (w : World) (p : Option Addr) (c : Option (ByteArray × Int)) : Prop :=
  (p = none ∧ c = none) ∨ ∃ (b : Nat) (op : ByteArray) (ts : Int), p = some ⟨b, 0, none⟩ ∧ c = some (op, ts) ∧ (L ≤ b ∧ b < N) ∧ w.cell? ⟨b, 0, none⟩ = some (.string op) ∧ w.cell? ⟨b, 3, none⟩ = some (.int .u64 ts)

/-- zzEvent's answer. -/
def REv (c : Option (ByteArray × Int)) (w : World) (e : Ending) (w' : World) : Prop :=
  ∃ (p0 : Option Addr) (t1 : Int) (b2 b3 : Bool) (p4 p5 : Option Addr) (s6 : ByteArray), e = .returned (.agg #[.pointer p0, .int .u64 t1, .bool b2, .bool b3, .pointer p4, .pointer p5, .string s6]) ∧ Below w.heap.size w w' ∧ ChgOut w.heap.size w'.heap.size w' p0 c

theorem bcell {W w1 : World} (hb : Below W.heap.size W w1) : (∀ b o, b < W.heap.size → w1.cell? ⟨b, o, none⟩ = W.cell? ⟨b, o, none⟩) ∧ (∀ b o, b < W.heap.size → w1.frozen? ⟨b, o, none⟩ = W.frozen? ⟨b, o, none⟩) :=
  ⟨fun b o h => hb.cell (p := ⟨b, o, none⟩) h, fun b o h => hb.frozen (p := ⟨b, o, none⟩) h⟩

theorem results_cell1 {fn : Func} {p : Tmp} {ty : TypeId} (h : fn.results = #[.cell p ty]) (tmps : Array Value) (P : Program) (w : World) (ad : Addr) (v : Value) (ht : tmps.getD p undef = .pointer (some ad)) (hv : (loadVar ty ad).run P w = .ok v w) :
    (results fn tmps).run P w = .ok v w := by
  simp only [results, h]
  rw [Array.getD_eq_getD_getElem?] at ht
  simp [asAddr, ht, hv]

/-- The seven cells of an answer, stored. -/
def stored (w2 : World) (B : Nat) (v0 v1 v2 v3 v4 v5 v6 : Value) : World :=
  ((((((w2.setCell ⟨B, 0, none⟩ v0).setCell ⟨B, 1, none⟩ v1).setCell ⟨B, 2, none⟩ v2).setCell ⟨B, 3, none⟩ v3).setCell ⟨B, 4, none⟩ v4).setCell ⟨B, 5, none⟩ v5).setCell ⟨B, 6, none⟩ v6

theorem load_stored (w2 : World) (B : Nat) (p0 : Option Addr) (t1 : Int) (b2 b3 : Bool) (p4 p5 : Option Addr) (s6 : ByteArray) {u0 u1 u2 u3 u4 u5 u6 : Value}
    (y0 : w2.cell? ⟨B, 0, none⟩ = some u0) (y1 : w2.cell? ⟨B, 1, none⟩ = some u1) (y2 : w2.cell? ⟨B, 2, none⟩ = some u2) (y3 : w2.cell? ⟨B, 3, none⟩ = some u3) (y4 : w2.cell? ⟨B, 4, none⟩ = some u4) (y5 : w2.cell? ⟨B, 5, none⟩ = some u5) (y6 : w2.cell? ⟨B, 6, none⟩ = some u6) :
    (loadVar 47 ⟨B, 0, none⟩).run Tryd.prog (stored w2 B (.pointer p0) (.int .u64 t1) (.bool b2) (.bool b3) (.pointer p4) (.pointer p5) (.string s6)) =
      .ok (.agg #[.pointer p0, .int .u64 t1, .bool b2, .bool b3, .pointer p4, .pointer p5, .string s6]) (stored w2 B (.pointer p0) (.int .u64 t1) (.bool b2) (.bool b3) (.pointer p4) (.pointer p5) (.string s6)) := by
  unfold stored
  go_simp

theorem below_stored {N : Nat} {w w2 : World} (h : Below N w w2) {B : Nat} (hB : N ≤ B) (v0 v1 v2 v3 v4 v5 v6 : Value) : Below N w (stored w2 B v0 v1 v2 v3 v4 v5 v6) :=
  ((((((h.setCell (p := ⟨B, 0, none⟩) hB v0).setCell (p := ⟨B, 1, none⟩) hB v1).setCell (p := ⟨B, 2, none⟩) hB v2).setCell (p := ⟨B, 3, none⟩) hB v3).setCell (p := ⟨B, 4, none⟩) hB v4).setCell (p := ⟨B, 5, none⟩) hB v5).setCell (p := ⟨B, 6, none⟩) hB v6

end Go.Proofs.Qxb6608969aDoor
