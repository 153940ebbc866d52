import Derived.Test.Qxb6613740aDoorRows
import Derived.Test.Qxb6613740aDoorTie
import Derived.Test.Qxb6613740aDoorCards
import Derived.ProofKit
import Derived.Deep.Fields
import Derived.Deep.Slices
import Derived.LaidMore
import Derived.OpenShut
import Derived.Stop.Joined
import Derived.Stop.LaidErr
import Derived.Laws.IdiomArrays
namespace Go.Proofs.Qxb6613740aDoor
open Go Go.ChangeShapes Go.WideShapes Go.ChangeAt Go.WideMaps Go.WideElems Go.RowKit Go.Deep

set_option maxRecDepth 100000

theorem own : ownKnob Tryd.prog.godebug = none := by kernel_rfl
theorem laidOut : laidOutB Tryd.prog = true := by kernel_rfl
theorem cells5 : Tryd.prog.cellsOf 5 = 1 := by kernel_rfl
theorem cells39 : Tryd.prog.cellsOf 39 = 4 := by kernel_rfl
theorem cells29 : Tryd.prog.cellsOf 29 = 1 := by kernel_rfl
theorem cells27 : Tryd.prog.cellsOf 27 = 1 := by kernel_rfl
/-- The listed names, off the row. -/
def nm (k : Nat) : String := ((Rows.fnAddrKeyIsTheSixWireBytesThatReadAddrReadRow.laid.map (·.1))[k]?).getD ""
theorem g1 : Tryd.prog.globalNamed (nm 0) = some 1 := by kernel_rfl
theorem g1t : (Tryd.prog.globals[1]?).map (·.type) = some 29 := by kernel_rfl

section
variable {H : Type} {enc : TypeId × Value → H} {w : World} {base : Nat} {spare : Nat → Bool} {held : Bool} {fuel : Nat} {x : DataW H × List MemPlace} {v : Value}

/-- An array of four bytes that came in. -/
theorem arr_of (hv : Value.okWide Tryd.prog w .any base 39 v) (h : DataW.trod enc Tryd.prog w 0 spare held fuel 39 v.cells.toList = some x) :
    ∃ a : Nat → Int, v = .agg #[.int .u8 (a 0), .int .u8 (a 1), .int .u8 (a 2), .int .u8 (a 3)] ∧ ∀ j, 0 ≤ a j ∧ a j < 256 := by
  simp only [Value.okWide, Tryd.underlying39] at hv
  obtain ⟨⟨l⟩, rfl, hl, _⟩ := hv
  rw [cells39] at hl
  match l, hl with
  | [c0, c1, c2, c3], _ =>
    obtain ⟨y0, y1, y2, y3, n, _, h0, h1, h2, h3⟩ := trod_array4 Tryd.underlying39 cells5 (by simpa [Value.cells] using h)
    obtain ⟨a0, e0, _, f0⟩ := DataW.trod_int Tryd.underlying5 h0
    obtain ⟨a1, e1, _, f1⟩ := DataW.trod_int Tryd.underlying5 h1
    obtain ⟨a2, e2, _, f2⟩ := DataW.trod_int Tryd.underlying5 h2
    obtain ⟨a3, e3, _, f3⟩ := DataW.trod_int Tryd.underlying5 h3
    have b0 := bounds_u8 f0; have b1 := bounds_u8 f1; have b2 := bounds_u8 f2; have b3 := bounds_u8 f3
    injection e0 with e0; injection e1 with e1; injection e2 with e2; injection e3 with e3
    subst e0 e1 e2 e3
    refine ⟨fun j => if j = 0 then a0 else if j = 1 then a1 else if j = 2 then a2 else a3, by simp, fun j => ?_⟩
    show 0 ≤ (if j = 0 then a0 else if j = 1 then a1 else if j = 2 then a2 else a3) ∧ (if j = 0 then a0 else if j = 1 then a1 else if j = 2 then a2 else a3) < 256
    split
    · omega
    · split
      · omega
      · split <;> omega
end

/-- z4 points somewhere. -/
theorem z4_of {r : List (String × DataW Unit)} {W : World} (h : laidMet Tryd.prog ((nm 0, Rows.laid_net_netip_z4) :: r) W) : ∃ p, W.cell? ⟨1, 0, none⟩ = some (.pointer (some p)) := by
  obtain ⟨ps, ⟨g0, t0, cs0, f0, p0, q0, hg0, ht0, hv0, hd0, _, _⟩, _, _⟩ := h
  obtain rfl := Option.some.inj (g1.symm.trans hg0)
  obtain rfl := Option.some.inj (g1t.symm.trans ht0)
  obtain ⟨y0, n, e, hl, hy⟩ := trod_struct1 Tryd.underlying29 hd0
  obtain ⟨l⟩ := cs0
  rw [cells29] at hl
  match l, hl with
  | [c], _ =>
    have hy' : DataW.trod (fun _ => ()) Tryd.prog W 0 (fun _ => true) false n 27 [c] = some y0 := by simpa [cells27] using hy
    rcases DataW.trod_pointer Tryd.underlying27 hy' with ⟨_, e2⟩ | ⟨a, cs', y, m, _, e1, _⟩
    · subst e2
      injection e with e _
      injection e with e
      simp at e
    · injection e1 with e1
      subst e1
      exact ⟨a, by simpa using World.var?_cell g1 hv0 0⟩
end Go.Proofs.Qxb6613740aDoor
