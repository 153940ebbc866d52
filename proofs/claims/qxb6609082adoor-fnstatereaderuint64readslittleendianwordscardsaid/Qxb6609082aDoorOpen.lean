import Derived.Test.Qxb6609082aDoorRows
import Derived.Test.Qxb6609082aDoorTie
import Derived.Test.Qxb6609082aDoorCards
import Derived.Test.Qxb6609082aDoorW13
import Derived.ProofKit
import Derived.Deep.Fields
import Derived.Deep.Slices
import Derived.LaidMore
import Derived.OpenShut
import Derived.Stop.Joined
import Derived.Stop.LaidErr
namespace Go.Proofs.Qxb6609082aDoor
open Go Go.ChangeShapes Go.WideShapes Go.ChangeAt Go.WideMaps Go.WideElems Go.RowKit Go.Deep

section
variable {H : Type} {enc : TypeId × Value → H} {w : World} {base : Nat} {spare : Nat → Bool} {held : Bool} {fuel : Nat} {x : DataW H × List MemPlace} {v : Value}

theorem cells5 : Tryd.prog.cellsOf 5 = 1 := by kernel_rfl

/-- A slice of bytes that came in. -/
theorem bytes_of (h : DataW.trod enc Tryd.prog w 0 spare held fuel 22 [v] = some x) :
    ∃ (a : Option Addr) (d : Nat → Int) (n cap : Nat), v = .slice a n cap ∧ n ≤ maxLen ∧ (a = none → cap = 0) ∧ In22 w a d n ∧ ∀ j, 0 ≤ d j ∧ d j < 256 := by
  rcases open_slice Tryd.underlying22 h with ⟨e, _⟩ | ⟨a, len, cap, m, n, D, Pl, e, _, hlc, hcm, hm, _, hel⟩
  · simp at e
    exact ⟨none, fun _ => 0, 0, 0, e, Nat.zero_le _, fun _ => rfl, .inl ⟨rfl, rfl⟩, fun _ => by simp⟩
  · simp at e
    rw [cells5] at hel
    have hmlen : len ≤ m := by rw [hm]; split <;> omega
    have hspot : 0 < len → a.spot = none := fun h0 => by
      obtain ⟨cs', hcs, htr⟩ := hel 0 (by omega)
      obtain ⟨c, rfl, _, hwf⟩ := DataW.trod_int Tryd.underlying5 htr
      obtain ⟨_, _, hcell⟩ := World.cells?_some hcs
      have h0 := World.cell?_spot (hcell 0 (by omega))
      simpa [Addr.add] using h0
    have hex : ∀ i, i < len → ∃ c : Int, (a.spot = none ∧ a.block < w.heap.size ∧ w.cell? ⟨a.block, a.off + i, none⟩ = some (.int .u8 c)) ∧ 0 ≤ c ∧ c < 256 := by
      intro i hi
      obtain ⟨cs', hcs, htr⟩ := hel i (by omega)
      obtain ⟨c, rfl, _, hwf⟩ := DataW.trod_int Tryd.underlying5 htr
      have hbd := bounds_u8 hwf
      obtain ⟨_, _, hcell⟩ := World.cells?_some hcs
      have h0 := hcell 0 (by omega)
      have hsp := hspot (by omega)
      obtain ⟨b, o, sp⟩ := a
      simp only at hsp
      subst hsp
      rw [add_plain, add_plain] at h0
      simp only [Nat.mul_one, Nat.add_zero, List.getElem?_cons_zero] at h0
      exact ⟨c, ⟨rfl, World.block_lt_of_cell? w ⟨b, o + i, none⟩ h0, h0⟩, hbd.1, by omega⟩
    obtain ⟨C, hC⟩ := choose_lt hex
    refine ⟨some a, fun j => if j < len then C j else 0, len, cap, by simpa using e, by omega, fun h => by simp at h, .inr ⟨a, rfl, fun j hj => ?_⟩, fun j => ?_⟩
    · simp only [if_pos hj]
      exact (hC j hj).1
    · by_cases hj : j < len
      · simp only [if_pos hj]; exact (hC j hj).2
      · simp only [if_neg hj]; omega
end

theorem own : ownKnob Tryd.prog.godebug = none := by kernel_rfl
theorem laidOut : laidOutB Tryd.prog = true := by kernel_rfl
theorem cells92 : Tryd.prog.cellsOf 92 = 1 := by kernel_rfl
theorem cells9 : Tryd.prog.cellsOf 9 = 1 := by kernel_rfl
theorem g1 : Tryd.prog.globalNamed "io.ErrShortBuffer" = some 1 := by kernel_rfl
theorem g2 : Tryd.prog.globalNamed "io.EOF" = some 2 := by kernel_rfl
theorem g3 : Tryd.prog.globalNamed "io.ErrUnexpectedEOF" = some 3 := by kernel_rfl
theorem g1t : (Tryd.prog.globals[1]?).map (·.type) = some 46 := by kernel_rfl
theorem g2t : (Tryd.prog.globals[2]?).map (·.type) = some 46 := by kernel_rfl
theorem g3t : (Tryd.prog.globals[3]?).map (·.type) = some 46 := by kernel_rfl
/-- The listed errors' type's name, off the row's datum. -/
def nmE : String := match (Rows.laid_io_EOF : DataW Unit) with
  | .iface t _ => t
  | _ => ""
theorem row69 (u : TypeId) (h : Tryd.prog.typeName? 3 u = some nmE) : u = 69 :=
  typeName_ptr_named (nm := "errors.errorString") (by kernel_rfl) (by kernel_rfl) (by decide) u (h.trans (congrArg some (by decide)))

/-- What the rows list. -/
def laid1 : List (String × DataW Unit) := Rows.fnStateReaderUint64TruncatedPrefixAgreesRow.laid

theorem door_met (os : Os) (args : Array Value) : laidMetH Tryd.prog laid1 ((World.doorLaid Tryd.prog 400 os).forCall (fun _ _ => 0) ⟨#[], args, []⟩).memory :=
  laidMetH_of_parts3 (fuel := 8) (laidMet_of_run' 8 (by kernel_rfl) (by kernel_rfl)) (by kernel_rfl) (by kernel_rfl)

/-- The two listed variables that the road reads. -/
theorem env_of_laid {W : World} (h : laidMetH Tryd.prog laid1 W) : ∃ ae u3 v3, Env ae u3 v3 W := by
  rw [MakeChecks.laidMetH_plain _ _ _ (by kernel_rfl)] at h
  have hL : laidMet Tryd.prog [("io.ErrShortBuffer", Rows.laid_io_ErrShortBuffer), ("io.EOF", Rows.laid_io_EOF), ("io.ErrUnexpectedEOF", Rows.laid_io_ErrUnexpectedEOF)] W := h
  obtain ⟨a2, s2, hv2, _, _, _⟩ := laid_sentinel hL.tail g2 g2t Tryd.underlying46 row69 Tryd.underlying69 Tryd.underlying92 rfl rfl Tryd.underlying9 cells92 cells9
  obtain ⟨a3, s3, hv3, _, _, _⟩ := laid_sentinel hL.tail.tail g3 g3t Tryd.underlying46 row69 Tryd.underlying69 Tryd.underlying92 rfl rfl Tryd.underlying9 cells92 cells9
  have h2 : W.cell? ⟨2, 0, none⟩ = some (.iface 69 (.pointer (some a2))) := by simpa using World.var?_cell g2 hv2 0
  have h3 : W.cell? ⟨3, 0, none⟩ = some (.iface 69 (.pointer (some a3))) := by simpa using World.var?_cell g3 hv3 0
  exact ⟨a2, 69, _, h2, h3, World.block_lt_of_cell? _ _ h3⟩
end Go.Proofs.Qxb6609082aDoor
