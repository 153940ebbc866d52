import Derived.Test.Qxb6613740aDoorRows
import Derived.WalkKit
import Derived.BigQuiet
import Derived.Handy
import Derived.Laws.IdiomCopy
import Derived.WideLaws
import Derived.Lib.EndianBits
import Derived.Lib.SliceRun
import Derived.BigFrame
import Derived.BigRegion
import Derived.Deep.QuietTactic
import Derived.Deep.RegionHeld3
namespace Go.Proofs.Qxb6613740aDoor
open Go Go.RowKit

/-- An IPv4 address whose four bytes spell x; p: what z4 points to. -/
def addr (x : Int) (p : Addr) : Value := .agg #[.int .u64 0, .int .u64 (281470681743360 + x), .pointer (some p)]
/-- The same with a port. -/
def addrP (x pt : Int) (p : Addr) : Value := .agg #[.int .u64 0, .int .u64 (281470681743360 + x), .pointer (some p), .int .u16 pt]

/-- The number that four bytes spell, the greatest first. -/
def num4 (a b c d : Int) : Int := a * 16777216 + b * 65536 + c * 256 + d

/-- It returns v; what was there is as it was. -/
def RV (v : Value) (w : World) (e : Ending) (w' : World) : Prop := e = .returned v ∧ Below w.heap.size w w'

theorem below_two (w : World) (A B : Obj) : Below w.heap.size w ((w.alloc A).alloc B) := ((Below.refl _ w).alloc (Nat.le_refl _) A).alloc (by simp) B

/-- A cell that was there, behind two new blocks. -/
theorem cell_two {w : World} {a : Addr} {v : Value} (h : w.cell? a = some v) : (∀ A, (w.alloc A).cell? a = some v) ∧ ∀ A B, ((w.alloc A).alloc B).cell? a = some v := by
  have hl := World.block_lt_of_cell? _ _ h
  exact ⟨fun A => (World.cell?_alloc_old _ _ _ (by omega)).trans h, fun A B => (World.cell?_alloc_old _ _ _ (by simp; omega)).trans ((World.cell?_alloc_old _ _ _ (by omega)).trans h)⟩

theorem or_num (a b c d : Int) (ha : 0 ≤ a ∧ a < 256) (hb : 0 ≤ b ∧ b < 256) (hc : 0 ≤ c ∧ c < 256) (hd : 0 ≤ d ∧ d < 256) :
    bits BinOp.or IntKind.u64 (bits BinOp.or IntKind.u64 (bits BinOp.or IntKind.u64 (bits BinOp.or IntKind.u64 281470681743360 (a * 16777216)) (b * 65536)) (c * 256)) d = 281470681743360 + num4 a b c d := by
  unfold num4
  rw [bits_join .u64 64 (by decide) wraps_u64 32 281470681743360 (a * 16777216) (by omega) (by omega) (by omega) (by omega) (by omega) (by omega),
    bits_join .u64 64 (by decide) wraps_u64 24 _ (b * 65536) (by omega) (by omega) (by omega) (by omega) (by omega) (by omega),
    bits_join .u64 64 (by decide) wraps_u64 16 _ (c * 256) (by omega) (by omega) (by omega) (by omega) (by omega) (by omega),
    bits_join .u64 64 (by decide) wraps_u64 8 _ d (by omega) (by omega) (by omega) (by omega) (by omega) (by omega)]
  omega

set_option maxHeartbeats 2000000 in
theorem from4 (a b c d : Int) (p : Addr) (w : World) (ha : 0 ≤ a ∧ a < 256) (hb : 0 ≤ b ∧ b < 256) (hc : 0 ≤ c ∧ c < 256) (hd : 0 ≤ d ∧ d < 256) (hz : w.cell? ⟨1, 0, none⟩ = some (.pointer (some p))) :
    Calls Tryd.prog 26 #[.agg #[.int .u8 a, .int .u8 b, .int .u8 c, .int .u8 d]] w (RV (addr (num4 a b c d) p) w) := by
  obtain ⟨hz1, hz2⟩ := cell_two hz
  have hor := or_num a b c d ha hb hc hd
  go_enter Tryd.func26, Tryd.ntmps26
  go_wp2
  go_returns
  exact ⟨rfl, below_two w _ _⟩

theorem apFrom (x pt : Int) (p : Addr) (w : World) : Calls Tryd.prog 25 #[addr x p, .int .u16 pt] w (RV (addrP x pt p) w) := by
  unfold addr
  go_enter Tryd.func25, Tryd.ntmps25
  go_wp2
  go_returns
  exact ⟨rfl, below_two w _ _⟩

theorem apAddr (x pt : Int) (p : Addr) (w : World) : Calls Tryd.prog 32 #[addrP x pt p] w (RV (addr x p) w) := by
  unfold addrP
  go_enter Tryd.func32, Tryd.ntmps32
  go_wp2
  go_returns
  exact ⟨rfl, below_two w _ _⟩

end Go.Proofs.Qxb6613740aDoor
