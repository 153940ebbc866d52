import Derived.Test.Qxb6609082aDoorW7
import Derived.Deep.QuietTactic
namespace Go.Proofs.Qxb6609082aDoor
open Go Go.RowKit
attribute [local go_sem ↓] Go.wp_at_zero Go.wp_at_succ

/-- The number that eight bytes spell, the least first. -/
def word8 (b : Nat → Int) : Int := b 0 + b 1 * 256 + b 2 * 65536 + b 3 * 16777216 + b 4 * 4294967296 + b 5 * 1099511627776 + b 6 * 281474976710656 + b 7 * 72057594037927936

def R19 (b : Nat → Int) (w : World) (e : Ending) (w' : World) : Prop := e = .returned (.int .u64 (word8 b)) ∧ Below w.heap.size w w'

set_option maxHeartbeats 8000000 in
set_option maxRecDepth 100000 in
theorem le_any (bp : Nat) (b : Nat → Int) (w : World) (hb : ∀ j, 0 ≤ b j ∧ b j < 256) (hp : ∀ j, j < 8 → w.cell? ⟨bp, j, none⟩ = some (.int .u8 (b j))) :
    Calls Tryd.prog 19 #[.agg #[], .slice (some ⟨bp, 0, none⟩) 8 8] w (R19 b w) := by
  have hl : bp ≠ w.heap.size := by have := World.block_lt_of_cell? _ _ (hp 0 (by omega)); simp at this; omega
  have dd : ∀ j, j < 8 → ∀ A, (w.alloc A).cell? ⟨bp, j, none⟩ = some (.int .u8 (b j)) := fun j hj A => (World.cell?_alloc_old _ _ _ hl).trans (hp j hj)
  have p0 := dd 0 (by omega); have p1 := dd 1 (by omega); have p2 := dd 2 (by omega); have p3 := dd 3 (by omega)
  have p4 := dd 4 (by omega); have p5 := dd 5 (by omega); have p6 := dd 6 (by omega); have p7 := dd 7 (by omega)
  have h0 := hb 0; have h1 := hb 1; have h2 := hb 2; have h3 := hb 3; have h4 := hb 4; have h5 := hb 5; have h6 := hb 6; have h7 := hb 7
  clear dd hp hb
  go_enter Tryd.func19, Tryd.ntmps19
  go_wp2
  go_quiet (fail)
  go_wp2
  go_ret
  refine ⟨?_, ((Below.refl _ w).alloc (Nat.le_refl _) _).trans ⟨rfl, rfl, rfl, Nat.le_refl _, fun _ _ => rfl⟩⟩
  simp (disch := omega) only [u64_or8, u64_or16, u64_or24, u64_or32, u64_or40, u64_or48, u64_or56]
  rfl
end Go.Proofs.Qxb6609082aDoor
