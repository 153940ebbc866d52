import Derived.Test.Qxb6613740aDoorW9
import Derived.OwnWalk
namespace Go.Proofs.Qxb6613740aDoor
open Go Go.RowKit

/-- n zero bytes. -/
def madeB (n : Nat) : Obj := .cells (madeCells #[.int .u8 0] n) 5

theorem info5 : (Tryd.prog.info? 5).map (fun i => (i.zero, i.size, i.bytes)) = some (some (.int .u8 0), 1, 1) := by kernel_rfl

theorem run_make22 (n : Nat) (h : n ≤ 1048576) (w : World) : (Instr.makeSlice 22 (.int .i64 (n : Int)) (.int .i64 (n : Int))).run Tryd.prog w = .ok (.slice (some ⟨w.heap.size, 0, none⟩) n n) (w.alloc (madeB n)) := by
  obtain ⟨i, hi, hz0, hz1, hz2⟩ := info_parts info5
  have hr := run_make (P := Tryd.prog) w 22 5 i _ Tryd.underlying22 hi hz0 .i64 .i64 n n (by omega) (Int.le_refl _) (by rw [hz2]; omega) (by omega)
  rw [hz1] at hr
  simpa [madeB, Value.cells] using hr

theorem madeB_cell (w : World) (n o : Nat) (h : o < n) : (w.alloc (madeB n)).cell? ⟨w.heap.size, o, none⟩ = some (.int .u8 0) := by
  have hs := size_madeCells #[.int .u8 0] n
  have hg : (madeCells #[.int .u8 0] n)[o]? = some (.int .u8 0) := by
    have := toList_madeCells_one (.int .u8 0) n
    rw [← Array.getElem?_toList, this]
    simp [h]
  unfold madeB
  generalize madeCells #[.int .u8 0] n = cs at hs hg ⊢
  have hlt : o < cs.size := by omega
  have hge : cs[o] = .int .u8 0 := by simpa [hlt] using hg
  go_simp
theorem madeB_frozen (w : World) (n o : Nat) : (w.alloc (madeB n)).frozen? ⟨w.heap.size, o, none⟩ = false := by
  unfold madeB
  go_simp

/-- A slice of n bytes that came in, not nil. -/
def In22 (w : World) (x : Addr) (d : Nat → Int) (n : Nat) : Prop :=
  ∀ j, j < n → x.spot = none ∧ x.block < w.heap.size ∧ w.cell? ⟨x.block, x.off + j, none⟩ = some (.int .u8 (d j))

theorem size5 : (Tryd.prog.info? 5).map (·.size) = some 1 := by kernel_rfl

/-- The copy: her world. -/
def copied (w : World) (d : Nat → Int) (n : Nat) : World := (w.alloc (madeB n)).setCells w.heap.size 0 ((List.range n).map fun j => .int .u8 (d j))

theorem run_copy22 (w : World) (x : Addr) (d : Nat → Int) (n c : Nat) (h : In22 w x d n) (ty : TypeId) :
    (Builtin.copy_ #[22, 22] ty #[.slice (some ⟨w.heap.size, 0, none⟩) n n, .slice (some x) n c]).run Tryd.prog (w.alloc (madeB n)) = .ok (goInt n) (copied w d n) := by
  have := run_copy_cells (P := Tryd.prog) (w.alloc (madeB n)) 22 22 ty 5 w.heap.size 0 n n x n c ((List.range n).map fun j => .int .u8 (d j)) Tryd.underlying22 size5 (by simp)
    (fun j v hv => by
      have hj : j < n := by simpa using (List.getElem?_eq_some_iff.1 hv).1
      rw [List.getElem?_map, List.getElem?_range hj] at hv
      simp only [Option.map_some, Option.some.injEq] at hv
      subst hv
      obtain ⟨hsp, hlt, hc⟩ := h j hj
      obtain ⟨b, o, sp⟩ := x
      simp only at hsp hlt hc
      subst hsp
      rw [Go.WideShapes.add_plain]
      exact (World.cell?_alloc_old _ _ _ (by show b ≠ _; omega)).trans hc)
    (fun j hj => by rw [Nat.zero_add, madeB_cell w n j (by simpa using hj)]; rfl) (fun j _ => by rw [Nat.zero_add]; exact madeB_frozen w n j) (fun v hv => by simp at hv; obtain ⟨j, _, rfl⟩ := hv; rfl)
  simpa [copied] using this

theorem below_setCells {B : Nat} {w0 : World} (b : Nat) (hb : B ≤ b) : ∀ (vs : List Value) (o : Nat) (w : World), Below B w0 w → Below B w0 (w.setCells b o vs)
  | [], _, _, h => h
  | v :: vs, o, _, h => below_setCells b hb vs (o + 1) _ (h.setCell (p := ⟨b, o, none⟩) hb v)

theorem copied_below (w : World) (d : Nat → Int) (n : Nat) : Below w.heap.size w (copied w d n) :=
  below_setCells _ (Nat.le_refl _) _ _ _ ((Below.refl _ w).alloc (Nat.le_refl _) _)

theorem copied_cell (w : World) (d : Nat → Int) (n j : Nat) (hj : j < n) : (copied w d n).cell? ⟨w.heap.size, j, none⟩ = some (.int .u8 (d j)) := by
  have := World.cell?_setCells_in w.heap.size ((List.range n).map fun j => Value.int .u8 (d j)) 0 (w.alloc (madeB n)) (fun i hi => by rw [Nat.zero_add, madeB_cell w n i (by simpa using hi)]; rfl) j (by simpa using hj)
  rw [Nat.zero_add] at this
  unfold copied
  rw [this]
  simp

theorem run_nil22 (w : World) (a : Option Addr) (n c : Nat) : (binOp .eql 22 (.slice a n c) (.slice none 0 0)).run Tryd.prog w = .ok (.bool a.isNone) w ∧ (binOp .neq 22 (.slice a n c) (.slice none 0 0)).run Tryd.prog w = .ok (.bool (!a.isNone)) w := by
  have h : ∀ d, (Op.equalIn (d + 1) 22 (.slice a n c) (.slice none 0 0)).run Tryd.prog w = .ok a.isNone w := fun d => by
    cases a <;> simp [Op.equalIn, run_underlying Tryd.underlying22]
  constructor
  · simp only [binOp]
    simp [Op.equal, Op.maxDepth, h 9999]
  · simp only [binOp]
    simp [Op.equal, Op.maxDepth, h 9999]

/-! ### Plain laws -/
theorem wraps_u8 (n : Int) (h₀ : 0 ≤ n) (h₁ : n < 2 ^ 8) : IntKind.u8.wrap n = n := by rw [IntKind.wrap_u8]; omega

theorem or8 (a b : Int) (ha : 0 ≤ a ∧ a < 256) (hb : 0 ≤ b ∧ b < 256) : (0 ≤ bits .or .u8 a b ∧ bits .or .u8 a b < 256) ∧ (bits .or .u8 a b = 0 ↔ a = 0 ∧ b = 0) := by
  obtain ⟨x, rfl⟩ := Int.eq_ofNat_of_zero_le ha.1
  obtain ⟨y, rfl⟩ := Int.eq_ofNat_of_zero_le hb.1
  have hx : x < 2 ^ 8 := by omega
  have hy : y < 2 ^ 8 := by omega
  rw [(bits_nat .u8 8 (by decide) wraps_u8 x y hx hy).2]
  have h1 := Nat.or_lt_two_pow hx hy
  refine ⟨by omega, ?_⟩
  have h2 : x ||| y = 0 ↔ x = 0 ∧ y = 0 := Nat.or_eq_zero_iff
  constructor
  · intro h
    have := h2.1 (by omega)
    omega
  · intro h
    have := h2.2 (by omega)
    omega

/-- The four bytes or'd. -/
def o4 (d : Nat → Int) : Int := bits .or .u8 (bits .or .u8 (bits .or .u8 (d 0) (d 1)) (d 2)) (d 3)
def o2 (d : Nat → Int) : Int := bits .or .u8 (d 4) (d 5)

theorem o4_zero (d : Nat → Int) (h : ∀ j, 0 ≤ d j ∧ d j < 256) : o4 d = 0 ↔ num4 (d 0) (d 1) (d 2) (d 3) = 0 := by
  have h0 := h 0; have h1 := h 1; have h2 := h 2; have h3 := h 3
  have a := or8 _ _ h0 h1
  have b := or8 _ _ a.1 h2
  have c := or8 _ _ b.1 h3
  unfold o4 num4
  rw [c.2, b.2, a.2]
  omega
theorem o2_zero (d : Nat → Int) (h : ∀ j, 0 ≤ d j ∧ d j < 256) : o2 d = 0 ↔ d 4 * 256 + d 5 = 0 := by
  have h0 := h 4; have h1 := h 5
  unfold o2
  rw [(or8 _ _ h0 h1).2]
  omega

/-- The number that the first i bytes spell. -/
def beN (d : Nat → Int) : Nat → Int
  | 0 => 0
  | i + 1 => beN d i * 256 + d i

theorem beN_ok (d : Nat → Int) (h : ∀ j, 0 ≤ d j ∧ d j < 256) : ∀ i, 0 ≤ beN d i ∧ beN d i < 256 ^ i
  | 0 => by simp [beN]
  | i + 1 => by
    have ih := beN_ok d h i
    have hi := h i
    rw [Int.pow_succ]
    show 0 ≤ beN d i * 256 + d i ∧ beN d i * 256 + d i < _
    generalize (256 : Int) ^ i = e at ih ⊢
    omega

theorem beN_step (d : Nat → Int) (h : ∀ j, 0 ≤ d j ∧ d j < 256) (i : Nat) (hi : i < 6) : bits .or .u64 (IntKind.u64.wrap (beN d i * 256)) (IntKind.u64.wrap (d i)) = beN d (i + 1) := by
  have hb := beN_ok d h i
  have hd := h i
  have hq : beN d i < 1099511627776 := by
    have e : i = 0 ∨ i = 1 ∨ i = 2 ∨ i = 3 ∨ i = 4 ∨ i = 5 := by omega
    rcases e with rfl | rfl | rfl | rfl | rfl | rfl <;> simp only [Int.reducePow] at hb <;> omega
  rw [u64_wrap_id _ (by omega) (by omega), u64_wrap_id _ (by omega) (by omega)]
  exact bits_join .u64 64 (by decide) wraps_u64 8 (beN d i * 256) (d i) (by omega) (by omega) (by omega) hd.1 hd.2 (by omega)

theorem beN6 (d : Nat → Int) : beN d 6 = num4 (d 0) (d 1) (d 2) (d 3) * 65536 + (d 4 * 256 + d 5) := by
  simp only [beN, num4]
  omega
end Go.Proofs.Qxb6613740aDoor
