import Derived.Test.Qxb6613740aDoorW2
import Derived.Deep.DrawnRows
namespace Go.Proofs.Qxb6613740aDoor
open Go Go.RowKit
attribute [local go_sem ↓] Go.wp_at_zero Go.wp_at_succ

/-- The four bytes of x, the greatest first. -/
def four (x : Int) : Value := .agg #[.int .u8 (x / 16777216), .int .u8 (x / 65536 % 256), .int .u8 (x / 256 % 256), .int .u8 (x % 256)]

theorem zeros4 (w : World) (A : Obj) : (∀ j, j < 4 → ∃ v, ((w.alloc A).alloc (Obj.cells #[Value.int .u8 0, Value.int .u8 0, Value.int .u8 0, Value.int .u8 0] 39)).drew.cell? ⟨w.heap.size + 1, j, none⟩ = some v) ∧
    ∀ j, ((w.alloc A).alloc (Obj.cells #[Value.int .u8 0, Value.int .u8 0, Value.int .u8 0, Value.int .u8 0] 39)).drew.frozen? ⟨w.heap.size + 1, j, none⟩ = false := by
  refine ⟨fun j hj => ⟨.int .u8 0, ?_⟩, fun j => ?_⟩
  · have e : j = 0 ∨ j = 1 ∨ j = 2 ∨ j = 3 := by omega
    rcases e with rfl | rfl | rfl | rfl <;> go_simp
  · go_simp

set_option maxHeartbeats 2000000 in
theorem as4 (x : Int) (p : Addr) (w : World) (h0 : 0 ≤ x) (h1 : x < 4294967296) (hz : w.cell? ⟨1, 0, none⟩ = some (.pointer (some p))) :
    Calls Tryd.prog 35 #[addr x p] w (RV (four x) w) := by
  obtain ⟨hz1, hz2⟩ := cell_two hz
  obtain ⟨hx1, hx2⟩ := conv32 x h0 h1
  have hq := eql29
  unfold addr
  go_enter Tryd.func35, Tryd.ntmps35
  go_wp2_with fail
  go_region_held3 (fun w' => w'.cell? ⟨w.heap.size, 1, none⟩ = some (.int .u64 (281470681743360 + x))) (go_keep)
    (first | (go_at_call 52; refine (put32 (w.heap.size + 1) x _ h0 h1 (zeros4 w _).1 (zeros4 w _).2).mono ?_; rintro e w' ⟨rfl, rfl⟩))
  go_wp2
  go_returns
  exact ⟨rfl, (below_two w _ _).drew⟩

theorem below_drewN {B : Nat} {a w : World} (h : Below B a w) (k : Nat) : Below B a (w.drewN k) := h.trans ⟨rfl, rfl, rfl, Nat.le_refl _, fun _ _ => rfl⟩

theorem or32 (b0 b1 b2 b3 : Int) (h0 : 0 ≤ b0 ∧ b0 < 256) (h1 : 0 ≤ b1 ∧ b1 < 256) (h2 : 0 ≤ b2 ∧ b2 < 256) (h3 : 0 ≤ b3 ∧ b3 < 256) :
    bits BinOp.or IntKind.u32 (bits BinOp.or IntKind.u32 (bits BinOp.or IntKind.u32 b3 (b2 * 256)) (b1 * 65536)) (b0 * 16777216) = num4 b0 b1 b2 b3 := by
  unfold num4
  simp (disch := omega) only [u32_or8, u32_or16, u32_or24]
  omega

/-- Uint32's answer. -/
def R36 (v : Value) (w : World) (e : Ending) (w' : World) : Prop := ∃ nq, e = .returned v ∧ w' = (w.alloc (Obj.cells #[] 116)).drewN nq

set_option maxHeartbeats 8000000 in
set_option maxRecDepth 100000 in
theorem be32 (bp : Nat) (b0 b1 b2 b3 : Int) (w : World) (h0 : 0 ≤ b0 ∧ b0 < 256) (h1 : 0 ≤ b1 ∧ b1 < 256) (h2 : 0 ≤ b2 ∧ b2 < 256) (h3 : 0 ≤ b3 ∧ b3 < 256)
    (c0 : w.cell? ⟨bp, 0, none⟩ = some (.int .u8 b0)) (c1 : w.cell? ⟨bp, 1, none⟩ = some (.int .u8 b1)) (c2 : w.cell? ⟨bp, 2, none⟩ = some (.int .u8 b2)) (c3 : w.cell? ⟨bp, 3, none⟩ = some (.int .u8 b3)) :
    Calls Tryd.prog 36 #[.agg #[], .slice (some ⟨bp, 0, none⟩) 4 4] w (R36 (.int .u32 (num4 b0 b1 b2 b3)) w) := by
  have p0 := (cell_two c0).1; have p1 := (cell_two c1).1; have p2 := (cell_two c2).1; have p3 := (cell_two c3).1
  have hor := or32 b0 b1 b2 b3 h0 h1 h2 h3
  go_enter Tryd.func36, Tryd.ntmps36
  go_wp2
  go_quiet (fail)
  go_wp2
  go_ret
  exact ⟨_, rfl, rfl⟩

/-- Port's answer. -/
def R34 (x pt : Int) (p : Addr) (w : World) (e : Ending) (w' : World) : Prop :=
  e = .returned (.int .u16 pt) ∧ w' = w.alloc (.cells #[.int .u64 0, .int .u64 (281470681743360 + x), .pointer (some p), .int .u16 pt] 34)

theorem apPort (x pt : Int) (p : Addr) (w : World) : Calls Tryd.prog 34 #[addrP x pt p] w (R34 x pt p w) := by
  unfold addrP
  go_enter Tryd.func34, Tryd.ntmps34
  go_wp2
  go_returns
  exact ⟨rfl, rfl⟩

theorem four_num (x : Int) : num4 (x / 16777216) (x / 65536 % 256) (x / 256 % 256) (x % 256) = x := by
  unfold num4
  omega

theorem keyOr (x pt : Int) (h0 : 0 ≤ x) (h1 : x < 4294967296) (t0 : 0 ≤ pt ∧ pt < 65536) : bits BinOp.or IntKind.u64 (IntKind.u64.wrap (IntKind.u64.wrap x * 65536)) (IntKind.u64.wrap pt) = x * 65536 + pt := by
  rw [u64_wrap_id x h0 (by omega), u64_wrap_id (x * 65536) (by omega) (by omega), u64_wrap_id pt (by omega) (by omega)]
  exact bits_join .u64 64 (by decide) wraps_u64 16 (x * 65536) pt (by omega) (by omega) (by omega) t0.1 t0.2 (by omega)

set_option maxHeartbeats 4000000 in
theorem keyOf24 (x pt : Int) (p : Addr) (w : World) (h0 : 0 ≤ x) (h1 : x < 4294967296) (t0 : 0 ≤ pt ∧ pt < 65536) (hz : w.cell? ⟨1, 0, none⟩ = some (.pointer (some p))) :
    Calls Tryd.prog 24 #[addrP x pt p] w (RV (.int .u64 (x * 65536 + pt)) w) := by
  have hk := keyOr x pt h0 h1 t0
  obtain ⟨hz1, hz2⟩ := cell_two hz
  have hsz : 1 < w.heap.size := World.block_lt_of_cell? _ _ hz
  unfold addrP
  go_enter Tryd.func24, Tryd.ntmps24
  go_wp2_with fail
  refine (apAddr x pt p _).mono ?_
  rintro e w1 ⟨rfl, B1⟩
  have hz3 : w1.cell? ⟨1, 0, none⟩ = some (.pointer (some p)) := (B1.cell (p := ⟨1, 0, none⟩) (by simp; omega)).trans (hz1 _)
  go_wp2_with fail
  refine (as4 x p _ h0 h1 hz3).mono ?_
  rintro e w2 ⟨rfl, B2⟩
  have hsz2 : w.heap.size < w2.heap.size := Nat.lt_of_lt_of_le (by have := B1.size; simp at this; omega) B2.size
  have hbox : ∀ j v, (w.alloc (.cells #[.int .u64 0, .int .u64 (281470681743360 + x), .pointer (some p), .int .u16 pt] 34)).cell? ⟨w.heap.size, j, none⟩ = some v → w2.cell? ⟨w.heap.size, j, none⟩ = some v := fun j v hv =>
    (B2.cell (p := ⟨w.heap.size, j, none⟩) (by have := B1.size; simp at this; show w.heap.size < _; omega)).trans ((B1.cell (p := ⟨w.heap.size, j, none⟩) (by simp)).trans hv)
  have q0 := hbox 0 (.int .u64 0) (by go_simp)
  have q1 := hbox 1 (.int .u64 (281470681743360 + x)) (by go_simp)
  have q2 := hbox 2 (.pointer (some p)) (by go_simp)
  have q3 := hbox 3 (.int .u16 pt) (by go_simp)
  have n0 : w.heap.size ≠ w2.heap.size := by omega
  have n1 : w.heap.size ≠ w2.heap.size + 1 := by omega
  have hfn := four_num x
  have f0 : 0 ≤ x / 16777216 ∧ x / 16777216 < 256 := by omega
  have f1 : 0 ≤ x / 65536 % 256 ∧ x / 65536 % 256 < 256 := by omega
  have f2 : 0 ≤ x / 256 % 256 ∧ x / 256 % 256 < 256 := by omega
  have f3 : 0 ≤ x % 256 ∧ x % 256 < 256 := by omega
  have BB : Below w.heap.size w w2 := ((Below.refl _ w).alloc (Nat.le_refl _) _).trans ((B1.mono (by simp)).trans (B2.mono (by have := B1.size; simp at this; omega)))
  clear hbox hz hz1 hz2 hz3 B1 B2
  unfold four
  go_wp2_with fail
  go_region_held3 (fun w' => w'.cell? ⟨w.heap.size, 0, none⟩ = some (.int .u64 0) ∧ w'.cell? ⟨w.heap.size, 1, none⟩ = some (.int .u64 (281470681743360 + x)) ∧ w'.cell? ⟨w.heap.size, 2, none⟩ = some (.pointer (some p)) ∧ w'.cell? ⟨w.heap.size, 3, none⟩ = some (.int .u16 pt)) (go_keep)
    (first | (go_at_call 36; refine (be32 w2.heap.size (x / 16777216) (x / 65536 % 256) (x / 256 % 256) (x % 256) _ f0 f1 f2 f3 (by go_simp) (by go_simp) (by go_simp) (by go_simp)).mono ?_; rintro e w' ⟨nq, rfl, rfl⟩) | (go_at_call 34; refine (apPort x pt p _).mono ?_; rintro e w' ⟨rfl, rfl⟩))
  go_wp2
  go_ret
  have h1 : w.heap.size ≤ w2.heap.size := by omega
  exact ⟨rfl, (below_drewN ((BB.alloc h1 _).alloc (by simp <;> omega) _) _).alloc (by simp <;> omega) _⟩

/-- ZZaddrKeyOf: the six bytes as one number. -/
theorem keyOf9 (a b c d pt : Int) (p : Addr) (w : World) (ha : 0 ≤ a ∧ a < 256) (hb : 0 ≤ b ∧ b < 256) (hc : 0 ≤ c ∧ c < 256) (hd : 0 ≤ d ∧ d < 256) (t0 : 0 ≤ pt ∧ pt < 65536) (hz : w.cell? ⟨1, 0, none⟩ = some (.pointer (some p))) :
    Calls Tryd.prog 9 #[.agg #[.int .u8 a, .int .u8 b, .int .u8 c, .int .u8 d], .int .u16 pt] w (RV (.int .u64 (num4 a b c d * 65536 + pt)) w) := by
  have hn : 0 ≤ num4 a b c d ∧ num4 a b c d < 4294967296 := by unfold num4; omega
  obtain ⟨hz1, hz2⟩ := cell_two hz
  have hsz : 1 < w.heap.size := World.block_lt_of_cell? _ _ hz
  go_enter Tryd.func9, Tryd.ntmps9
  go_wp2_with fail
  refine (from4 a b c d p _ ha hb hc hd (hz1 _)).mono ?_
  rintro e w1 ⟨rfl, B1⟩
  have hz3 : w1.cell? ⟨1, 0, none⟩ = some (.pointer (some p)) := (B1.cell (p := ⟨1, 0, none⟩) (by simp; omega)).trans (hz1 _)
  have hs1 : w.heap.size < w1.heap.size := by have := B1.size; simp at this; omega
  go_wp2_with fail
  refine (apFrom (num4 a b c d) pt p _).mono ?_
  rintro e w2 ⟨rfl, B2⟩
  have hz4 : w2.cell? ⟨1, 0, none⟩ = some (.pointer (some p)) := (B2.cell (p := ⟨1, 0, none⟩) (by show 1 < _; omega)).trans hz3
  go_wp2_with fail
  refine (keyOf24 _ pt p _ hn.1 hn.2 t0 hz4).mono ?_
  rintro e w3 ⟨rfl, B3⟩
  have BB : Below w.heap.size w w3 := ((Below.refl _ w).alloc (Nat.le_refl _) _).trans ((B1.mono (by simp)).trans ((B2.mono (by omega)).trans (B3.mono (by have := B2.size; omega))))
  clear B1 B2 B3
  go_wp2_with fail
  go_ret
  exact ⟨rfl, BB⟩

theorem keyOf8 (x pt : Int) (p : Addr) (w : World) (h0 : 0 ≤ x) (h1 : x < 4294967296) (t0 : 0 ≤ pt ∧ pt < 65536) (hz : w.cell? ⟨1, 0, none⟩ = some (.pointer (some p))) :
    Calls Tryd.prog 8 #[addrP x pt p] w (RV (.int .u64 (x * 65536 + pt)) w) := by
  obtain ⟨hz1, hz2⟩ := cell_two hz
  unfold addrP
  go_enter Tryd.func8, Tryd.ntmps8
  go_wp2_with fail
  refine (keyOf24 x pt p _ h0 h1 t0 (hz1 _)).mono ?_
  rintro e w3 ⟨rfl, B3⟩
  have BB : Below w.heap.size w w3 := ((Below.refl _ w).alloc (Nat.le_refl _) _).trans (B3.mono (by simp))
  clear B3
  go_wp2_with fail
  go_ret
  exact ⟨rfl, BB⟩
end Go.Proofs.Qxb6613740aDoor
