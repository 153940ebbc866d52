import Derived.Test.Qxb6613740aDoorW7
import Derived.Deep.CutRange
namespace Go.Proofs.Qxb6613740aDoor
open Go Go.RowKit
attribute [local go_sem ↓] Go.wp_at_zero Go.wp_at_succ

/-- The zero AddrPort. -/
def zeroP : Value := .agg #[.int .u64 0, .int .u64 0, .pointer none, .int .u16 0]

/-- readAddr's answer where nothing is read. -/
def RBad (w : World) (e : Ending) (w' : World) : Prop := e = .returned (.tuple #[zeroP, .slice none 0 0, .bool false]) ∧ Below w.heap.size w w'

theorem read_short (sa : Option Addr) (n c : Nat) (w : World) (hn : n < 6) : Calls Tryd.prog 23 #[.slice sa n c] w (RBad w) := by
  have h6 : (n : Int) < 6 := by omega
  go_enter Tryd.func23, Tryd.ntmps23
  go_wp2_with fail
  go_returns
  exact ⟨rfl, (Below.refl _ w).alloc (Nat.le_refl _) _⟩

/-- The bytes that came in, at a world of the call's. -/
structure Six (bd n : Nat) (d : Nat → Int) (p q : Addr) (w : World) : Prop where
  cell : ∀ j, j < n → w.cell? ⟨bd, j, none⟩ = some (.int .u8 (d j))
  ok : ∀ j, 0 ≤ d j ∧ d j < 256
  z : w.cell? ⟨1, 0, none⟩ = some (.pointer (some p))
  z6 : w.cell? ⟨3, 0, none⟩ = some (.pointer (some q))

theorem Six.below {bd n : Nat} {d : Nat → Int} {p q : Addr} {w w' : World} (h : Six bd n d p q w) (b : Below w.heap.size w w') : Six bd n d p q w' where
  cell := fun j hj => (b.cell (World.block_lt_of_cell? _ _ (h.cell j hj))).trans (h.cell j hj)
  ok := h.ok
  z := (b.cell (World.block_lt_of_cell? _ _ h.z)).trans h.z
  z6 := (b.cell (World.block_lt_of_cell? _ _ h.z6)).trans h.z6

theorem Six.four {bd n : Nat} {d : Nat → Int} {p q : Addr} {w : World} (h : Six bd n d p q w) (hn : 6 ≤ n) :
    w.cell? ⟨bd, 0, none⟩ = some (.int .u8 (d 0)) ∧ w.cell? ⟨bd, 1, none⟩ = some (.int .u8 (d 1)) ∧ w.cell? ⟨bd, 2, none⟩ = some (.int .u8 (d 2)) ∧ w.cell? ⟨bd, 3, none⟩ = some (.int .u8 (d 3)) :=
  ⟨h.cell 0 (by omega), h.cell 1 (by omega), h.cell 2 (by omega), h.cell 3 (by omega)⟩

theorem arr39 (bd c : Nat) (W : World) : (Instr.arrayAt 39 (.slice (some ⟨bd, 0, none⟩) 4 c)).run Tryd.prog W = .ok (.pointer (some ⟨bd, 0, none⟩)) W := by
  simp [Instr.arrayAt, run_underlying Tryd.underlying39]

/-- Four cells of block b are there and may be written. -/
structure F5 (b : Nat) (w : World) : Prop where
  c : ∀ j, j < 4 → ∃ v, w.cell? ⟨b, j, none⟩ = some v
  f : ∀ j, w.frozen? ⟨b, j, none⟩ = false
  lt : b < w.heap.size

theorem F5.alloc (V : World) : F5 V.heap.size (V.alloc (.cells #[.int .u64 0, .int .u64 0, .pointer none, .int .u16 0] 34)) where
  c := fun j hj => by
    have e : j = 0 ∨ j = 1 ∨ j = 2 ∨ j = 3 := by omega
    rcases e with rfl | rfl | rfl | rfl
    · exact ⟨.int .u64 0, by go_simp⟩
    · exact ⟨.int .u64 0, by go_simp⟩
    · exact ⟨.pointer none, by go_simp⟩
    · exact ⟨.int .u16 0, by go_simp⟩
  f := fun j => by go_simp
  lt := by simp
theorem F5.allocD (V : World) : F5 V.heap.size (V.alloc (.cells #[.int .u64 0, .int .u64 0, .pointer none, .int .u16 0] 34)).drew := ⟨(F5.alloc V).c, (F5.alloc V).f, (F5.alloc V).lt⟩
theorem F5.alloc2D (V : World) (A : Obj) : F5 (V.heap.size + 1) ((V.alloc A).alloc (.cells #[.int .u64 0, .int .u64 0, .pointer none, .int .u16 0] 34)).drew := by
  have := F5.allocD (V.alloc A)
  rwa [show (V.alloc A).heap.size = V.heap.size + 1 by simp] at this
theorem F5.below {b : Nat} {V w : World} (h : F5 b V) (B : Below V.heap.size V w) : F5 b w where
  c := fun j hj => by
    obtain ⟨v, hv⟩ := h.c j hj
    exact ⟨v, (B.cell (p := ⟨b, j, none⟩) h.lt).trans hv⟩
  f := fun j => (World.frozen?_of_block (a := ⟨b, j, none⟩) (B.block b h.lt)).trans (h.f j)
  lt := Nat.lt_of_lt_of_le h.lt B.size
theorem F5.drew {b : Nat} {V : World} (h : F5 b V) : F5 b V.drew := ⟨h.c, h.f, h.lt⟩
theorem F5.facts {b : Nat} {w : World} (h : F5 b w) : ((∃ v, w.cell? ⟨b, 0, none⟩ = some v) ∧ (∃ v, w.cell? ⟨b, 1, none⟩ = some v) ∧ (∃ v, w.cell? ⟨b, 2, none⟩ = some v) ∧ ∃ v, w.cell? ⟨b, 3, none⟩ = some v) ∧
    w.frozen? ⟨b, 0, none⟩ = false ∧ w.frozen? ⟨b, 1, none⟩ = false ∧ w.frozen? ⟨b, 2, none⟩ = false ∧ w.frozen? ⟨b, 3, none⟩ = false :=
  ⟨⟨h.c 0 (by omega), h.c 1 (by omega), h.c 2 (by omega), h.c 3 (by omega)⟩, h.f 0, h.f 1, h.f 2, h.f 3⟩

/-- Within the call. -/
structure St (w0 : World) (bd n : Nat) (d : Nat → Int) (p q : Addr) (w : World) : Prop where
  big : 3 < w0.heap.size
  six : Six bd n d p q w
  bel : Below w0.heap.size w0 w
  res : F5 w0.heap.size w

theorem St.next {w0 : World} {bd n : Nat} {d : Nat → Int} {p q : Addr} {V w : World} (h : St w0 bd n d p q V) (B : Below V.heap.size V w) : St w0 bd n d p q w :=
  ⟨h.big, h.six.below B, h.bel.trans (B.mono h.bel.size), h.res.below B⟩

theorem St.ne {w0 : World} {bd n : Nat} {d : Nat → Int} {p q : Addr} {w : World} (h : St w0 bd n d p q w) (hn : 6 ≤ n) : bd ≠ w.heap.size := by
  have := World.block_lt_of_cell? _ _ (h.six.cell 0 (by omega))
  simp only at this
  omega

theorem keepStore {w : World} {bd b : Nat} {d0 d1 d2 d3 v0 v1 v2 v3 : Value} (h : w.cell? ⟨bd, 0, none⟩ = some d0 ∧ w.cell? ⟨bd, 1, none⟩ = some d1 ∧ w.cell? ⟨bd, 2, none⟩ = some d2 ∧ w.cell? ⟨bd, 3, none⟩ = some d3) (hne : bd ≠ b) :
    ((((w.setCell ⟨b, 0, none⟩ v0).setCell ⟨b, 1, none⟩ v1).setCell ⟨b, 2, none⟩ v2).setCell ⟨b, 3, none⟩ v3).cell? ⟨bd, 0, none⟩ = some d0 ∧ ((((w.setCell ⟨b, 0, none⟩ v0).setCell ⟨b, 1, none⟩ v1).setCell ⟨b, 2, none⟩ v2).setCell ⟨b, 3, none⟩ v3).cell? ⟨bd, 1, none⟩ = some d1 ∧
    ((((w.setCell ⟨b, 0, none⟩ v0).setCell ⟨b, 1, none⟩ v1).setCell ⟨b, 2, none⟩ v2).setCell ⟨b, 3, none⟩ v3).cell? ⟨bd, 2, none⟩ = some d2 ∧ ((((w.setCell ⟨b, 0, none⟩ v0).setCell ⟨b, 1, none⟩ v1).setCell ⟨b, 2, none⟩ v2).setCell ⟨b, 3, none⟩ v3).cell? ⟨bd, 3, none⟩ = some d3 := by
  have k : ∀ (W : World) (o j : Nat) (v : Value), (W.setCell ⟨b, o, none⟩ v).cell? ⟨bd, j, none⟩ = W.cell? ⟨bd, j, none⟩ := fun W o j v => World.cell?_setCell_other _ _ _ _ (fun e => by injection e with e1; exact hne e1.symm)
  simp only [k]
  exact h

/-- AddrFrom4 at the first four bytes. -/
theorem from4s {bd n : Nat} {d : Nat → Int} {p q : Addr} {w : World} (h : Six bd n d p q w) (x : Int) (hx : Hid (num4 (d 0) (d 1) (d 2) (d 3) = x)) :
    Calls Tryd.prog 26 #[.agg #[.int .u8 (d 0), .int .u8 (d 1), .int .u8 (d 2), .int .u8 (d 3)]] w fun e w' => e = .returned (.agg #[.int .u64 0, .int .u64 (281470681743360 + x), .pointer (some p)]) ∧ Below w.heap.size w w' := by
  refine (from4x (d 0) (d 1) (d 2) (d 3) p w (h.ok 0) (h.ok 1) (h.ok 2) (h.ok 3) h.z).mono ?_
  rintro e w' ⟨rfl, rfl⟩
  rw [hx.out]
  exact ⟨rfl, below_two w _ _⟩

theorem be16s {bd n : Nat} {d : Nat → Int} {p q : Addr} {w : World} (h : Six bd n d p q w) (hn : 6 ≤ n) (pt : Int) (hp : Hid (d 4 * 256 + d 5 = pt)) :
    Calls Tryd.prog 31 #[.agg #[], .slice (some ⟨bd, 4, none⟩) (n - 4) (n - 4)] w fun e w' => e = .returned (.int .u16 pt) ∧ Below w.heap.size w w' := by
  rw [← hp.out]
  refine (be16 bd 4 (n - 4) (n - 4) (d 4) (d 5) w (by omega) (h.ok 4) (h.ok 5) (h.cell 4 (by omega)) (h.cell 5 (by omega))).mono ?_
  rintro e w' ⟨nq, rfl, rfl⟩
  exact ⟨rfl, below_drewN ((Below.refl _ w).alloc (Nat.le_refl _) _) _⟩

theorem apFroms (x pt : Int) (p : Addr) (w : World) : Calls Tryd.prog 25 #[.agg #[.int .u64 0, .int .u64 (281470681743360 + x), .pointer (some p)], .int .u16 pt] w fun e w' => e = .returned (.agg #[.int .u64 0, .int .u64 (281470681743360 + x), .pointer (some p), .int .u16 pt]) ∧ Below w.heap.size w w' := by
  refine (apFromx x pt p w).mono ?_
  rintro e w' ⟨rfl, rfl⟩
  exact ⟨rfl, below_two w _ _⟩

theorem hid {P : Prop} (h : P) : Hid P := h

/-- Behind the third region: block b holds the address and the port. -/
structure Mid (w0 : World) (bd n : Nat) (d : Nat → Int) (p q : Addr) (x pt : Int) (b : Nat) (w : World) : Prop where
  st : St w0 bd n d p q w
  lt : b < w.heap.size
  ne : w0.heap.size < b
  c0 : w.cell? ⟨b, 0, none⟩ = some (.int .u64 0)
  c1 : w.cell? ⟨b, 1, none⟩ = some (.int .u64 (281470681743360 + x))
  c2 : w.cell? ⟨b, 2, none⟩ = some (.pointer (some p))
  c3 : w.cell? ⟨b, 3, none⟩ = some (.int .u16 pt)

theorem cells34 (V : World) (c0 c1 c2 c3 : Value) : (V.alloc (.cells #[c0, c1, c2, c3] 34)).cell? ⟨V.heap.size, 0, none⟩ = some c0 ∧ (V.alloc (.cells #[c0, c1, c2, c3] 34)).cell? ⟨V.heap.size, 1, none⟩ = some c1 ∧
    (V.alloc (.cells #[c0, c1, c2, c3] 34)).cell? ⟨V.heap.size, 2, none⟩ = some c2 ∧ (V.alloc (.cells #[c0, c1, c2, c3] 34)).cell? ⟨V.heap.size, 3, none⟩ = some c3 := by
  refine ⟨?_, ?_, ?_, ?_⟩ <;> go_simp

theorem Mid.ofAlloc {w0 : World} {bd n : Nat} {d : Nat → Int} {p q : Addr} {x pt : Int} {V : World} (h : St w0 bd n d p q V) :
    Mid w0 bd n d p q x pt V.heap.size (V.alloc (.cells #[.int .u64 0, .int .u64 (281470681743360 + x), .pointer (some p), .int .u16 pt] 34)) := by
  obtain ⟨a0, a1, a2, a3⟩ := cells34 V (.int .u64 0) (.int .u64 (281470681743360 + x)) (.pointer (some p)) (.int .u16 pt)
  exact ⟨h.next ((Below.refl _ V).alloc (Nat.le_refl _) _), by simp, h.res.lt, a0, a1, a2, a3⟩

theorem Mid.next {w0 : World} {bd n b : Nat} {d : Nat → Int} {p q : Addr} {x pt : Int} {V w : World} (h : Mid w0 bd n d p q x pt b V) (B : Below V.heap.size V w) : Mid w0 bd n d p q x pt b w :=
  ⟨h.st.next B, Nat.lt_of_lt_of_le h.lt B.size, h.ne, (B.cell (p := ⟨b, 0, none⟩) h.lt).trans h.c0, (B.cell (p := ⟨b, 1, none⟩) h.lt).trans h.c1, (B.cell (p := ⟨b, 2, none⟩) h.lt).trans h.c2, (B.cell (p := ⟨b, 3, none⟩) h.lt).trans h.c3⟩

theorem Mid.ofStore {w0 : World} {bd n b : Nat} {d : Nat → Int} {p q : Addr} {x pt : Int} {V : World} (h : St w0 bd n d p q V) (F : F5 b V) (hne : bd ≠ b) (hb : w0.heap.size < b) :
    Mid w0 bd n d p q x pt b ((((V.setCell ⟨b, 0, none⟩ (.int .u64 0)).setCell ⟨b, 1, none⟩ (.int .u64 (281470681743360 + x))).setCell ⟨b, 2, none⟩ (.pointer (some p))).setCell ⟨b, 3, none⟩ (.int .u16 pt)) := by
  have k : ∀ (a : Nat), a ≠ b → ∀ (W : World) (o j : Nat) (v : Value), (W.setCell ⟨b, o, none⟩ v).cell? ⟨a, j, none⟩ = W.cell? ⟨a, j, none⟩ := fun a ha W o j v => World.cell?_setCell_other _ _ _ _ (fun e => by injection e with e1; exact ha e1.symm)
  have k2 : ∀ (o j : Nat), o ≠ j → ∀ (W : World) (v : Value), (W.setCell ⟨b, o, none⟩ v).cell? ⟨b, j, none⟩ = W.cell? ⟨b, j, none⟩ := fun o j hj W v => World.cell?_setCell_other _ _ _ _ (fun e => by injection e with _ e2; exact hj e2)
  have hbig := h.big
  obtain ⟨v0, g0⟩ := F.c 0 (by omega)
  obtain ⟨v1, g1⟩ := F.c 1 (by omega)
  obtain ⟨v2, g2⟩ := F.c 2 (by omega)
  obtain ⟨v3, g3⟩ := F.c 3 (by omega)
  refine ⟨⟨hbig, ⟨fun j hj => ?_, h.six.ok, ?_, ?_⟩, ?_, ⟨fun j hj => ?_, fun j => ?_, ?_⟩⟩, ?_, hb, ?_, ?_, ?_, ?_⟩
  · simp only [k bd hne]; exact h.six.cell j hj
  · simp only [k 1 (by omega)]; exact h.six.z
  · simp only [k 3 (by omega)]; exact h.six.z6
  · exact (((h.bel.setCell (p := ⟨b, 0, none⟩) (by show _ ≤ b; omega) _).setCell (p := ⟨b, 1, none⟩) (by show _ ≤ b; omega) _).setCell (p := ⟨b, 2, none⟩) (by show _ ≤ b; omega) _).setCell (p := ⟨b, 3, none⟩) (by show _ ≤ b; omega) _
  · simp only [k w0.heap.size (by omega)]; exact h.res.c j hj
  · simp only [World.frozen?_setCell]; exact h.res.f j
  · simpa using h.res.lt
  · simpa using F.lt
  · rw [k2 3 0 (by omega), k2 2 0 (by omega), k2 1 0 (by omega)]; exact World.cell?_setCell_same _ _ _ g0
  · rw [k2 3 1 (by omega), k2 2 1 (by omega)]; exact World.cell?_setCell_same _ _ _ ((k2 0 1 (by omega) _ _).trans g1)
  · rw [k2 3 2 (by omega)]; exact World.cell?_setCell_same _ _ _ ((k2 1 2 (by omega) _ _).trans ((k2 0 2 (by omega) _ _).trans g2))
  · exact World.cell?_setCell_same _ _ _ ((k2 2 3 (by omega) _ _).trans ((k2 1 3 (by omega) _ _).trans ((k2 0 3 (by omega) _ _).trans g3)))

theorem stored_t {b : Nat} {w : World} (F : F5 b w) (x0 x1 x2 x3 : Value) : (w.setCell ⟨b, 0, none⟩ x0).cell? ⟨b, 0, none⟩ = some x0 ∧ ((w.setCell ⟨b, 0, none⟩ x0).setCell ⟨b, 1, none⟩ x1).cell? ⟨b, 1, none⟩ = some x1 ∧
    (((w.setCell ⟨b, 0, none⟩ x0).setCell ⟨b, 1, none⟩ x1).setCell ⟨b, 2, none⟩ x2).cell? ⟨b, 2, none⟩ = some x2 ∧ ((((w.setCell ⟨b, 0, none⟩ x0).setCell ⟨b, 1, none⟩ x1).setCell ⟨b, 2, none⟩ x2).setCell ⟨b, 3, none⟩ x3).cell? ⟨b, 3, none⟩ = some x3 := by
  have k2 : ∀ (o j : Nat), o ≠ j → ∀ (W : World) (v : Value), (W.setCell ⟨b, o, none⟩ v).cell? ⟨b, j, none⟩ = W.cell? ⟨b, j, none⟩ := fun o j hj W v => World.cell?_setCell_other _ _ _ _ (fun e => by injection e with _ e2; exact hj e2)
  obtain ⟨v0, g0⟩ := F.c 0 (by omega)
  obtain ⟨v1, g1⟩ := F.c 1 (by omega)
  obtain ⟨v2, g2⟩ := F.c 2 (by omega)
  obtain ⟨v3, g3⟩ := F.c 3 (by omega)
  exact ⟨World.cell?_setCell_same _ _ _ g0, World.cell?_setCell_same _ _ _ ((k2 0 1 (by omega) _ _).trans g1), World.cell?_setCell_same _ _ _ ((k2 1 2 (by omega) _ _).trans ((k2 0 2 (by omega) _ _).trans g2)),
    World.cell?_setCell_same _ _ _ ((k2 2 3 (by omega) _ _).trans ((k2 1 3 (by omega) _ _).trans ((k2 0 3 (by omega) _ _).trans g3)))⟩

/-- readAddr's answer where she reads. -/
def RGood (bd n : Nat) (x pt : Int) (p : Addr) (w : World) (e : Ending) (w' : World) : Prop :=
  e = .returned (.tuple #[addrP x pt p, .slice (if n = 6 then some ⟨bd, 0, none⟩ else some ⟨bd, 6, none⟩) (n - 6) (n - 6), .bool true]) ∧ Below w.heap.size w w'

def R23 (bd n : Nat) (x pt : Int) (p : Addr) (w : World) (e : Ending) (w' : World) : Prop :=
  ((x = 0 ∨ pt = 0) ∧ RBad w e w') ∨ ((0 < x ∧ 0 < pt) ∧ RGood bd n x pt p w e w')

set_option maxHeartbeats 4000000 in
set_option maxRecDepth 100000 in
theorem read_long (bd n : Nat) (d : Nat → Int) (p q : Addr) (w : World) (x pt : Int) (hn : 6 ≤ n) (hm : n ≤ 65536) (h : Six bd n d p q w) (hx : num4 (d 0) (d 1) (d 2) (d 3) = x) (hp : d 4 * 256 + d 5 = pt) :
    Calls Tryd.prog 23 #[.slice (some ⟨bd, 0, none⟩) n n] w (R23 bd n x pt p w) := by
  have h6 : ¬ (n : Int) < 6 := by omega
  have i4 : (4 : Int) ≤ (n : Int) := by omega
  have i6 : (6 : Int) ≤ (n : Int) := by omega
  have harr := arr39 bd n
  have H : Hid (St w bd n d p q (w.alloc (.cells #[.int .u64 0, .int .u64 0, .pointer none, .int .u16 0] 34))) := ⟨World.block_lt_of_cell? _ _ h.z6, h.below ((Below.refl _ w).alloc (Nat.le_refl _) _), (Below.refl _ w).alloc (Nat.le_refl _) _, F5.alloc w⟩
  have HX : Hid (num4 (d 0) (d 1) (d 2) (d 3) = x) := hx
  have HP : Hid (d 4 * 256 + d 5 = pt) := hp
  have HN : Hid (6 ≤ n) := hn
  have nb0 : bd ≠ w.heap.size := by have := H.out.bel.size; have := World.block_lt_of_cell? _ _ (h.cell 0 (by omega)); simp only at this; omega
  have nb1 : bd ≠ w.heap.size + 1 := by have := World.block_lt_of_cell? _ _ (h.cell 0 (by omega)); simp only at this; omega
  have F : F5 w.heap.size (w.alloc (.cells #[.int .u64 0, .int .u64 0, .pointer none, .int .u16 0] 34)) := F5.alloc w
  clear h hx hp hn hm
  go_enter Tryd.func23, Tryd.ntmps23
  go_wp2_with fail
  go_cut [5] from 5 to 19 (fun s5 wx => ∃ b, s5 = .pointer (some ⟨b, 0, none⟩) ∧ Mid w bd n d p q x pt b wx)
  case first =>
    go_region_held3 (fun w' => w'.cell? ⟨bd, 0, none⟩ = some (.int .u8 (d 0)) ∧ w'.cell? ⟨bd, 1, none⟩ = some (.int .u8 (d 1)) ∧ w'.cell? ⟨bd, 2, none⟩ = some (.int .u8 (d 2)) ∧ w'.cell? ⟨bd, 3, none⟩ = some (.int .u8 (d 3)))
      (first | (refine (H.out.next ?_).six.four HN.out; (repeat (first | exact Below.refl _ _ | apply Below.drew | apply below_drewN | (refine Below.alloc ?_ (by simp <;> omega) _))); done) | (refine keepStore (H.out.six.four HN.out) ?_; assumption) | go_keep)
      (first | (go_at_call 26; refine (from4s (H.out.next (by repeat (first | exact Below.refl _ _ | apply Below.drew | apply below_drewN | (refine Below.alloc ?_ (by simp <;> omega) _) | (refine Below.setCell ?_ (by simp <;> omega) _)))).six x HX).mono ?_; rintro e w1 ⟨rfl, B1⟩; (first | have F := F5.below (F5.alloc2D _ _) B1 | have F := F5.below (F5.allocD _) B1 | have F := F5.below (F5.alloc _) B1 | have F := F5.below F B1 | have F := F5.below F.drew B1); obtain ⟨⟨⟨v0, g0⟩, ⟨v1, g1⟩, ⟨v2, g2⟩, ⟨v3, g3⟩⟩, k0, k1, k2, k3⟩ := F.facts; have H := hid ((H.out.next (by repeat (first | exact Below.refl _ _ | apply Below.drew | apply below_drewN | (refine Below.alloc ?_ (by simp <;> omega) _) | (refine Below.setCell ?_ (by simp <;> omega) _)))).next B1); have nb := H.out.ne HN.out; have nl := H.out.res.lt; clear B1) | (go_at_call 31; refine (be16s (H.out.next (by repeat (first | exact Below.refl _ _ | apply Below.drew | apply below_drewN | (refine Below.alloc ?_ (by simp <;> omega) _) | (refine Below.setCell ?_ (by simp <;> omega) _)))).six HN.out pt HP).mono ?_; rintro e w1 ⟨rfl, B1⟩; (first | have F := F5.below (F5.alloc2D _ _) B1 | have F := F5.below (F5.allocD _) B1 | have F := F5.below (F5.alloc _) B1 | have F := F5.below F B1 | have F := F5.below F.drew B1); obtain ⟨⟨⟨v0, g0⟩, ⟨v1, g1⟩, ⟨v2, g2⟩, ⟨v3, g3⟩⟩, k0, k1, k2, k3⟩ := F.facts; have H := hid ((H.out.next (by repeat (first | exact Below.refl _ _ | apply Below.drew | apply below_drewN | (refine Below.alloc ?_ (by simp <;> omega) _) | (refine Below.setCell ?_ (by simp <;> omega) _)))).next B1); have nb := H.out.ne HN.out; have nl := H.out.res.lt; clear B1) | (go_at_call 25; refine (apFroms x pt p _).mono ?_; rintro e w1 ⟨rfl, B1⟩; (first | have F := F5.below (F5.alloc2D _ _) B1 | have F := F5.below (F5.allocD _) B1 | have F := F5.below (F5.alloc _) B1 | have F := F5.below F B1 | have F := F5.below F.drew B1); obtain ⟨⟨⟨v0, g0⟩, ⟨v1, g1⟩, ⟨v2, g2⟩, ⟨v3, g3⟩⟩, k0, k1, k2, k3⟩ := F.facts; have H := hid ((H.out.next (by repeat (first | exact Below.refl _ _ | apply Below.drew | apply below_drewN | (refine Below.alloc ?_ (by simp <;> omega) _) | (refine Below.setCell ?_ (by simp <;> omega) _)))).next B1); have nb := H.out.ne HN.out; have nl := H.out.res.lt; clear B1))
    all_goals (go_wp2_with fail; go_meet)
    all_goals (refine ⟨_, rfl, ?_⟩; first | exact Mid.ofAlloc H.out | exact Mid.ofStore H.out F (by assumption) (by first | assumption | omega))
  case rest =>
    obtain ⟨b, rfl, M⟩ := hcut
    have hsz := M.st.big
    have m0 := M.c0; have m1 := M.c1; have m2 := M.c2; have m3 := M.c3
    have HM : Hid (Mid w bd n d p q x pt b wc) := M
    have hx0 : 0 ≤ x := by have h0 := M.st.six.ok 0; have h1 := M.st.six.ok 1; have h2 := M.st.six.ok 2; have h3 := M.st.six.ok 3; rw [← HX.out]; unfold num4; omega
    have hp0 : 0 ≤ pt := by have h0 := M.st.six.ok 4; have h1 := M.st.six.ok 5; rw [← HP.out]; omega
    clear M F harr
    go_wp2_with fail
    refine (apAddr x pt p _).mono ?_
    rintro e w1 ⟨rfl, B1⟩
    have M1 := HM.out.next B1
    clear m0 m1 m2 m3 B1
    by_cases hxz : x = 0
    · subst hxz
      go_wp2_with fail
      refine (isU_zero p w1 M1.st.six.z).mono ?_
      rintro e w2 ⟨rfl, B2⟩
      have M2 := M1.next B2
      obtain ⟨⟨⟨v0, g0⟩, ⟨v1, g1⟩, ⟨v2, g2⟩, ⟨v3, g3⟩⟩, k0, k1, k2, k3⟩ := M2.st.res.facts
      have hb := M2.st.bel
      obtain ⟨t0, t1, t2, t3⟩ := stored_t M2.st.res (.int .u64 0) (.int .u64 0) (.pointer none) (.int .u16 0)
      clear M1 M2 B2
      go_wp2_with fail
      try simp only [Exit.inBlock, Exit.then]
      refine bodyPost_ret (by simp [results, Tryd.results23, go_sem, t0, t1, t2, t3]; try rfl) rfl ?_
      exact .inl ⟨.inl rfl, rfl, (((hb.setCell (p := ⟨w.heap.size, 0, none⟩) (Nat.le_refl _) _).setCell (p := ⟨w.heap.size, 1, none⟩) (Nat.le_refl _) _).setCell (p := ⟨w.heap.size, 2, none⟩) (Nat.le_refl _) _).setCell (p := ⟨w.heap.size, 3, none⟩) (Nat.le_refl _) _⟩
    · go_wp2_with fail
      refine (isU_other x p q w1 (by omega) M1.st.six.z M1.st.six.z6).mono ?_
      rintro e w2 ⟨rfl, B2⟩
      have M2 := M1.next B2
      have m0 := M2.c0; have m1 := M2.c1; have m2 := M2.c2; have m3 := M2.c3
      have HM2 : Hid (Mid w bd n d p q x pt b w2) := M2
      clear M1 M2 B2
      go_wp2_with fail
      refine (apPort x pt p _).mono ?_
      rintro e w3 ⟨rfl, rfl⟩
      have M3 := HM2.out.next ((Below.refl _ w2).alloc (Nat.le_refl _) (.cells #[.int .u64 0, .int .u64 (281470681743360 + x), .pointer (some p), .int .u16 pt] 34))
      clear m0 m1 m2 m3 HM2 HM
      generalize w2.alloc (.cells #[.int .u64 0, .int .u64 (281470681743360 + x), .pointer (some p), .int .u16 pt] 34) = w4 at M3 ⊢
      obtain ⟨⟨⟨v0, g0⟩, ⟨v1, g1⟩, ⟨v2, g2⟩, ⟨v3, g3⟩⟩, k0, k1, k2, k3⟩ := M3.st.res.facts
      have hb := M3.st.bel
      have m0 := M3.c0; have m1 := M3.c1; have m2 := M3.c2; have m3 := M3.c3
      have hne : b ≠ w.heap.size := by have := M3.ne; omega
      have HF : Hid (F5 w.heap.size w4) := M3.st.res
      clear M3
      by_cases hpz : pt = 0
      · subst hpz
        obtain ⟨t0, t1, t2, t3⟩ := stored_t HF.out (.int .u64 0) (.int .u64 0) (.pointer none) (.int .u16 0)
        go_wp2_with fail
        try simp only [Exit.inBlock, Exit.then]
        refine bodyPost_ret (by simp [results, Tryd.results23, go_sem, t0, t1, t2, t3]; try rfl) rfl ?_
        exact .inl ⟨.inr rfl, rfl, (((hb.setCell (p := ⟨w.heap.size, 0, none⟩) (Nat.le_refl _) _).setCell (p := ⟨w.heap.size, 1, none⟩) (Nat.le_refl _) _).setCell (p := ⟨w.heap.size, 2, none⟩) (Nat.le_refl _) _).setCell (p := ⟨w.heap.size, 3, none⟩) (Nat.le_refl _) _⟩
      · have hpb : (pt == 0) = false := by simpa using hpz
        obtain ⟨t0, t1, t2, t3⟩ := stored_t HF.out (.int .u64 0) (.int .u64 (281470681743360 + x)) (.pointer (some p)) (.int .u16 pt)
        go_wp2_with fail
        go_region_held3 (fun w' => w'.cell? ⟨b, 0, none⟩ = some (.int .u64 0) ∧ w'.cell? ⟨b, 1, none⟩ = some (.int .u64 (281470681743360 + x)) ∧ w'.cell? ⟨b, 2, none⟩ = some (.pointer (some p)) ∧ w'.cell? ⟨b, 3, none⟩ = some (.int .u16 pt))
          (first | (simp only [World.cell?_drew]; with_reducible exact keepStore ⟨m0, m1, m2, m3⟩ hne) | go_keep) (fail)
        go_wp2_with fail
        all_goals (try simp only [Exit.inBlock, Exit.then])
        all_goals (refine bodyPost_ret (by simp [results, Tryd.results23, go_sem, t0, t1, t2, t3]; try rfl) rfl ?_)
        all_goals (refine .inr ⟨⟨by omega, by omega⟩, ?_, ((((hb.setCell (p := ⟨w.heap.size, 0, none⟩) (Nat.le_refl _) _).setCell (p := ⟨w.heap.size, 1, none⟩) (Nat.le_refl _) _).setCell (p := ⟨w.heap.size, 2, none⟩) (Nat.le_refl _) _).setCell (p := ⟨w.heap.size, 3, none⟩) (Nat.le_refl _) _).drew⟩)
        all_goals (first | rfl | (simp [addrP, *]; done))
end Go.Proofs.Qxb6613740aDoor
