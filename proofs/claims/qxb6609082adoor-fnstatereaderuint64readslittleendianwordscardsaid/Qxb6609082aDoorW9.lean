import Derived.Test.Qxb6609082aDoorW8
namespace Go.Proofs.Qxb6609082aDoor
open Go Go.RowKit
attribute [local go_sem ↓] Go.wp_at_zero Go.wp_at_succ

/-- The word that read number i answers. -/
def wordAt (d : Nat → Int) (n i : Nat) : Int := word8 fun j => pad d n (8 * i + j)

/-- uint64's answer. -/
def R16 (bs bb bf br bh : Nat) (sa : Option Addr) (d : Nat → Int) (n i : Nat) (h : Int) (w : World) (e : Ending) (w' : World) : Prop :=
  e = .returned (.int .u64 (wordAt d n i)) ∧ Kept [bs, bb, bf, br, bh] w w' ∧ SR bs bb bf br bh sa d n (i + 1) (fnvI d n i h) w'

/-- What every reader is told of the world. -/
structure Env (ae : Addr) (u3 : TypeId) (v3 : Value) (w : World) : Prop where
  e2 : w.cell? ⟨2, 0, none⟩ = some (.iface 69 (.pointer (some ae)))
  e3 : w.cell? ⟨3, 0, none⟩ = some (.iface u3 v3)
  sz : 3 < w.heap.size

theorem Env.keep {ae : Addr} {u3 : TypeId} {v3 : Value} {w w' : World} {S : List Nat} (h : Env ae u3 v3 w) (k : Kept S w w') (hs : ∀ x, x ∈ S → 3 < x) : Env ae u3 v3 w' where
  e2 := (k.cell (p := ⟨2, 0, none⟩) (by have := h.sz; show 2 < _; omega) (fun e => by have := hs 2 e; omega)).trans h.e2
  e3 := (k.cell (p := ⟨3, 0, none⟩) h.sz (fun e => by have := hs 3 e; omega)).trans h.e3
  sz := Nat.lt_of_lt_of_le h.sz k.size

theorem readS_any (bs bb bf br bh bp : Nat) (sa : Option Addr) (d : Nat → Int) (n i : Nat) (h : Int) (ae : Addr) (u3 : TypeId) (v3 : Value) (w : World) (s : SR bs bb bf br bh sa d n i h w) (hn : n ≤ 131072) (hp : ∀ j, j < 8 → w.cell? ⟨bp, j, none⟩ = some (.int .u8 0))
    (hpf : ∀ j, w.frozen? ⟨bp, j, none⟩ = false) (hpl : bp < w.heap.size) (g0 : bp ≠ bs) (g1 : bp ≠ bb) (g2 : bp ≠ bf) (g3 : bp ≠ br) (g4 : bp ≠ bh) (g5 : ∀ bd, sa = some ⟨bd, 0, none⟩ → bd ≠ bp) (g6 : 3 < bp) (E : Env ae u3 v3 w) :
    Calls Tryd.prog 18 #[.pointer (some ⟨bs, 0, none⟩), .slice (some ⟨bp, 0, none⟩) 8 8] w (R18 bs bb bf br bh bp sa d n i h w) := by
  by_cases hi : 8 * i ≤ n
  · exact readS_good bs bb bf br bh bp sa d n i h ae u3 v3 w s hi hn hp hpf hpl g0 g1 g2 g3 g4 g5 g6 E.e2 E.e3
  · exact readS_bad bs bb bf br bh bp sa d n i h w s (by omega) hp hpf g0 g1 g2 g3 g4 g5

theorem pad_ok {d : Nat → Int} (hd : ∀ j, 0 ≤ d j ∧ d j < 256) (n t : Nat) : 0 ≤ pad d n t ∧ pad d n t < 256 := by
  unfold pad
  split
  · exact hd t
  · omega

set_option maxHeartbeats 1000000 in
theorem uint_any (bs bb bf br bh : Nat) (sa : Option Addr) (d : Nat → Int) (n i : Nat) (h : Int) (ae : Addr) (u3 : TypeId) (v3 : Value) (w : World) (s : SR bs bb bf br bh sa d n i h w) (hn : n ≤ 131072) (hd : ∀ j, 0 ≤ d j ∧ d j < 256) (E : Env ae u3 v3 w) :
    Calls Tryd.prog 16 #[.pointer (some ⟨bs, 0, none⟩)] w (R16 bs bb bf br bh sa d n i h w) := by
  obtain ⟨q1, q2, q3, qd⟩ := s.lb
  obtain ⟨t0, t1, t2, t3, t4⟩ := s.lo
  have q0 := s.ls; have q4 := s.lh; have q5 := E.sz
  obtain ⟨o1, o2, o3, o4, o5, o6, o7⟩ := s.own
  have KA : Kept [] w (w.alloc (.cells #[.int .u8 0, .int .u8 0, .int .u8 0, .int .u8 0, .int .u8 0, .int .u8 0, .int .u8 0, .int .u8 0] 57)) := (Kept.refl _ _).alloc _
  have sA := s.keep KA (by simp) (by simp) (by simp) (by simp) (by simp) (by simp)
  have EA := E.keep KA (by simp)
  have pA : ∀ j, j < 8 → (w.alloc (.cells #[.int .u8 0, .int .u8 0, .int .u8 0, .int .u8 0, .int .u8 0, .int .u8 0, .int .u8 0, .int .u8 0] 57)).cell? ⟨w.heap.size, j, none⟩ = some (.int .u8 0) := by
    intro j hj
    have : j = 0 ∨ j = 1 ∨ j = 2 ∨ j = 3 ∨ j = 4 ∨ j = 5 ∨ j = 6 ∨ j = 7 := by omega
    rcases this with rfl | rfl | rfl | rfl | rfl | rfl | rfl | rfl <;> go_simp
  have fA : ∀ j, (w.alloc (.cells #[.int .u8 0, .int .u8 0, .int .u8 0, .int .u8 0, .int .u8 0, .int .u8 0, .int .u8 0, .int .u8 0] 57)).frozen? ⟨w.heap.size, j, none⟩ = false := by
    intro j
    go_simp
  have C := readS_any bs bb bf br bh w.heap.size sa d n i h ae u3 v3 _ sA hn pA fA (by simp) (by omega) (by omega) (by omega) (by omega) (by omega) (fun bd e => by have := qd bd e; omega) q5 EA
  clear pA fA sA EA
  go_enter Tryd.func16, Tryd.ntmps16
  go_wp2_with fail
  refine C.mono ?_
  rintro e w1 ⟨rfl, K1, s1, hc1⟩
  have HC : Hid (∀ j, j < 8 → w1.drew.cell? ⟨w.heap.size, j, none⟩ = some (.int .u8 (pad d n (8 * i + j)))) := hc1
  clear hc1
  go_wp2_with fail
  go_region_held3 (fun _ => True) (trivial)
    (first | (go_at_call 19; refine (le_any w.heap.size (fun j => pad d n (8 * i + j)) _ (fun j => pad_ok hd n _) HC.out).mono ?_; rintro e w2 ⟨rfl, hb2⟩))
  go_wp2_with fail
  go_ret
  have K2 : Kept [bs, bb, bf, br, bh] w1 w2 := (Kept.refl _ w1).drew.trans (Kept.ofBelow hb2)
  refine ⟨rfl, Kept.trans ?_ K2, s1.keep (S := []) ((Kept.refl _ w1).drew.trans (Kept.ofBelow hb2)) (by simp) (by simp) (by simp) (by simp) (by simp) (by simp)⟩
  refine ⟨K1.os, K1.tape, K1.output, Nat.le_trans KA.size K1.size, fun k hk hs => ?_⟩
  rw [K1.block k (Nat.lt_of_lt_of_le hk KA.size) (by simp at hs ⊢; omega)]
  exact KA.block k hk (by simp)

def R9 (w : World) (b : Bool) (e : Ending) (w' : World) : Prop := e = .returned (.bool b) ∧ w' = w

theorem failed_any (bs bb bf br bh : Nat) (sa : Option Addr) (d : Nat → Int) (n i : Nat) (h : Int) (w : World) (s : SR bs bb bf br bh sa d n i h w) :
    Calls Tryd.prog 9 #[.pointer (some ⟨bs, 0, none⟩)] w (R9 w (decide (n < 8 * i))) := by
  rcases s.err with ⟨hi, he, _⟩ | ⟨hi, t, x, he⟩
  · have hb : decide (n < 8 * i) = false := by simp; omega
    rw [hb]
    go_enter Tryd.func9, Tryd.ntmps9
    go_wp2_with fail
    go_ret
    exact ⟨rfl, rfl⟩
  · have hb : decide (n < 8 * i) = true := by simp; omega
    rw [hb]
    go_enter Tryd.func9, Tryd.ntmps9
    go_wp2_with fail
    go_ret
    exact ⟨rfl, rfl⟩

theorem zzuint_any (bs bb bf br bh : Nat) (sa : Option Addr) (d : Nat → Int) (n i : Nat) (h : Int) (ae : Addr) (u3 : TypeId) (v3 : Value) (w : World) (s : SR bs bb bf br bh sa d n i h w) (hn : n ≤ 131072) (hd : ∀ j, 0 ≤ d j ∧ d j < 256) (E : Env ae u3 v3 w) :
    Calls Tryd.prog 8 #[.pointer (some ⟨bs, 0, none⟩)] w (R16 bs bb bf br bh sa d n i h w) := by
  go_enter Tryd.func8, Tryd.ntmps8
  go_wp2_with fail
  refine (uint_any bs bb bf br bh sa d n i h ae u3 v3 w s hn hd E).mono ?_
  rintro e w1 ⟨rfl, h1, h2⟩
  go_wp2_with fail
  go_ret
  exact ⟨rfl, h1, h2⟩
end Go.Proofs.Qxb6609082aDoor
