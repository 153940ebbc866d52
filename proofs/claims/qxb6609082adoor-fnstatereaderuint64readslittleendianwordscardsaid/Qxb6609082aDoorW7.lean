import Derived.Test.Qxb6609082aDoorW6
import Derived.Lib.Endian
import Derived.Lib.EndianBits
namespace Go.Proofs.Qxb6609082aDoor
open Go Go.RowKit
attribute [local go_sem ↓] Go.wp_at_zero Go.wp_at_succ

theorem read_end18 {bs bb bf br bh bp : Nat} {sa : Option Addr} {d : Nat → Int} {n i k : Nat} {h : Int} {er : Value} {w w1 : World} (s : SR bs bb bf br bh sa d n i h w) (hi : 8 * i ≤ n) (_hpl : bp < w.heap.size)
    (g0 : bp ≠ bs) (_g1 : bp ≠ bb) (_g2 : bp ≠ bf) (_g3 : bp ≠ br) (g4 : bp ≠ bh) (_g5 : ∀ bd, sa = some ⟨bd, 0, none⟩ → bd ≠ bp) (hL : L22 bb bf br bp sa d n (8 * i) k w w1)
    (hr : (k = 8 ∧ er = .nilIface) ∨ (k < 8 ∧ 8 * i + k = n ∧ ∃ t x, er = .iface t x)) (hby : ∀ j, j < 8 → (w1.setCell ⟨bs, 5, none⟩ er).cell? ⟨bp, j, none⟩ = some (.int .u8 (pad d n (8 * i + j)))) :
    R18 bs bb bf br bh bp sa d n i h w (.returned (.tuple #[])) ((w1.setCell ⟨bs, 5, none⟩ er).setCell ⟨bh, 0, none⟩ (.int .u64 (fnvN (fun j => pad d n (8 * i + j)) h 8))) := by
  obtain ⟨o1, o2, o3, o4, o5, o6, o7⟩ := s.own
  have S1 : Kept [bb, bf, br, bp] w w1 := hL.kept
  have nS : bs ∉ [bb, bf, br, bp] := by simp; exact ⟨o1, o2, o3, fun e => g0 e.symm⟩
  have nH : bh ∉ [bb, bf, br, bp] := by simp; exact ⟨o5, o6, o7, fun e => g4 e.symm⟩
  have c0' := (S1.cell (p := ⟨bs, 0, none⟩) s.ls nS).trans s.c0
  have c1' := (S1.cell (p := ⟨bs, 1, none⟩) s.ls nS).trans s.c1
  have f5' := (S1.frozen (p := ⟨bs, 5, none⟩) s.ls nS).trans s.fs
  have hc' := (S1.cell (p := ⟨bh, 0, none⟩) s.lh nH).trans s.hc
  have fh' := (S1.frozen (p := ⟨bh, 0, none⟩) s.lh nH).trans s.fh
  have c5' : ∃ v, w1.cell? ⟨bs, 5, none⟩ = some v := by
    rcases s.err with ⟨_, b, _⟩ | ⟨_, t, x, b⟩
    · exact ⟨_, (S1.cell (p := ⟨bs, 5, none⟩) s.ls nS).trans b⟩
    · exact ⟨_, (S1.cell (p := ⟨bs, 5, none⟩) s.ls nS).trans b⟩
  obtain ⟨v5, c5'⟩ := c5'
  have K1 : Kept [bs, bh] w1 ((w1.setCell ⟨bs, 5, none⟩ er).setCell ⟨bh, 0, none⟩ (.int .u64 (fnvN (fun j => pad d n (8 * i + j)) h 8))) := ((Kept.refl _ _).setCell (p := ⟨bs, 5, none⟩) (by simp) _).setCell (p := ⟨bh, 0, none⟩) (by simp) _
  have x5 : ((w1.setCell ⟨bs, 5, none⟩ er).setCell ⟨bh, 0, none⟩ (.int .u64 (fnvN (fun j => pad d n (8 * i + j)) h 8))).cell? ⟨bs, 5, none⟩ = some er := by
    rw [World.cell?_setCell_other _ _ _ _ (fun e => o4 (by injection e with e1 _ _; exact e1.symm))]
    exact World.cell?_setCell_same _ _ _ c5'
  refine ⟨rfl, ?_, ⟨?_, ?_, ?_, ?_, ?_, ?_, ?_, ?_, s.own, s.dn, s.lo, ?_⟩, ?_⟩
  · exact (S1.mono (fun x hx => by simp at hx ⊢; rcases hx with h | h | h | h <;> simp [h])).trans (K1.mono (fun x hx => by simp at hx ⊢; rcases hx with h | h <;> simp [h]))
  · rw [World.cell?_setCell_other _ _ _ _ (fun e => o4 (by injection e with e1 _ _; exact e1.symm)), World.cell?_setCell_other _ _ _ _ (off_ne (by decide))]
    exact c0'
  · rw [World.cell?_setCell_other _ _ _ _ (fun e => o4 (by injection e with e1 _ _; exact e1.symm)), World.cell?_setCell_other _ _ _ _ (off_ne (by decide))]
    exact c1'
  · rcases hr with ⟨rfl, rfl⟩ | ⟨hk, hpn, t, x, rfl⟩
    · refine .inl ⟨by have := hL.hin; omega, x5, ?_⟩
      obtain ⟨r, q, hR⟩ := hL.rd
      exact ⟨r, q, hR.keep K1 (by simp; exact ⟨fun e => o1 e.symm, fun e => o5 e.symm⟩) (by simp; exact ⟨fun e => o2 e.symm, fun e => o6 e.symm⟩) (by simp; exact ⟨fun e => o3 e.symm, fun e => o7 e.symm⟩) (fun bd e => by simpa using s.dn bd e)⟩
    · exact .inr ⟨by omega, t, x, x5⟩
  · rw [show fnvI d n i h = fnvN (fun j => pad d n (8 * i + j)) h 8 by unfold fnvI; rw [if_pos hi]]
    exact World.cell?_setCell_same _ _ _ ((World.cell?_setCell_other _ _ _ _ (fun e => o4 (by injection e))).trans hc')
  · rw [World.frozen?_setCell, World.frozen?_setCell]; exact f5'
  · rw [World.frozen?_setCell, World.frozen?_setCell]; exact fh'
  · exact Nat.lt_of_lt_of_le (Nat.lt_of_lt_of_le s.ls S1.size) K1.size
  · exact Nat.lt_of_lt_of_le (Nat.lt_of_lt_of_le s.lh S1.size) K1.size
  · have hz := Nat.le_trans S1.size K1.size
    exact ⟨Nat.lt_of_lt_of_le s.lb.1 hz, Nat.lt_of_lt_of_le s.lb.2.1 hz, Nat.lt_of_lt_of_le s.lb.2.2.1 hz, fun bd e => Nat.lt_of_lt_of_le (s.lb.2.2.2 bd e) hz⟩
  · intro j hj
    rw [World.cell?_setCell_other _ _ _ _ (fun e => g4 (by injection e with e1 _ _; exact e1.symm))]
    exact hby j hj

set_option maxHeartbeats 1000000 in
theorem readS_good (bs bb bf br bh bp : Nat) (sa : Option Addr) (d : Nat → Int) (n i : Nat) (h : Int) (ae : Addr) (u3 : TypeId) (v3 : Value) (w : World) (s : SR bs bb bf br bh sa d n i h w) (hi : 8 * i ≤ n) (hn : n ≤ 131072) (hp : ∀ j, j < 8 → w.cell? ⟨bp, j, none⟩ = some (.int .u8 0))
    (hpf : ∀ j, w.frozen? ⟨bp, j, none⟩ = false) (hpl : bp < w.heap.size) (g0 : bp ≠ bs) (g1 : bp ≠ bb) (g2 : bp ≠ bf) (g3 : bp ≠ br) (g4 : bp ≠ bh) (g5 : ∀ bd, sa = some ⟨bd, 0, none⟩ → bd ≠ bp) (g6 : 3 < bp)
    (hg : w.cell? ⟨2, 0, none⟩ = some (.iface 69 (.pointer (some ae)))) (hu : w.cell? ⟨3, 0, none⟩ = some (.iface u3 v3)) :
    Calls Tryd.prog 18 #[.pointer (some ⟨bs, 0, none⟩), .slice (some ⟨bp, 0, none⟩) 8 8] w (R18 bs bb bf br bh bp sa d n i h w) := by
  have hs : w.cell? ⟨bs, 5, none⟩ = some .nilIface ∧ ∃ r q, Rd bb bf br sa d n (8 * i) r q w := by
    rcases s.err with ⟨_, b⟩ | ⟨a, _⟩
    · exact b
    · omega
  obtain ⟨he, r, q, hR⟩ := id hs
  have c0 := s.c0; have c1 := s.c1; have fs := s.fs
  obtain ⟨l0, l1, l2, l3, l4⟩ := s.lo
  obtain ⟨o1, o2, o3, o4, o5, o6, o7⟩ := s.own
  have hroom : Room bp 0 8 w := ⟨fun j hj => ⟨_, by rw [Nat.zero_add]; exact hp j hj⟩, hpf, hpl⟩
  have hgs : ∀ x, x ≤ 3 → x ≠ bb ∧ x ≠ bf ∧ x ≠ br ∧ x ≠ bp := fun x hx => by omega
  have hsz : 3 < w.heap.size := by have := s.ls; omega
  have F := full_any bb bf br bp sa d n (8 * i) r q ae u3 v3 w hR hn g1 g2 g3 g5 hroom hg hu hgs hsz
  have HP : Hid (∀ j, j < 8 → w.cell? ⟨bp, j, none⟩ = some (.int .u8 0)) := hp
  clear hp hpf hroom
  go_enter Tryd.func18, Tryd.ntmps18
  go_wp2_with fail
  refine F.mono ?_
  rintro e w1 ⟨k, er, rfl, hL, hr⟩
  have S1 : Kept [bb, bf, br, bp] w w1 := hL.kept
  have nS : bs ∉ [bb, bf, br, bp] := by simp; exact ⟨o1, o2, o3, fun e => g0 e.symm⟩
  have nH : bh ∉ [bb, bf, br, bp] := by simp; exact ⟨o5, o6, o7, fun e => g4 e.symm⟩
  have c0' := (S1.cell (p := ⟨bs, 0, none⟩) s.ls nS).trans c0
  have c1' := (S1.cell (p := ⟨bs, 1, none⟩) s.ls nS).trans c1
  have c5' := (S1.cell (p := ⟨bs, 5, none⟩) s.ls nS).trans he
  have f5' := (S1.frozen (p := ⟨bs, 5, none⟩) s.ls nS).trans fs
  have hc' := (S1.cell (p := ⟨bh, 0, none⟩) s.lh nH).trans s.hc
  have fh' := (S1.frozen (p := ⟨bh, 0, none⟩) s.lh nH).trans s.fh
  have hbh : ∀ er, (w1.setCell ⟨bs, 5, none⟩ er).cell? ⟨bh, 0, none⟩ = some (.int .u64 h) := fun er => (World.cell?_setCell_other _ _ _ _ (fun e => o4 (by injection e))).trans hc'
  have hfh : ∀ er, (w1.setCell ⟨bs, 5, none⟩ er).frozen? ⟨bh, 0, none⟩ = false := fun er => by rw [World.frozen?_setCell]; exact fh'
  have hby : ∀ er, ∀ j, j < 8 → (w1.setCell ⟨bs, 5, none⟩ er).cell? ⟨bp, j, none⟩ = some (.int .u8 (pad d n (8 * i + j))) := by
    intro er j hj
    rw [World.cell?_setCell_other _ _ _ _ (fun e => g0 (by injection e with e1 _ _; exact e1.symm))]
    unfold pad
    by_cases hjk : j < k
    · rw [if_pos (by have := hL.hin; omega)]
      exact hL.cells j hjk
    · rw [if_neg (by have := hL.hin; omega), hL.rest j (by omega)]
      exact HP.out j hj
  have HB : Hid (∀ er, ∀ j, j < 8 → (w1.setCell ⟨bs, 5, none⟩ er).cell? ⟨bp, j, none⟩ = some (.int .u8 (pad d n (8 * i + j)))) := hby
  clear hby
  have E : Hid (R18 bs bb bf br bh bp sa d n i h w (.returned (.tuple #[])) ((w1.setCell ⟨bs, 5, none⟩ er).setCell ⟨bh, 0, none⟩ (.int .u64 (fnvN (fun j => pad d n (8 * i + j)) h 8)))) := read_end18 s hi hpl g0 g1 g2 g3 g4 g5 hL hr (HB.out er)
  rcases hr with ⟨rfl, rfl⟩ | ⟨hk, hpn, t, x, rfl⟩
  · go_wp2_with fail
    refine (write_any bh bp (fun j => pad d n (8 * i + j)) h _ (hbh _) (hfh _) (HB.out _)).mono ?_
    rintro e w2 ⟨rfl, rfl⟩
    go_wp2_with fail
    go_returns
    exact E.out
  · go_wp2_with fail
    refine (write_any bh bp (fun j => pad d n (8 * i + j)) h _ (hbh _) (hfh _) (HB.out _)).mono ?_
    rintro e w2 ⟨rfl, rfl⟩
    go_wp2_with fail
    go_returns
    exact E.out
end Go.Proofs.Qxb6609082aDoor
