import Derived.Test.Qxb6613740aDoorW8
namespace Go.Proofs.Qxb6613740aDoor
open Go Go.RowKit

theorem zread_short (sa : Option Addr) (n c : Nat) (w : World) (hn : n < 6) : Calls Tryd.prog 7 #[.slice sa n c] w (RBad w) := by
  go_enter Tryd.func7, Tryd.ntmps7
  go_wp2_with fail
  refine (read_short sa n c _ hn).mono ?_
  rintro e w1 ⟨rfl, B1⟩
  have F := (F5.alloc w).below B1
  obtain ⟨⟨⟨v0, g0⟩, ⟨v1, g1⟩, ⟨v2, g2⟩, ⟨v3, g3⟩⟩, k0, k1, k2, k3⟩ := F.facts
  obtain ⟨t0, t1, t2, t3⟩ := stored_t F (.int .u64 0) (.int .u64 0) (.pointer none) (.int .u16 0)
  have hb : Below w.heap.size w w1 := ((Below.refl _ w).alloc (Nat.le_refl _) _).trans (B1.mono (by simp))
  clear F B1
  unfold zeroP
  go_wp2_with fail
  try simp only [Exit.inBlock, Exit.then]
  refine bodyPost_ret (by simp [results, Tryd.results7, go_sem, t0, t1, t2, t3]; try rfl) rfl ?_
  exact ⟨rfl, (((hb.setCell (p := ⟨w.heap.size, 0, none⟩) (Nat.le_refl _) _).setCell (p := ⟨w.heap.size, 1, none⟩) (Nat.le_refl _) _).setCell (p := ⟨w.heap.size, 2, none⟩) (Nat.le_refl _) _).setCell (p := ⟨w.heap.size, 3, none⟩) (Nat.le_refl _) _⟩

set_option maxHeartbeats 1000000 in
theorem zread_long (bd n : Nat) (d : Nat → Int) (p q : Addr) (w : World) (x pt : Int) (hn : 6 ≤ n) (hm : n ≤ 65536) (h : Six bd n d p q w) (hx : num4 (d 0) (d 1) (d 2) (d 3) = x) (hp : d 4 * 256 + d 5 = pt) :
    Calls Tryd.prog 7 #[.slice (some ⟨bd, 0, none⟩) n n] w (R23 bd n x pt p w) := by
  have C := read_long bd n d p q (w.alloc (.cells #[.int .u64 0, .int .u64 0, .pointer none, .int .u16 0] 34)) x pt hn hm (h.below ((Below.refl _ w).alloc (Nat.le_refl _) _)) hx hp
  clear h hx hp hn hm
  go_enter Tryd.func7, Tryd.ntmps7
  go_wp2_with fail
  refine C.mono ?_
  rintro e w1 (⟨hc, rfl, B1⟩ | ⟨hc, rfl, B1⟩)
  · have F := (F5.alloc w).below B1
    obtain ⟨⟨⟨v0, g0⟩, ⟨v1, g1⟩, ⟨v2, g2⟩, ⟨v3, g3⟩⟩, k0, k1, k2, k3⟩ := F.facts
    obtain ⟨t0, t1, t2, t3⟩ := stored_t F (.int .u64 0) (.int .u64 0) (.pointer none) (.int .u16 0)
    have hb : Below w.heap.size w w1 := ((Below.refl _ w).alloc (Nat.le_refl _) _).trans (B1.mono (by simp))
    have HC : Hid (x = 0 ∨ pt = 0) := hc
    clear F B1 C hc
    unfold zeroP
    go_wp2_with fail
    try simp only [Exit.inBlock, Exit.then]
    refine bodyPost_ret (by simp [results, Tryd.results7, go_sem, t0, t1, t2, t3]; try rfl) rfl ?_
    exact .inl ⟨HC.out, rfl, (((hb.setCell (p := ⟨w.heap.size, 0, none⟩) (Nat.le_refl _) _).setCell (p := ⟨w.heap.size, 1, none⟩) (Nat.le_refl _) _).setCell (p := ⟨w.heap.size, 2, none⟩) (Nat.le_refl _) _).setCell (p := ⟨w.heap.size, 3, none⟩) (Nat.le_refl _) _⟩
  · have F := (F5.alloc w).below B1
    obtain ⟨⟨⟨v0, g0⟩, ⟨v1, g1⟩, ⟨v2, g2⟩, ⟨v3, g3⟩⟩, k0, k1, k2, k3⟩ := F.facts
    obtain ⟨t0, t1, t2, t3⟩ := stored_t F (.int .u64 0) (.int .u64 (281470681743360 + x)) (.pointer (some p)) (.int .u16 pt)
    have hb : Below w.heap.size w w1 := ((Below.refl _ w).alloc (Nat.le_refl _) _).trans (B1.mono (by simp))
    have HC : Hid (0 < x ∧ 0 < pt) := hc
    clear F B1 C hc
    obtain ⟨ra, hra⟩ : ∃ ra : Option Addr, ra = if n = 6 then some ⟨bd, 0, none⟩ else some ⟨bd, 6, none⟩ := ⟨_, rfl⟩
    have HR : Hid (ra = if n = 6 then some ⟨bd, 0, none⟩ else some ⟨bd, 6, none⟩) := hra
    rw [← hra]
    clear hra
    unfold addrP
    go_wp2_with fail
    try simp only [Exit.inBlock, Exit.then]
    refine bodyPost_ret (by simp [results, Tryd.results7, go_sem, t0, t1, t2, t3]; try rfl) rfl ?_
    refine .inr ⟨HC.out, ?_, (((hb.setCell (p := ⟨w.heap.size, 0, none⟩) (Nat.le_refl _) _).setCell (p := ⟨w.heap.size, 1, none⟩) (Nat.le_refl _) _).setCell (p := ⟨w.heap.size, 2, none⟩) (Nat.le_refl _) _).setCell (p := ⟨w.heap.size, 3, none⟩) (Nat.le_refl _) _⟩
    rw [← HR.out]
    rfl

def RBool (w : World) (e : Ending) (w' : World) : Prop := ∃ b, e = .returned (.bool b) ∧ w' = w

theorem bytes6_any (a : Option Addr) (n c : Nat) (w : World) (hn : n ≤ maxLen) : Calls Tryd.prog 6 #[.slice a n c] w (RBool w) := by
  unfold maxLen at hn
  by_cases h : (1048576 : Int) < (n : Int)
  · go_enter Tryd.func6, Tryd.ntmps6
    go_wp2
    go_ret
    exact ⟨_, rfl, rfl⟩
  · go_enter Tryd.func6, Tryd.ntmps6
    go_wp2
    go_ret
    exact ⟨_, rfl, rfl⟩
end Go.Proofs.Qxb6613740aDoor
