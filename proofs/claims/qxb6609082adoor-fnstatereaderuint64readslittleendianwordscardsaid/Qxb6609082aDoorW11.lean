import Derived.Test.Qxb6609082aDoorW10
namespace Go.Proofs.Qxb6609082aDoor
open Go Go.RowKit

theorem run_eql22 (w : World) (a : Option Addr) (n c : Nat) : (binOp .eql 22 (.slice a n c) (.slice none 0 0)).run Tryd.prog w = .ok (.bool a.isNone) w := by
  have h : ∀ d, (Op.equalIn (d + 1) 22 (.slice a n c) (.slice none 0 0)).run Tryd.prog w = .ok a.isNone w := fun d => by
    cases a <;> simp [Op.equalIn, run_underlying Tryd.underlying22]
  simp only [binOp]
  simp [Op.equal, Op.maxDepth, h 9999]

/-- A slice of n bytes that came in. -/
def In22 (w : World) (a : Option Addr) (d : Nat → Int) (n : Nat) : Prop :=
  (a = none ∧ n = 0) ∨ ∃ x : Addr, a = some x ∧ ∀ j, j < n → x.spot = none ∧ x.block < w.heap.size ∧ w.cell? ⟨x.block, x.off + j, none⟩ = some (.int .u8 (d j))

/-- The row of the call's own, k bytes filled in. -/
structure Fill (B : Nat) (d : Nat → Int) (n k : Nat) (wr : World) : Prop where
  cell : ∀ j, j < n → wr.cell? ⟨B, j, none⟩ = some (.int .u8 (if j < k then d j else 0))
  fr : ∀ j, wr.frozen? ⟨B, j, none⟩ = false
  lt : B < wr.heap.size

theorem Fill.made (w : World) (d : Nat → Int) (n : Nat) : Fill w.heap.size d n 0 (w.alloc (madeB n)) where
  cell := fun j hj => by rw [madeB_cell w n j hj]; simp
  fr := fun j => madeB_frozen w n j
  lt := by simp

theorem Fill.step {B : Nat} {d : Nat → Int} {n k : Nat} {wr : World} (h : Fill B d n k wr) (hk : k < n) : Fill B d n (k + 1) (wr.setCell ⟨B, k, none⟩ (.int .u8 (d k))) where
  cell := fun j hj => by
    by_cases e : j = k
    · subst e
      rw [World.cell?_setCell_same _ _ _ (h.cell j hj), if_pos (by omega)]
    · rw [World.cell?_setCell_other _ _ _ _ (off_ne (by omega)), h.cell j hj]
      congr 2
      by_cases hjk : j < k
      · rw [if_pos hjk, if_pos (by omega)]
      · rw [if_neg hjk, if_neg (by omega)]
  fr := fun j => by rw [World.frozen?_setCell]; exact h.fr j
  lt := by simpa using h.lt

/-- zzCloneBytes' answer. -/
def R6 (d : Nat → Int) (n : Nat) (w : World) (e : Ending) (w' : World) : Prop :=
  ∃ sa, e = .returned (.slice sa n n) ∧ Below w.heap.size w w' ∧ Src sa d n w' ∧ ∀ bd, sa = some ⟨bd, 0, none⟩ → w.heap.size ≤ bd

set_option maxHeartbeats 1000000 in
theorem clone_any (a : Option Addr) (d : Nat → Int) (n c : Nat) (w : World) (hc0 : a = none → c = 0) (hn : n ≤ 1048576) (h : In22 w a d n) : Calls Tryd.prog 6 #[.slice a n c] w (R6 d n w) := by
  have hq := run_eql22
  rcases h with ⟨rfl, rfl⟩ | ⟨x, rfl, hc⟩
  · obtain rfl := hc0 rfl
    go_enter Tryd.func6, Tryd.ntmps6
    go_wp2
    go_ret
    exact ⟨none, rfl, Below.refl _ _, ⟨.inl rfl, fun bd e => by simp at e⟩, fun bd e => by simp at e⟩
  · have hmk := run_make22 n hn
    have HC : Hid (∀ j, j < n → x.spot = none ∧ x.block < w.heap.size ∧ w.cell? ⟨x.block, x.off + j, none⟩ = some (.int .u8 (d j))) := hc
    clear hc
    go_enter Tryd.func6, Tryd.ntmps6
    go_wp2
    go_loopw [4] (fun i wr => ∃ k : Nat, k ≤ n ∧ i = .int .i64 k ∧ Below w.heap.size w wr ∧ Fill w.heap.size d n k wr) (fun i _ => n - (intOf i).toNat)
    case atStart => exact ⟨0, Nat.zero_le _, rfl, (Below.refl _ w).alloc (Nat.le_refl _) _, Fill.made w d n⟩
    case round =>
      obtain ⟨k, hk, rfl, hb, hF⟩ := hrel
      by_cases hlt : k < n
      · have hlti : (k : Int) < (n : Int) := by omega
        obtain ⟨hsp, hbl, hck⟩ := HC.out k hlt
        clear HC
        obtain ⟨b, o, sp⟩ := x
        simp only at hsp hbl hck
        subst hsp
        have hck' := (hb.cell (p := ⟨b, o + k, none⟩) hbl).trans hck
        have hx := hF.cell k hlt
        have hf := hF.fr k
        go_wp2
        go_roundw
        case rel => exact ⟨k + 1, by omega, by go_num, hb.setCell (p := ⟨w.heap.size, k, none⟩) (Nat.le_refl _) _, hF.step hlt⟩
        case measure => simp [intOf]; omega
      · obtain rfl : k = n := by omega
        go_wp2
        go_ret
        exact ⟨some ⟨w.heap.size, 0, none⟩, rfl, hb, ⟨.inr ⟨_, rfl, hF.lt, fun j hj => by rw [hF.cell j hj, if_pos hj]⟩, fun bd e => by injection e with e; injection e with e1; subst e1; exact hF.lt⟩, fun bd e => by injection e with e; injection e with e1; omega⟩

def RBool (w : World) (e : Ending) (w' : World) : Prop := ∃ b, e = .returned (.bool b) ∧ w' = w

theorem bytes5_any (a : Option Addr) (n c : Nat) (k : Int) (w : World) (hn : n ≤ maxLen) : Calls Tryd.prog 5 #[.slice a n c, .int .i64 k] w (RBool w) := by
  unfold maxLen at hn
  by_cases h : (1048576 : Int) < (n : Int)
  · go_enter Tryd.func5, Tryd.ntmps5
    go_wp2
    go_ret
    exact ⟨_, rfl, rfl⟩
  · go_enter Tryd.func5, Tryd.ntmps5
    go_wp2
    go_ret
    exact ⟨_, rfl, rfl⟩
theorem bytes12_any (a a' : Option Addr) (n c n' c' : Nat) (w : World) (hn : n ≤ maxLen) (hn' : n' ≤ maxLen) : Calls Tryd.prog 12 #[.slice a n c, .slice a' n' c'] w (RBool w) := by
  unfold maxLen at hn hn'
  go_enter Tryd.func12, Tryd.ntmps12
  go_wp2
  all_goals (go_ret; exact ⟨_, rfl, rfl⟩)
end Go.Proofs.Qxb6609082aDoor
