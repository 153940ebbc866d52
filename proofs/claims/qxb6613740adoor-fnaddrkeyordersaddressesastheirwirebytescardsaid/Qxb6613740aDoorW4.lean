import Derived.Test.Qxb6613740aDoorW3
namespace Go.Proofs.Qxb6613740aDoor
open Go Go.RowKit
attribute [local go_sem ↓] Go.wp_at_zero Go.wp_at_succ

/-- The order of two numbers, as zzCmpAddr says it. -/
def sign3 (x y : Int) : Int := if x < y then -1 else if y < x then 1 else 0

/-- The order of two addresses, byte by byte from byte i on. -/
def cmpBytes (a b : Nat → Int) (s t : Int) : Nat → Int
  | 0 => sign3 s t
  | n + 1 => if a (3 - n) < b (3 - n) then -1 else if b (3 - n) < a (3 - n) then 1 else cmpBytes a b s t n

set_option maxHeartbeats 4000000 in
theorem cmp10 (a b : Nat → Int) (s t : Int) (w : World) :
    Calls Tryd.prog 10 #[.agg #[.int .u8 (a 0), .int .u8 (a 1), .int .u8 (a 2), .int .u8 (a 3)], .int .u16 s, .agg #[.int .u8 (b 0), .int .u8 (b 1), .int .u8 (b 2), .int .u8 (b 3)], .int .u16 t] w (RV (.int .i64 (cmpBytes a b s t 4)) w) := by
  have hA : ∀ j, j < 4 → ∀ B, ((w.alloc (.cells #[.int .u8 (a 0), .int .u8 (a 1), .int .u8 (a 2), .int .u8 (a 3)] 39)).alloc B).cell? ⟨w.heap.size, j, none⟩ = some (.int .u8 (a j)) := by
    intro j hj B
    have e : j = 0 ∨ j = 1 ∨ j = 2 ∨ j = 3 := by omega
    rcases e with rfl | rfl | rfl | rfl <;> go_simp
  have hB : ∀ j, j < 4 → ∀ A, ((w.alloc A).alloc (.cells #[.int .u8 (b 0), .int .u8 (b 1), .int .u8 (b 2), .int .u8 (b 3)] 39)).cell? ⟨w.heap.size + 1, j, none⟩ = some (.int .u8 (b j)) := by
    intro j hj A
    have e : j = 0 ∨ j = 1 ∨ j = 2 ∨ j = 3 := by omega
    rcases e with rfl | rfl | rfl | rfl <;> go_simp
  have HA : Hid (∀ j, j < 4 → ∀ B, ((w.alloc (.cells #[.int .u8 (a 0), .int .u8 (a 1), .int .u8 (a 2), .int .u8 (a 3)] 39)).alloc B).cell? ⟨w.heap.size, j, none⟩ = some (.int .u8 (a j))) := hA
  have HB : Hid (∀ j, j < 4 → ∀ A, ((w.alloc A).alloc (.cells #[.int .u8 (b 0), .int .u8 (b 1), .int .u8 (b 2), .int .u8 (b 3)] 39)).cell? ⟨w.heap.size + 1, j, none⟩ = some (.int .u8 (b j))) := hB
  clear hA hB
  go_enter Tryd.func10, Tryd.ntmps10
  go_wp2
  go_loopw [9] (fun s9 wr => ∃ i k : Nat, i ≤ 4 ∧ s9 = .int .i64 i ∧ cmpBytes a b s t 4 = cmpBytes a b s t (4 - i) ∧ wr = ((w.alloc (.cells #[.int .u8 (a 0), .int .u8 (a 1), .int .u8 (a 2), .int .u8 (a 3)] 39)).alloc (.cells #[.int .u8 (b 0), .int .u8 (b 1), .int .u8 (b 2), .int .u8 (b 3)] 39)).drewN k) (fun s9 _ => 4 - (intOf s9).toNat)
  case atStart => exact ⟨0, 0, by omega, rfl, rfl, rfl⟩
  case round =>
    obtain ⟨i, k, hi, rfl, hcm, rfl⟩ := hrel
    by_cases hlt : i < 4
    · have hlti : (i : Int) < 4 := by omega
      have ca := HA.out i hlt (.cells #[.int .u8 (b 0), .int .u8 (b 1), .int .u8 (b 2), .int .u8 (b 3)] 39)
      have cb := HB.out i hlt (.cells #[.int .u8 (a 0), .int .u8 (a 1), .int .u8 (a 2), .int .u8 (a 3)] 39)
      obtain ⟨n, hn⟩ : ∃ n, 4 - i = n + 1 := ⟨3 - i, by omega⟩
      have hin : 3 - n = i := by omega
      rw [hn] at hcm
      rcases Int.lt_trichotomy (a i) (b i) with h | h | h
      · go_wp2
        go_quiet (fail)
        go_wp2
        go_ret
        refine ⟨?_, below_drewN (below_drewN (below_two w _ _) _) _⟩
        rw [hcm, show cmpBytes a b s t (n + 1) = -1 by unfold cmpBytes; rw [hin, if_pos h]]
        rfl
      · have h2 : ¬ a i < b i := by omega
        have h3 : ¬ b i < a i := by omega
        have hstep : cmpBytes a b s t (n + 1) = cmpBytes a b s t n := by rw [cmpBytes]; rw [hin, if_neg h2, if_neg h3]
        clear h
        go_wp2
        go_quiet (fail)
        go_wp2
        go_quiet (fail)
        go_wp2
        go_roundw
        case rel => exact ⟨i + 1, _, by omega, by go_num, by rw [hcm, hstep, show 4 - (i + 1) = n by omega], rfl⟩
        case measure => simp [intOf]; omega
      · have h2 : ¬ a i < b i := by omega
        have hstep : cmpBytes a b s t (n + 1) = 1 := by rw [cmpBytes]; rw [hin, if_neg h2, if_pos h]
        go_wp2
        go_quiet (fail)
        go_wp2
        go_quiet (fail)
        go_wp2
        go_ret
        refine ⟨?_, below_drewN (below_drewN (below_drewN (below_two w _ _) _) _) _⟩
        rw [hcm, hstep]
        rfl
    · obtain rfl : i = 4 := by omega
      have hs : cmpBytes a b s t 4 = sign3 s t := by rw [hcm]; rfl
      clear hcm
      rcases Int.lt_trichotomy s t with h | h | h
      · have hv : sign3 s t = -1 := by unfold sign3; rw [if_pos h]
        go_wp2
        go_ret
        exact ⟨by first | (rw [hs, hv]; rfl) | rfl, below_drewN (below_two w _ _) _⟩
      · have h2 : ¬ s < t := by omega
        have h3 : ¬ t < s := by omega
        have hv : sign3 s t = 0 := by unfold sign3; rw [if_neg h2, if_neg h3]
        clear h
        go_wp2
        go_ret
        exact ⟨by first | (rw [hs, hv]; rfl) | rfl, below_drewN (below_two w _ _) _⟩
      · have h2 : ¬ s < t := by omega
        have hv : sign3 s t = 1 := by unfold sign3; rw [if_neg h2, if_pos h]
        go_wp2
        go_ret
        exact ⟨by first | (rw [hs, hv]; rfl) | rfl, below_drewN (below_two w _ _) _⟩
end Go.Proofs.Qxb6613740aDoor
