import Derived.Test.Qxb6609082aDoorW14
namespace Go.Proofs.Qxb6609082aDoor
open Go Go.RowKit

/-- The low j bytes of a word. -/
def wsum (b : Nat → Int) : Nat → Int
  | 0 => 0
  | j + 1 => wsum b j + b j * 2 ^ (8 * j)

theorem wsum_ok {b : Nat → Int} (hb : ∀ j, 0 ≤ b j ∧ b j < 256) : ∀ j, 0 ≤ wsum b j ∧ wsum b j < 2 ^ (8 * j)
  | 0 => by simp [wsum]
  | j + 1 => by
    have ih := wsum_ok hb j
    have h := hb j
    have e : (2 : Int) ^ (8 * (j + 1)) = 2 ^ (8 * j) * 256 := by rw [Nat.mul_add, Int.pow_add]; rfl
    rw [e]
    show 0 ≤ wsum b j + b j * 2 ^ (8 * j) ∧ wsum b j + b j * 2 ^ (8 * j) < _
    generalize (2 : Int) ^ (8 * j) = p at ih ⊢
    have h1 : 0 ≤ b j * p := Int.mul_nonneg h.1 (by omega)
    have h2 : b j * p ≤ 255 * p := Int.mul_le_mul_of_nonneg_right (by omega) (by omega)
    omega

theorem word8_sum (b : Nat → Int) : wsum b 8 = word8 b := by
  simp [wsum, word8]

theorem or_step (j : Nat) (hj : j < 8) (x c : Int) (x0 : 0 ≤ x) (hx : x < 2 ^ (8 * j)) (c0 : 0 ≤ c) (c1 : c < 256) :
    bits .or .u64 x (IntKind.u64.wrap (IntKind.u64.wrap c * 2 ^ (8 * j))) = x + c * 2 ^ (8 * j) := by
  have hp : (2 : Int) ^ (8 * j) ≤ 2 ^ 56 := by have := Nat.pow_le_pow_right (show 0 < 2 by omega) (show 8 * j ≤ 56 by omega); exact_mod_cast this
  have hp0 : (0 : Int) < 2 ^ (8 * j) := Int.pow_pos (by omega)
  have h1 : 0 ≤ c * 2 ^ (8 * j) := Int.mul_nonneg c0 (by omega)
  have h2 : c * 2 ^ (8 * j) ≤ 255 * 2 ^ (8 * j) := Int.mul_le_mul_of_nonneg_right (by omega) (by omega)
  rw [u64_wrap_id c c0 (by omega), u64_wrap_id _ h1 (by omega)]
  exact bits_join_low .u64 64 (by decide) wraps_u64 (8 * j) x _ x0 hx (by omega) h1 (Int.mul_emod_left _ _) (by omega)

theorem wordAt_sum (d : Nat → Int) (n i : Nat) : wordAt d n i = wsum (fun j => pad d n (8 * i + j)) 8 := by
  unfold wordAt
  rw [word8_sum]

theorem fnvStep_ok (h c : Int) : 0 ≤ fnvStep h c ∧ fnvStep h c < 18446744073709551616 := by
  unfold fnvStep
  rw [IntKind.wrap_u64]
  omega

theorem fnvN_ok (b : Nat → Int) (h0 : Int) (hh : 0 ≤ h0 ∧ h0 < 18446744073709551616) : ∀ k, 0 ≤ fnvN b h0 k ∧ fnvN b h0 k < 18446744073709551616
  | 0 => hh
  | _ + 1 => fnvStep_ok _ _

/-- What the reader has hashed behind i words. -/
def hashAt (d : Nat → Int) (n i : Nat) : Int := fnvN (pad d n) 14695981039346656037 (8 * min i (n / 8 + 1))

theorem hash_step (d : Nat → Int) (n i : Nat) : fnvI d n i (hashAt d n i) = hashAt d n (i + 1) := by
  unfold fnvI hashAt
  by_cases h : 8 * i ≤ n
  · rw [if_pos h, show min i (n / 8 + 1) = i by omega, show min (i + 1) (n / 8 + 1) = i + 1 by omega, fnvN_add]
    rfl
  · rw [if_neg h, show min i (n / 8 + 1) = n / 8 + 1 by omega, show min (i + 1) (n / 8 + 1) = n / 8 + 1 by omega]

theorem hash_ok (d : Nat → Int) (n i : Nat) : 0 ≤ hashAt d n i ∧ hashAt d n i < 18446744073709551616 := fnvN_ok _ _ (by omega) _
end Go.Proofs.Qxb6609082aDoor
