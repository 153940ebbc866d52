import Derived.Test.Qxb6614448aW2
namespace Go.Proofs.Qxb6614448a
open Go Go.RowKit

/-- A copy in block b: the four places. -/
structure CopyAt (w : World) (b : Nat) (g : Nat → ByteArray) : Prop where
  c3 : w.cell? ⟨b, 3, none⟩ = some (.string (g 3))
  c6 : w.cell? ⟨b, 6, none⟩ = some (.string (g 6))
  c7 : w.cell? ⟨b, 7, none⟩ = some (.string (g 7))
  c9 : w.cell? ⟨b, 9, none⟩ = some (.string (g 9))

theorem CopyAt.lt {w : World} {b : Nat} {g : Nat → ByteArray} (h : CopyAt w b g) : b < w.heap.size := World.block_lt_of_cell? _ _ h.c3
theorem CopyAt.below {w w' : World} {b : Nat} {g : Nat → ByteArray} (h : CopyAt w b g) (B : Below w.heap.size w w') : CopyAt w' b g :=
  ⟨(B.cell (p := ⟨b, 3, none⟩) h.lt).trans h.c3, (B.cell (p := ⟨b, 6, none⟩) h.lt).trans h.c6, (B.cell (p := ⟨b, 7, none⟩) h.lt).trans h.c7, (B.cell (p := ⟨b, 9, none⟩) h.lt).trans h.c9⟩

/-- m pointers to copies. -/
def PtrsIn (w : World) (a : Option Addr) (m : Nat) (g : Nat → Nat → ByteArray) : Prop :=
  ∀ j, j < m → ∃ B o b, a = some ⟨B, o, none⟩ ∧ w.cell? ⟨B, o + j, none⟩ = some (.pointer (some ⟨b, 0, none⟩)) ∧ CopyAt w b (g j)

theorem PtrsIn.below {w w' : World} {a : Option Addr} {m : Nat} {g : Nat → Nat → ByteArray} (h : PtrsIn w a m g) (H : Below w.heap.size w w') : PtrsIn w' a m g := fun j hj => by
  obtain ⟨B, o, b, e, hc, hk⟩ := h j hj
  exact ⟨B, o, b, e, (H.cell (p := ⟨B, o + j, none⟩) (World.block_lt_of_cell? _ _ hc)).trans hc, hk.below H⟩

/-- Does one of the four places name x? -/
def hit (g : Nat → ByteArray) (x : ByteArray) : Bool := (g 3).toList == x.toList || (g 6).toList == x.toList || (g 7).toList == x.toList || (g 9).toList == x.toList
/-- Does one of the first k? -/
def held (g : Nat → Nat → ByteArray) (x : ByteArray) : Nat → Bool
  | 0 => false
  | k + 1 => held g x k || hit (g k) x

theorem held_mono (g : Nat → Nat → ByteArray) (x : ByteArray) (k : Nat) (h : held g x k = true) : ∀ d, held g x (k + d) = true
  | 0 => h
  | d + 1 => by
    show (held g x (k + d) || hit (g (k + d)) x) = true
    rw [held_mono g x k h d]
    rfl
theorem held_hit {g : Nat → Nat → ByteArray} {x : ByteArray} {k m : Nat} (h : hit (g k) x = true) (hk : k < m) : held g x m = true := by
  obtain ⟨d, rfl⟩ := Nat.exists_eq_add_of_le (show k + 1 ≤ m from hk)
  exact held_mono g x (k + 1) (by show (held g x k || hit (g k) x) = true; rw [h, Bool.or_true]) d

/-- holdsCopy's answer. -/
def R13 (b : Bool) (w : World) (e : Ending) (w' : World) : Prop := e = .returned (.bool b) ∧ w' = w

set_option maxHeartbeats 4000000 in
theorem holds_any (a : Option Addr) (m c : Nat) (g : Nat → Nat → ByteArray) (x : ByteArray) (w : World) (hm : m ≤ 131072) (h : PtrsIn w a m g) : Calls Try.prog 13 #[.slice a m c, .string x] w (R13 (held g x m) w) := by
  have H : Hid (PtrsIn w a m g) := h
  have HM : Hid (m ≤ 1048576) := Nat.le_trans hm (by omega)
  clear h hm
  go_enter Try.func13, Try.ntmps13
  go_wp2_with fail
  go_loopw [9] (fun s9 wr => ∃ k : Nat, k ≤ m ∧ s9 = .int .i64 k ∧ held g x k = false ∧ wr = w) (fun s9 _ => m - (intOf s9).toNat)
  case atStart => exact ⟨0, Nat.zero_le _, rfl, rfl, rfl⟩
  case round =>
    obtain ⟨k, hk, rfl, hh, rfl⟩ := hrel
    by_cases hlt : k < m
    · have hlti : (k : Int) < (m : Int) := Int.ofNat_lt.2 hlt
      obtain ⟨hwi, hwj⟩ := i_step HM.out hlt
      obtain ⟨B, o, b, rfl, hc, K⟩ := H.out k hlt
      have k3 := K.c3; have k6 := K.c6; have k7 := K.c7; have k9 := K.c9
      have HLT : Hid (k < m) := hlt
      have HH : Hid (held g x k = false) := hh
      have HU : Hid (hit (g k) x = ((g k 3).toList == x.toList || (g k 6).toList == x.toList || (g k 7).toList == x.toList || (g k 9).toList == x.toList)) := rfl
      clear K hlt hh H
      cases h3 : ((g k 3).toList == x.toList) with
      | true =>
        go_wp2_with fail
        go_ret
        exact ⟨by rw [held_hit (HU.out.trans (by rw [h3]; rfl)) HLT.out]; rfl, rfl⟩
      | false =>
        cases h6 : ((g k 6).toList == x.toList) with
        | true =>
          go_wp2_with fail
          go_ret
          exact ⟨by rw [held_hit (HU.out.trans (by rw [h3, h6]; rfl)) HLT.out]; rfl, rfl⟩
        | false =>
          cases h7 : ((g k 7).toList == x.toList) with
          | true =>
            go_wp2_with fail
            go_ret
            exact ⟨by rw [held_hit (HU.out.trans (by rw [h3, h6, h7]; rfl)) HLT.out]; rfl, rfl⟩
          | false =>
            cases h9 : ((g k 9).toList == x.toList) with
            | true =>
              go_wp2_with fail
              go_ret
              exact ⟨by rw [held_hit (HU.out.trans (by rw [h3, h6, h7, h9]; rfl)) HLT.out]; rfl, rfl⟩
            | false =>
              go_wp2_with fail
              go_roundw
              case rel => exact ⟨k + 1, HLT.out, by go_num, by show (held g x k || hit (g k) x) = false; rw [HH.out, HU.out, h3, h6, h7, h9]; rfl, trivial⟩
              case measure => simp [intOf]; exact meas HLT.out
    · obtain rfl : k = m := Nat.le_antisymm hk (Nat.le_of_not_lt hlt)
      go_wp2_with fail
      go_ret
      exact ⟨by rw [hh]; rfl, rfl⟩

theorem zholds_any (a : Option Addr) (m c : Nat) (g : Nat → Nat → ByteArray) (x : ByteArray) (w : World) (hm : m ≤ 131072) (h : PtrsIn w a m g) : Calls Try.prog 8 #[.slice a m c, .string x] w (R13 (held g x m) w) := by
  go_enter Try.func8, Try.ntmps8
  go_wp2_with fail
  refine (holds_any a m c g x w hm h).mono ?_
  rintro e w' ⟨rfl, rfl⟩
  go_wp2_with fail
  go_ret
  exact ⟨rfl, rfl⟩
end Go.Proofs.Qxb6614448a
