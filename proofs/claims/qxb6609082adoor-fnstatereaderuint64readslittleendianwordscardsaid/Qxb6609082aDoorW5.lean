import Derived.Test.Qxb6609082aDoorW4
import Derived.LaidEql
namespace Go.Proofs.Qxb6609082aDoor
open Go Go.RowKit
attribute [local go_sem ↓] Go.wp_at_zero Go.wp_at_succ

theorem info69 : (Tryd.prog.info? 69).map (·.comparable) = some true := by kernel_rfl
theorem info92 : (Tryd.prog.info? 92).isSome = true := by kernel_rfl

theorem run_eof (a : Addr) (w : World) : (binOp .eql 46 (.iface 69 (.pointer (some a))) (.iface 69 (.pointer (some a)))).run Tryd.prog w = .ok (.bool true) w := by
  have h1 := info69
  have h2 := info92
  cases e1 : Tryd.prog.info? 69 with
  | none => rw [e1] at h1; simp at h1
  | some i =>
    cases e2 : Tryd.prog.info? 92 with
    | none => rw [e2] at h2; simp at h2
    | some j =>
      rw [e1] at h1
      exact run_eql_iface_ptr_same w a Tryd.underlying46 Tryd.underlying69 e1 (by simpa using h1) e2

theorem run_ahead (bb : Nat) (w : World) : (nilAhead 200 34 (.pointer (some ⟨bb, 0, none⟩)) "Read").run Tryd.prog w = .ok (some false) w := by kernel_rfl

/-- In the middle of ReadAtLeast: k of the eight bytes have come. -/
structure L22 (bb bf br bp : Nat) (sa : Option Addr) (d : Nat → Int) (n pos k : Nat) (w wr : World) : Prop where
  kept : Kept [bb, bf, br, bp] w wr
  rd : ∃ r q, Rd bb bf br sa d n (pos + k) r q wr
  cells : ∀ j, j < k → wr.cell? ⟨bp, j, none⟩ = some (.int .u8 (d (pos + j)))
  rest : ∀ o, k ≤ o → wr.cell? ⟨bp, o, none⟩ = w.cell? ⟨bp, o, none⟩
  frz : ∀ o, wr.frozen? ⟨bp, o, none⟩ = w.frozen? ⟨bp, o, none⟩
  le : k ≤ 8
  hin : pos + k ≤ n

theorem l22_step {bb bf br bp : Nat} {sa : Option Addr} {d : Nat → Int} {n pos k k' r' q' : Nat} {w wr w1 : World} (hL : L22 bb bf br bp sa d n pos k w wr) (hR : Rd bb bf br sa d n (pos + k + k') r' q' w1)
    (hc : ∀ j, j < k' → w1.cell? ⟨bp, k + j, none⟩ = some (.int .u8 (d (pos + k + j)))) (ho : ∀ o, (o < k ∨ k + k' ≤ o) → w1.cell? ⟨bp, o, none⟩ = wr.drew.cell? ⟨bp, o, none⟩) (hf : ∀ o, w1.frozen? ⟨bp, o, none⟩ = wr.drew.frozen? ⟨bp, o, none⟩)
    (hK : Kept [bb, bf, br, bp] wr.drew w1) (h8 : k + k' ≤ 8) (hin : pos + (k + k') ≤ n) : L22 bb bf br bp sa d n pos (k + k') w w1 where
  kept := (hL.kept.drew).trans hK
  rd := ⟨r', q', by rw [← Nat.add_assoc]; exact hR⟩
  cells := fun j hj => by
    by_cases hjk : j < k
    · exact (ho j (.inl hjk)).trans (hL.cells j hjk)
    · have := hc (j - k) (by omega)
      rwa [show k + (j - k) = j by omega, show pos + k + (j - k) = pos + j by omega] at this
  rest := fun o h => (ho o (.inr h)).trans (hL.rest o (by omega))
  frz := fun o => (hf o).trans (hL.frz o)
  le := h8
  hin := hin

theorem l22_end {bb bf br bp : Nat} {sa : Option Addr} {d : Nat → Int} {n pos k r' q' : Nat} {w wr w1 : World} (hL : L22 bb bf br bp sa d n pos k w wr) (hR : Rd bb bf br sa d n (pos + k) r' q' w1)
    (hK : Kept [bb, bf, br] wr.drew w1) (g1 : bp ≠ bb) (g2 : bp ≠ bf) (g3 : bp ≠ br) (hlt : bp < w.heap.size) : L22 bb bf br bp sa d n pos k w w1 where
  kept := (hL.kept.drew).trans (hK.mono (fun x hx => by simp at hx ⊢; rcases hx with h | h | h <;> simp [h]))
  rd := ⟨r', q', hR⟩
  cells := fun j hj => (hK.cell (p := ⟨bp, j, none⟩) (Nat.lt_of_lt_of_le hlt hL.kept.size) (by simp [g1, g2, g3])).trans (hL.cells j hj)
  rest := fun o h => (hK.cell (p := ⟨bp, o, none⟩) (Nat.lt_of_lt_of_le hlt hL.kept.size) (by simp [g1, g2, g3])).trans (hL.rest o h)
  frz := fun o => (hK.frozen (p := ⟨bp, o, none⟩) (Nat.lt_of_lt_of_le hlt hL.kept.size) (by simp [g1, g2, g3])).trans (hL.frz o)
  le := hL.le
  hin := hL.hin

/-- One, where no error stands. -/
def errM : Value → Nat | .nilIface => 1 | _ => 0

/-- ReadFull's answer. -/
def Full (bb bf br bp : Nat) (sa : Option Addr) (d : Nat → Int) (n pos : Nat) (w : World) (e : Ending) (w' : World) : Prop :=
  ∃ (k : Nat) (er : Value), e = .returned (.tuple #[.int .i64 k, er]) ∧ L22 bb bf br bp sa d n pos k w w' ∧ ((k = 8 ∧ er = .nilIface) ∨ (k < 8 ∧ pos + k = n ∧ ∃ t x, er = .iface t x))

/-- What the two reads say, apart. -/
theorem read_some (bb bf br bp op m c : Nat) (sa : Option Addr) (d : Nat → Int) (n pos r q : Nat) (u : TypeId) (v : Value) (w : World) (h : Rd bb bf br sa d n pos r q w) (hlt : pos < n) (hn : n ≤ 131072) (hm1 : 1 ≤ m) (hm : m ≤ 8)
    (g1 : bp ≠ bb) (g2 : bp ≠ bf) (g3 : bp ≠ br) (g4 : ∀ bd, sa = some ⟨bd, 0, none⟩ → bd ≠ bp) (hp : Room bp op m w) (hg : w.cell? ⟨2, 0, none⟩ = some (.iface u v)) (hg2 : 2 ≠ bb) (hgl : 2 < w.heap.size) :
    Calls Tryd.prog 39 #[.pointer (some ⟨bb, 0, none⟩), .slice (some ⟨bp, op, none⟩) m c] w (Got39 bb bf br bp op m sa d n pos w) := by
  refine (read_any bb bf br bp op m c sa d n pos r q u v w h hn hm1 hm g1 g2 g3 g4 hp hg hg2 hgl).mono ?_
  rintro e w' (⟨_, h⟩ | ⟨h, _⟩)
  · exact h
  · omega
theorem read_end (bb bf br bp op m c : Nat) (sa : Option Addr) (d : Nat → Int) (n r q : Nat) (u : TypeId) (v : Value) (w : World) (h : Rd bb bf br sa d n n r q w) (hn : n ≤ 131072) (hm1 : 1 ≤ m) (hm : m ≤ 8)
    (g1 : bp ≠ bb) (g2 : bp ≠ bf) (g3 : bp ≠ br) (g4 : ∀ bd, sa = some ⟨bd, 0, none⟩ → bd ≠ bp) (hp : Room bp op m w) (hg : w.cell? ⟨2, 0, none⟩ = some (.iface u v)) (hg2 : 2 ≠ bb) (hgl : 2 < w.heap.size) :
    Calls Tryd.prog 39 #[.pointer (some ⟨bb, 0, none⟩), .slice (some ⟨bp, op, none⟩) m c] w (Eof39 bb bf br sa d n n u v w) := by
  refine (read_any bb bf br bp op m c sa d n n r q u v w h hn hm1 hm g1 g2 g3 g4 hp hg hg2 hgl).mono ?_
  rintro e w' (⟨h, _⟩ | ⟨_, h⟩)
  · omega
  · exact h

set_option maxHeartbeats 2000000 in
theorem atLeast_any (bb bf br bp : Nat) (sa : Option Addr) (d : Nat → Int) (n pos r q : Nat) (ae : Addr) (u3 : TypeId) (v3 : Value) (w : World) (h : Rd bb bf br sa d n pos r q w) (hn : n ≤ 131072)
    (g1 : bp ≠ bb) (g2 : bp ≠ bf) (g3 : bp ≠ br) (g4 : ∀ bd, sa = some ⟨bd, 0, none⟩ → bd ≠ bp) (hp : Room bp 0 8 w) (hg : w.cell? ⟨2, 0, none⟩ = some (.iface 69 (.pointer (some ae)))) (hu : w.cell? ⟨3, 0, none⟩ = some (.iface u3 v3))
    (hgs : ∀ x, x ≤ 3 → x ≠ bb ∧ x ≠ bf ∧ x ≠ br ∧ x ≠ bp) (hgl : 3 < w.heap.size) :
    Calls Tryd.prog 22 #[.iface 34 (.pointer (some ⟨bb, 0, none⟩)), .slice (some ⟨bp, 0, none⟩) 8 8, .int .i64 8] w (Full bb bf br bp sa d n pos w) := by
  go_enter Tryd.func22, Tryd.ntmps22
  go_wp2_with fail
  go_loopw [6, 7, 8] (fun s6 s7 s8 wr => ∃ k : Nat, s6 = .int .i64 k ∧ (∃ x, s8 = .int .i64 x ∨ s8 = undef) ∧ L22 bb bf br bp sa d n pos k w wr ∧ (s7 = .nilIface ∨ (s7 = .iface 69 (.pointer (some ae)) ∧ k < 8 ∧ pos + k = n))) (fun s6 s7 _ _ => 8 - (intOf s6).toNat + errM s7)
  case atStart => exact ⟨0, rfl, ⟨0, .inr rfl⟩, ⟨Kept.refl _ _, ⟨r, q, h⟩, fun j hj => by omega, fun _ _ => rfl, fun _ => rfl, by omega, by have := h.hin; omega⟩, .inl rfl⟩
  case round =>
    obtain ⟨k, rfl, hs8, hL, hs7⟩ := hrel
    have hgr : wr.cell? ⟨2, 0, none⟩ = some (.iface 69 (.pointer (some ae))) := (hL.kept.cell (p := ⟨2, 0, none⟩) (by show 2 < _; omega) (by simpa using hgs 2 (by omega))).trans hg
    have hur : wr.cell? ⟨3, 0, none⟩ = some (.iface u3 v3) := (hL.kept.cell (p := ⟨3, 0, none⟩) (by show 3 < _; omega) (by simpa using hgs 3 (by omega))).trans hu
    have hk8 := hL.le
    have hgl2 : 2 < wr.heap.size := by have := hL.kept.size; omega
    have hE := run_eof ae
    have hNA := run_ahead bb
    rcases hs7 with rfl | ⟨rfl, hlt, hpn⟩
    · by_cases hlt : k < 8
      · have hlti : (k : Int) < 8 := by omega
        have h8k : ¬ 8 = k := by omega
        have hk0 : (0 : Int) ≤ (k : Int) := by omega
        have hk8i : (k : Int) ≤ 8 := by omega
        obtain ⟨r1, q1, hR⟩ := hL.rd
        have hrm : Room bp k (8 - k) wr := ⟨fun j hj => by obtain ⟨y, hy⟩ := hp.cell (k + j) (by omega); exact ⟨y, (hL.rest (k + j) (by omega)).trans (by simpa using hy)⟩, fun j => (hL.frz j).trans (hp.fr j), Nat.lt_of_lt_of_le hp.lt hL.kept.size⟩
        have hRd := hR.keep (S := []) (Kept.refl _ wr).drew (by simp) (by simp) (by simp) (by simp)
        have hrmd := hrm.keep (S := []) (Kept.refl _ wr).drew (by simp)
        have hgrd : wr.drew.cell? ⟨2, 0, none⟩ = some (.iface 69 (.pointer (some ae))) := hgr
        have hgld : 2 < wr.drew.heap.size := hgl2
        have h2b := (hgs 2 (by omega)).1
        by_cases hpn : pos + k < n
        · go_wp2_with fail
          go_region_held3 (fun _ => True) (trivial)
            (first | (go_at_call 39; refine (read_some bb bf br bp k (8 - k) (8 - k) sa d n (pos + k) r1 q1 _ _ _ hRd hpn hn (by omega) (by omega) g1 g2 g3 g4 hrmd hgrd h2b hgld).mono ?_; rintro e w1 ⟨k', r', q', hk1, hk2, hk3, rfl, hR', hc', ho', hf', hK'⟩))
          have hadd : IntKind.i64.wrap ((k : Int) + k') = ((k + k' : Nat) : Int) := by rw [IntWalk.i64_in] <;> omega
          go_wp2_with fail
          go_roundw
          case rel => exact ⟨k + k', by simp, ⟨_, .inl rfl⟩, l22_step hL hR' hc' ho' hf' hK' (by omega) (by omega), .inl rfl⟩
          case measure => simp [intOf, errM]; omega
        · obtain rfl : n = pos + k := by have := hL.hin; omega
          go_wp2_with fail
          go_region_held3 (fun _ => True) (trivial)
            (first | (go_at_call 39; refine (read_end bb bf br bp k (8 - k) (8 - k) sa d (pos + k) r1 q1 _ _ _ hRd hn (by omega) (by omega) g1 g2 g3 g4 hrmd hgrd h2b hgld).mono ?_; rintro e w1 ⟨rfl, hK', r', q', hR'⟩))
          have hadd : IntKind.i64.wrap (k : Int) = (k : Int) := by rw [IntWalk.i64_in] <;> omega
          go_wp2_with fail
          go_roundw
          case rel => exact ⟨k, by simp, ⟨_, .inl rfl⟩, l22_end hL hR' hK' g1 g2 g3 hp.lt, .inr ⟨rfl, hlt, rfl⟩⟩
          case measure => simp [intOf, errM]
      · obtain rfl : k = 8 := by omega
        go_wp2_with fail
        go_ret2
        exact ⟨8, _, rfl, hL, .inl ⟨rfl, rfl⟩⟩
    · have hlti : (k : Int) < 8 := by omega
      have hge : ¬ (8 : Int) ≤ (k : Int) := by omega
      by_cases h0 : k = 0
      · subst h0
        go_wp2_with fail
        go_ret2
        exact ⟨0, _, rfl, hL, .inr ⟨by omega, hpn, _, _, rfl⟩⟩
      · have hpos : (0 : Int) < (k : Int) := by omega
        go_wp2_with fail
        go_ret2
        exact ⟨k, _, rfl, hL, .inr ⟨by omega, hpn, _, _, rfl⟩⟩
end Go.Proofs.Qxb6609082aDoor
