import Derived.Test.Qxb6609082aDoorW3
import Derived.Deep.CutRange
import Derived.Deep.DrawnRows
import Derived.BigRegion
namespace Go.Proofs.Qxb6609082aDoor
open Go Go.RowKit
attribute [local go_sem ↓] Go.wp_at_zero Go.wp_at_succ

theorem Rd.keep {bb bf br : Nat} {sa : Option Addr} {d : Nat → Int} {n pos r q : Nat} {w w' : World} {S : List Nat} (h : Rd bb bf br sa d n pos r q w) (k : Kept S w w') (h1 : bb ∉ S) (h2 : bf ∉ S) (h3 : br ∉ S)
    (h4 : ∀ bd, sa = some ⟨bd, 0, none⟩ → bd ∉ S) : Rd bb bf br sa d n pos r q w' where
  bfs := h.bfs.keep k h1
  brs := h.brs.keep k h3
  hr := h.hr
  hq := h.hq
  hin := h.hin
  buf := fun j hj => (k.cell (p := ⟨bf, r + j, none⟩) h.room.lt h2).trans (h.buf j hj)
  room := h.room.keep k h2
  n1 := h.n1
  n2 := h.n2
  n3 := h.n3
  dat := by
    rcases h.dat with h0 | ⟨bd, e, hl, g1, g2, g3, hc⟩
    · exact .inl h0
    · exact .inr ⟨bd, e, Nat.lt_of_lt_of_le hl k.size, g1, g2, g3, fun j hj => (k.cell (p := ⟨bd, j, none⟩) hl (h4 bd e)).trans (hc j hj)⟩

/-- Bytes stand in the buffer. -/
def Mid39 (bb bf br : Nat) (sa : Option Addr) (d : Nat → Int) (n pos : Nat) (w wx : World) : Prop :=
  ∃ r q, Rd bb bf br sa d n pos r q wx ∧ r < q ∧ Kept [bb, bf, br] w wx

/-- Read hands out k bytes. -/
def Got39 (bb bf br bp op m : Nat) (sa : Option Addr) (d : Nat → Int) (n pos : Nat) (w : World) (e : Ending) (w' : World) : Prop :=
  ∃ k r q, 1 ≤ k ∧ k ≤ m ∧ pos + k ≤ n ∧ e = .returned (.tuple #[.int .i64 (k : Nat), .nilIface]) ∧ Rd bb bf br sa d n (pos + k) r q w' ∧ (∀ j, j < k → w'.cell? ⟨bp, op + j, none⟩ = some (.int .u8 (d (pos + j)))) ∧
    (∀ o, (o < op ∨ op + k ≤ o) → w'.cell? ⟨bp, o, none⟩ = w.cell? ⟨bp, o, none⟩) ∧ (∀ o, w'.frozen? ⟨bp, o, none⟩ = w.frozen? ⟨bp, o, none⟩) ∧ Kept [bb, bf, br, bp] w w'

/-- Read at the end. -/
def Eof39 (bb bf br : Nat) (sa : Option Addr) (d : Nat → Int) (n pos : Nat) (u : TypeId) (v : Value) (w : World) (e : Ending) (w' : World) : Prop :=
  e = .returned (.tuple #[.int .i64 0, .iface u v]) ∧ Kept [bb, bf, br] w w' ∧ ∃ r q, Rd bb bf br sa d n pos r q w'

/-- What Read answers. -/
def R39 (bb bf br bp op m : Nat) (sa : Option Addr) (d : Nat → Int) (n pos : Nat) (u : TypeId) (v : Value) (w : World) (e : Ending) (w' : World) : Prop :=
  (pos < n ∧ Got39 bb bf br bp op m sa d n pos w e w') ∨ (pos = n ∧ Eof39 bb bf br sa d n pos u v w e w')

/-- The way out of Read with bytes in the buffer: what the copy leaves. -/
theorem got_end {bb bf br bp op m : Nat} {sa : Option Addr} {d : Nat → Int} {n pos r q k : Nat} {w wc : World} (v5 v6 : Value) (h : Rd bb bf br sa d n pos r q wc) (hrq : r < q) (hm : 1 ≤ m) (hk : k = Nat.min (q - r) m)
    (hkp : Kept [bb, bf, br] w wc) (g1 : bp ≠ bb) (g2 : bp ≠ bf) (g3 : bp ≠ br) (g4 : ∀ bd, sa = some ⟨bd, 0, none⟩ → bd ≠ bp) (hp : Room bp op m w) :
    Got39 bb bf br bp op m sa d n pos w (.returned (.tuple #[.int .i64 (k : Nat), .nilIface]))
      (((((wc.drew.setCells bp op (bytesAt d pos k)).setCell ⟨bb, 2, none⟩ (.int .i64 ((r + k : Nat) : Int))).setCell ⟨bb, 5, none⟩ v5)).drew.setCell ⟨bb, 6, none⟩ v6) := by
  have hk1 : k ≤ q - r := by rw [hk]; exact Nat.min_le_left _ _
  have hk2 : k ≤ m := by rw [hk]; exact Nat.min_le_right _ _
  have hk3 : 1 ≤ k := by rw [hk]; exact Nat.le_min.2 ⟨by omega, hm⟩
  clear hk
  have hin := h.hin
  have hpc := hp.keep hkp (by simp [g1, g2, g3])
  have K1 : Kept [bp] wc (wc.drew.setCells bp op (bytesAt d pos k)) := Kept.setCells (by simp) _ _ (Kept.refl _ _).drew
  have R1 := h.keep K1 (by simpa using fun e => g1 e.symm) (by simpa using fun e => g2 e.symm) (by simpa using fun e => g3 e.symm) (fun bd e => by simpa using g4 bd e)
  have B4 := (((R1.bfs.set2 (r + k)).set5 v5).keep (S := []) (Kept.refl _ _).drew (by simp)).set6 v6
  have K4 : Kept [bb] (wc.drew.setCells bp op (bytesAt d pos k)) (((((wc.drew.setCells bp op (bytesAt d pos k)).setCell ⟨bb, 2, none⟩ (.int .i64 ((r + k : Nat) : Int))).setCell ⟨bb, 5, none⟩ v5)).drew.setCell ⟨bb, 6, none⟩ v6) :=
    ((((Kept.refl _ _).setCell (p := ⟨bb, 2, none⟩) (by simp) _).setCell (p := ⟨bb, 5, none⟩) (by simp) _).drew).setCell (p := ⟨bb, 6, none⟩) (by simp) _
  generalize hW : (((((wc.drew.setCells bp op (bytesAt d pos k)).setCell ⟨bb, 2, none⟩ (.int .i64 ((r + k : Nat) : Int))).setCell ⟨bb, 5, none⟩ v5)).drew.setCell ⟨bb, 6, none⟩ v6) = W at B4 K4
  have n1 := h.n1; have n2 := h.n2
  have hbpl : bp < (wc.drew.setCells bp op (bytesAt d pos k)).heap.size := Nat.lt_of_lt_of_le hpc.lt K1.size
  refine ⟨k, r + k, q, hk3, hk2, by omega, rfl, ?_, ?_, ?_, ?_, ?_⟩
  · refine ⟨B4, ?_, by omega, h.hq, by omega, ?_, R1.room.keep K4 (by simpa using fun e => n1 e.symm), h.n1, h.n2, h.n3, ?_⟩
    · have := R1.brs.keep K4 (by simpa using fun e => n2 e.symm)
      rwa [show pos + k + (q - (r + k)) = pos + (q - r) by omega]
    · intro j hj
      rw [K4.cell (p := ⟨bf, r + k + j, none⟩) R1.room.lt (by simpa using fun e => n1 e.symm)]
      have := R1.buf (k + j) (by omega)
      rw [show r + k + j = r + (k + j) by omega, show pos + k + j = pos + (k + j) by omega]
      exact this
    · rcases R1.dat with h0 | ⟨bd, e, hl, q1, q2, q3, hc⟩
      · exact .inl h0
      · exact .inr ⟨bd, e, Nat.lt_of_lt_of_le hl K4.size, q1, q2, q3, fun j hj => (K4.cell (p := ⟨bd, j, none⟩) hl (by simpa using q1)).trans (hc j hj)⟩
  · intro j hj
    rw [K4.cell (p := ⟨bp, op + j, none⟩) hbpl (by simpa using g1)]
    have := World.cell?_setCells_in bp (bytesAt d pos k) op wc.drew (fun j hj => by rw [bytesAt_length] at hj; obtain ⟨u, hu⟩ := hpc.cell j (by omega); rw [show wc.drew.cell? ⟨bp, op + j, none⟩ = some u from hu]; rfl) j (by rw [bytesAt_length]; exact hj)
    rw [this]
    simp [bytesAt]
  · intro o ho
    rw [K4.cell (p := ⟨bp, o, none⟩) hbpl (by simpa using g1), World.cell?_setCells_out _ _ _ _ _ (fun _ _ => by simp only [bytesAt_length]; exact ho)]
    exact (hkp.cell (p := ⟨bp, o, none⟩) hp.lt (by simp [g1, g2, g3]))
  · intro o
    rw [K4.frozen (p := ⟨bp, o, none⟩) hbpl (by simpa using g1), World.frozen?_setCells]
    exact (hkp.frozen (p := ⟨bp, o, none⟩) hp.lt (by simp [g1, g2, g3]))
  · exact (((hkp.mono (fun x hx => by simp at hx ⊢; rcases hx with h | h | h <;> simp [h])).trans (K1.mono (fun x hx => by simp at hx ⊢; simp [hx])))).trans (K4.mono (fun x hx => by simp at hx ⊢; simp [hx]))

/-- Behind the read into the buffer. -/
theorem mid_read {bb bf br bd : Nat} {d : Nat → Int} {n pos r k : Nat} {w w3 w1 : World} (h : Rd bb bf br (some ⟨bd, 0, none⟩) d n pos r r w) (hpn : pos < n) (hk3 : 1 ≤ k) (K3 : Kept [bb] w w3) (K44 : Kept [br, bf] w3 w1)
    (BR44 : BR br (some ⟨bd, 0, none⟩) n (pos + k) w1) (B44 : BF bb bf br 0 0 .nilIface w1) (hcell : ∀ j, j < k → w1.cell? ⟨bf, 0 + j, none⟩ = some (.int .u8 (d (pos + j))))
    (hother : ∀ o, (o < 0 ∨ 0 + k ≤ o) → w1.cell? ⟨bf, o, none⟩ = w3.cell? ⟨bf, o, none⟩) (hfz : ∀ o, w1.frozen? ⟨bf, o, none⟩ = w3.frozen? ⟨bf, o, none⟩) (hk1 : k ≤ n - pos) (hk2 : k ≤ 4096) :
    Mid39 bb bf br (some ⟨bd, 0, none⟩) d n pos w ((w1.setCell ⟨bb, 4, none⟩ .nilIface).setCell ⟨bb, 3, none⟩ (.int .i64 (k : Int))) := by
  have n1 := h.n1; have n2 := h.n2; have n3 := h.n3
  have Kz : Kept [bb] w1 ((w1.setCell ⟨bb, 4, none⟩ .nilIface).setCell ⟨bb, 3, none⟩ (.int .i64 (k : Int))) := ((Kept.refl _ _).setCell (p := ⟨bb, 4, none⟩) (by simp) _).setCell (p := ⟨bb, 3, none⟩) (by simp) _
  have Bz := (B44.set4 .nilIface).set3 k
  have hrm3 := h.room.keep K3 (by simpa using fun e => n1 e.symm)
  have hrm1 : Room bf 0 4096 w1 := by
    refine ⟨fun j hj => ?_, fun j => (hfz j).trans (hrm3.fr j), Nat.lt_of_lt_of_le hrm3.lt K44.size⟩
    by_cases hjk : j < k
    · exact ⟨_, hcell j hjk⟩
    · obtain ⟨y, hy⟩ := hrm3.cell j hj
      exact ⟨y, (hother (0 + j) (.inr (by omega))).trans hy⟩
  refine ⟨0, k, ⟨Bz, ?_, by omega, hk2, by omega, ?_, hrm1.keep Kz (by simpa using fun e => n1 e.symm), n1, n2, n3, ?_⟩, by omega, ?_⟩
  · have := BR44.keep Kz (by simpa using fun e => n2 e.symm)
    simpa using this
  · intro j hj
    rw [Kz.cell (p := ⟨bf, 0 + j, none⟩) hrm1.lt (by simpa using fun e => n1 e.symm)]
    exact hcell j (by omega)
  · rcases h.dat with h0 | ⟨bd', e, hl, q1, q2, q3, hc⟩
    · exact .inl h0
    · obtain rfl : bd = bd' := by injection e with e; injection e
      have l3 := Nat.lt_of_lt_of_le hl K3.size
      have l1 := Nat.lt_of_lt_of_le l3 K44.size
      refine .inr ⟨bd, rfl, Nat.lt_of_lt_of_le l1 Kz.size, q1, q2, q3, fun j hj => ?_⟩
      rw [Kz.cell (p := ⟨bd, j, none⟩) l1 (by simpa using q1), K44.cell (p := ⟨bd, j, none⟩) l3 (by simpa using ⟨q3, q2⟩), K3.cell (p := ⟨bd, j, none⟩) hl (by simpa using q1)]
      exact hc j hj
  · exact ((K3.mono (by simp)).trans (K44.mono (fun x hx => by simp at hx ⊢; rcases hx with h | h <;> simp [h]))).trans (Kz.mono (by simp))

/-- At the end. -/
theorem eof_end {bb bf br : Nat} {sa : Option Addr} {d : Nat → Int} {pos r : Nat} {u : TypeId} {v : Value} {w w3 w1 w2 : World} (h : Rd bb bf br sa d pos pos r r w) (K3 : Kept [bb] w w3) (K44 : Kept [] w3 w1) (x : Value)
    (K46 : Kept [bb] (w1.setCell ⟨bb, 4, none⟩ x) w2) (B46 : BF bb bf br 0 0 .nilIface w2) : Eof39 bb bf br sa d pos pos u v w (.returned (.tuple #[.int .i64 0, .iface u v])) w2 := by
  have n1 := h.n1; have n2 := h.n2; have n3 := h.n3
  have K : Kept [bb] w w2 := ((K3.trans (K44.mono (by simp))).setCell (p := ⟨bb, 4, none⟩) (by simp) _).trans K46
  refine ⟨rfl, K.mono (by simp), 0, 0, ⟨B46, ?_, by omega, by omega, by omega, fun j hj => by omega, h.room.keep K (by simpa using fun e => n1 e.symm), n1, n2, n3, ?_⟩⟩
  · have := h.brs.keep K (by simpa using fun e => n2 e.symm)
    rw [show pos + (r - r) = pos by omega] at this
    simpa using this
  · rcases h.dat with h0 | ⟨bd, e, hl, q1, q2, q3, hc⟩
    · exact .inl h0
    · exact .inr ⟨bd, e, Nat.lt_of_lt_of_le hl K.size, q1, q2, q3, fun j hj => (K.cell (p := ⟨bd, j, none⟩) hl (by simpa using q1)).trans (hc j hj)⟩

set_option maxHeartbeats 2000000 in
set_option maxRecDepth 100000 in
theorem read_any (bb bf br bp op m c : Nat) (sa : Option Addr) (d : Nat → Int) (n pos r q : Nat) (u : TypeId) (v : Value) (w : World) (h : Rd bb bf br sa d n pos r q w) (hn : n ≤ 131072) (hm1 : 1 ≤ m) (hm : m ≤ 8)
    (g1 : bp ≠ bb) (g2 : bp ≠ bf) (g3 : bp ≠ br) (g4 : ∀ bd, sa = some ⟨bd, 0, none⟩ → bd ≠ bp) (hp : Room bp op m w) (hg : w.cell? ⟨2, 0, none⟩ = some (.iface u v)) (hg2 : 2 ≠ bb) (hgl : 2 < w.heap.size) :
    Calls Tryd.prog 39 #[.pointer (some ⟨bb, 0, none⟩), .slice (some ⟨bp, op, none⟩) m c] w (R39 bb bf br bp op m sa d n pos u v w) := by
  have hr := h.hr; have hq := h.hq; have hin := h.hin
  obtain ⟨c0, c1, c2, c3, c4, ⟨v5, c5⟩, ⟨v6, c6⟩, fr, lt⟩ := id h.bfs
  have hm0 : ¬ ((m : Int) = 0) := by omega
  have hm0b : ((m : Int) == 0) = false := by simpa using hm0
  go_enter Tryd.func39, Tryd.ntmps39
  go_wp2_with fail
  go_quiet (fail)
  go_upto_if 23 with fail
  go_cut [4, 5] from 23 to 108 (fun s4 s5 wx => (∃ x, s4 = .int .i64 x) ∧ s5 = .nilIface ∧ Mid39 bb bf br sa d n pos w wx)
  case first =>
    by_cases hlt : r < q
    · have hbe : ((r : Int) == (q : Int)) = false := by simp; omega
      go_wp2_with fail
      go_meet
      case rel => exact ⟨⟨_, rfl⟩, rfl, r, q, h.keep (S := []) ((Kept.refl _ _).drewN _) (by simp) (by simp) (by simp) (by simp), hlt, (Kept.refl _ _).drewN _⟩
    · obtain rfl : r = q := by omega
      have hbe : ((r : Int) == (r : Int)) = true := by simp
      have hm4 : ¬ (4096 : Int) ≤ (m : Int) := by omega
      have hm4n : ¬ 4096 ≤ m := by omega
      have fr2 := fr 2; have fr3 := fr 3; have fr4 := fr 4
      have hbr0 := h.brs
      rw [show pos + (r - r) = pos by omega] at hbr0
      have B3 : ∀ nq, BF bb bf br 0 0 .nilIface (((w.drewN nq).setCell ⟨bb, 2, none⟩ (.int .i64 0)).setCell ⟨bb, 3, none⟩ (.int .i64 0)).drew := fun nq => (((h.bfs.keep (S := []) ((Kept.refl _ w).drewN nq) (by simp)).set2 0).set3 0).keep (S := []) (Kept.refl _ _).drew (by simp)
      have K3 : ∀ nq, Kept [bb] w (((w.drewN nq).setCell ⟨bb, 2, none⟩ (.int .i64 0)).setCell ⟨bb, 3, none⟩ (.int .i64 0)).drew := fun nq => ((((Kept.refl _ _).drewN nq).setCell (p := ⟨bb, 2, none⟩) (by simp) _).setCell (p := ⟨bb, 3, none⟩) (by simp) _).drew
      have hz : ∀ nq, _ ∧ _ := fun nq => ⟨(B3 nq).c0, (B3 nq).c1⟩
      have hbr3 := fun nq => hbr0.keep (K3 nq) (by simpa using fun e => h.n2 e.symm)
      have hrm3 := fun nq => h.room.keep (K3 nq) (by simpa using fun e => h.n1 e.symm)
      by_cases hpn : pos < n
      · obtain ⟨k, hk⟩ : ∃ k, k = Nat.min (n - pos) 4096 := ⟨_, rfl⟩
        have hdat := h.dat
        rcases hdat with h0 | ⟨bd, rfl, hdl, q1, q2, q3, hdc⟩
        · omega
        have hd3 : ∀ nq j, j < n → (((w.drewN nq).setCell ⟨bb, 2, none⟩ (.int .i64 0)).setCell ⟨bb, 3, none⟩ (.int .i64 0)).drew.cell? ⟨bd, j, none⟩ = some (.int .u8 (d j)) := fun nq j hj => ((K3 nq).cell (p := ⟨bd, j, none⟩) hdl (by simpa using q1)).trans (hdc j hj)
        have HDC : Hid (∀ j, j < n → w.cell? ⟨bd, j, none⟩ = some (.int .u8 (d j))) := hdc
        have HD3 : Hid (∀ nq j, j < n → (((w.drewN nq).setCell ⟨bb, 2, none⟩ (.int .i64 0)).setCell ⟨bb, 3, none⟩ (.int .i64 0)).drew.cell? ⟨bd, j, none⟩ = some (.int .u8 (d j))) := hd3
        have HK : Hid (k = Nat.min (n - pos) 4096) := hk
        have hk1 : k ≤ n - pos := by rw [hk]; exact Nat.min_le_left _ _
        have hk2 : k ≤ 4096 := by rw [hk]; exact Nat.min_le_right _ _
        have hk3 : 1 ≤ k := by rw [hk]; exact Nat.le_min.2 ⟨by omega, by omega⟩
        clear hdc hd3 hk
        have hk0 : ¬ (k : Int) = 0 := by omega
        have hk0b : ((k : Int) == 0) = false := by simpa using hk0
        have hkn : ¬ (k : Int) < 0 := by omega
        have hkw : IntKind.i64.wrap (k : Int) = (k : Int) := by rw [IntWalk.i64_in] <;> omega
        go_wp2_with fail
        go_region_held3 (fun w' => w'.cell? ⟨bb, 0, none⟩ = some (.slice (some ⟨bf, 0, none⟩) 4096 4096) ∧ w'.cell? ⟨bb, 1, none⟩ = some (.iface 36 (.pointer (some ⟨br, 0, none⟩)))) (first | with_reducible exact hz _ | with_reducible exact hz1 | with_reducible exact hz4 _ | go_keep)
          (first | (go_at_call 44; refine (readA_some br bd bf 0 d n pos k 4096 4096 _ (hbr3 _) hpn hn (by omega) HK.out (HD3.out _) (hrm3 _) q3 h.n3).mono ?_; rintro e w1 ⟨rfl, K44, BR44, hcell, hother, hfz⟩; have B44 := (B3 _).keep K44 (by simpa using ⟨h.n2, h.n1⟩); have hz1 : _ ∧ _ := ⟨B44.c0, B44.c1⟩; have hz4 : ∀ er, _ ∧ _ := fun er => ⟨(B44.set4 er).c0, (B44.set4 er).c1⟩; have x4 := B44.c4; have y4 := B44.fr 4; have x3 := B44.c3; have y3 := B44.fr 3))
        go_wp2_with fail
        go_meet
        case rel => exact ⟨⟨_, rfl⟩, rfl, mid_read h hpn hk3 (K3 nq) K44 BR44 B44 hcell hother hfz hk1 hk2⟩
      · obtain rfl : pos = n := by omega
        have hg3 := fun nq => ((K3 nq).cell (p := ⟨2, 0, none⟩) hgl (by simpa using hg2)).trans hg
        go_wp2_with fail
        go_region_held3 (fun w' => w'.cell? ⟨bb, 0, none⟩ = some (.slice (some ⟨bf, 0, none⟩) 4096 4096) ∧ w'.cell? ⟨bb, 1, none⟩ = some (.iface 36 (.pointer (some ⟨br, 0, none⟩)))) (first | with_reducible exact hz _ | with_reducible exact hz1 | with_reducible exact hz4 _ | go_keep)
          (first | (go_at_call 44; refine (readA_end br sa _ pos 4096 4096 u v _ (hbr3 _) (hg3 _)).mono ?_; rintro e w1 ⟨rfl, K44⟩; have B44 := (B3 _).keep K44 (by simp); have hz1 : _ ∧ _ := ⟨B44.c0, B44.c1⟩; have hz4 : ∀ er, _ ∧ _ := fun er => ⟨(B44.set4 er).c0, (B44.set4 er).c1⟩; have x4 := B44.c4; have y4 := B44.fr 4; have x3 := B44.c3; have y3 := B44.fr 3))
        have B45 := B44.set4 (.iface u v)
        go_wp2_with (go_at_call 42; refine (readErr_any bb bf br 0 0 _ _ B45).mono ?_; rintro e w2 ⟨rfl, B46, K46⟩)
        go_ret2
        exact .inr ⟨rfl, eof_end h (K3 nq) K44 (.iface u v) K46 B46⟩
  case rest =>
    clear c0 c1 c2 c3 c4 c5 c6 fr lt hr hq hin
    obtain ⟨⟨x, rfl⟩, rfl, r', q', hR, hrq, hkp⟩ := hcut
    have hq := hR.hq; have hin := hR.hin
    have c0 := hR.bfs.c0; have c2 := hR.bfs.c2; have c3 := hR.bfs.c3
    have fr2 := hR.bfs.fr 2; have fr5 := hR.bfs.fr 5; have fr6 := hR.bfs.fr 6
    obtain ⟨y5, c5⟩ := hR.bfs.c5
    obtain ⟨y6, c6⟩ := hR.bfs.c6
    obtain ⟨k, hk⟩ : ∃ k, k = Nat.min (q' - r') m := ⟨_, rfl⟩
    have HG : Hid (∀ x5 x6, Got39 bb bf br bp op m sa d n pos w (.returned (.tuple #[.int .i64 (k : Nat), .nilIface]))
      (((((wc.drew.setCells bp op (bytesAt d pos k)).setCell ⟨bb, 2, none⟩ (.int .i64 ((r' + k : Nat) : Int))).setCell ⟨bb, 5, none⟩ x5)).drew.setCell ⟨bb, 6, none⟩ x6)) := fun x5 x6 => got_end x5 x6 hR hrq hm1 hk hkp g1 g2 g3 g4 hp
    have hk1 : k ≤ q' - r' := by rw [hk]; exact Nat.min_le_left _ _
    have hk2 : k ≤ m := by rw [hk]; exact Nat.min_le_right _ _
    have hk3 : 1 ≤ k := by rw [hk]; exact Nat.le_min.2 ⟨by omega, hm1⟩
    have hlen := bytesAt_length d pos k
    have HL : Hid ((bytesAt d pos k).length = Nat.min (q' - r') m) := (bytesAt_length _ _ _).trans hk
    clear hk
    have hpc := hp.keep hkp (by simp [g1, g2, g3])
    have HS : Hid (∀ (j : Nat) (v : Value), (bytesAt d pos k)[j]? = some v → wc.drew.cell? ((⟨bf, r', none⟩ : Addr).add j) = some v) := by
      intro j v hj
      obtain ⟨hjk, rfl⟩ := bytesAt_get _ _ _ _ _ hj
      have hz : ((⟨bf, r', none⟩ : Addr).add j) = ⟨bf, r' + j, none⟩ := by
        simp only [Addr.add]
        split
        · rename_i h0; simp_all
        · rfl
      rw [hz]
      exact hR.buf j (by omega)
    have HC : Hid (∀ (j : Nat), j < (bytesAt d pos k).length → (wc.drew.cell? ⟨bp, op + j, none⟩).isSome = true) := by
      intro j hj
      rw [bytesAt_length] at hj
      obtain ⟨u, hu⟩ := hpc.cell j (by omega)
      rw [show wc.drew.cell? ⟨bp, op + j, none⟩ = some u from hu]
      rfl
    have HF : Hid (∀ (j : Nat), j < (bytesAt d pos k).length → wc.drew.frozen? ⟨bp, op + j, none⟩ = false) := fun j _ => hpc.fr (op + j)
    have K1 : Kept [bp] wc (wc.drew.setCells bp op (bytesAt d pos k)) := Kept.setCells (by simp) _ _ (Kept.refl _ _).drew
    have B1 := hR.bfs.keep K1 (by simpa using fun e => g1 e.symm)
    obtain ⟨s, hs⟩ : ∃ s, s = r' + k := ⟨_, rfl⟩
    obtain ⟨s1, hs1⟩ : ∃ s1, s1 = r' + (k - 1) := ⟨_, rfl⟩
    have bl : (wc.drew.setCells bp op (bytesAt d pos k)).cell? ⟨bf, s1, none⟩ = some (.int .u8 (d (pos + (k - 1)))) := by
      rw [K1.cell (p := ⟨bf, s1, none⟩) hR.room.lt (by simpa using fun e => g2 e.symm), hs1]
      exact hR.buf (k - 1) (by omega)
    have d0 := B1.c0; have d2 := B1.c2; have d3 := B1.c3
    have e2 := B1.fr 2; have e5 := B1.fr 5; have e6 := B1.fr 6
    obtain ⟨z5, d5⟩ := B1.c5
    obtain ⟨z6, d6⟩ := B1.c6
    have hx : _ ∧ _ ∧ _ := ⟨d0, d2, d3⟩
    have hadd : IntKind.i64.wrap ((r' : Int) + k) = (s : Int) := by rw [IntWalk.i64_in] <;> omega
    have hsub : IntKind.i64.wrap ((s : Int) - 1) = (s1 : Int) := by rw [IntWalk.i64_in] <;> omega
    have hs1b : (s1 : Int) < 4096 := by omega
    have hs1c : s1 < 4096 := by omega
    have hrle : r' ≤ q' := by omega
    have hr40 : ¬ 4096 = r' := by omega
    have hri1 : (0 : Int) ≤ (r' : Int) := by omega
    have hri2 : (r' : Int) ≤ (q' : Int) := by omega
    have hri3 : (q' : Int) ≤ 4096 := by omega
    have hqi : (0 : Int) ≤ (q' : Int) := by omega
    have hbfb : bf ≠ bb := fun e => hR.n1 e.symm
    rw [← hs] at HG
    have B2 := (B1.set2 s).keep (S := []) (Kept.refl _ _).drew (by simp)
    have b2l : ((wc.drew.setCells bp op (bytesAt d pos k)).setCell ⟨bb, 2, none⟩ (.int .i64 (s : Int))).drew.cell? ⟨bf, s1, none⟩ = some (.int .u8 (d (pos + (k - 1)))) :=
      (World.cell?_setCell_other _ _ _ _ (fun e => hbfb (by injection e with e1 _ _; exact e1.symm))).trans bl
    have hy : _ ∧ _ ∧ _ := ⟨B2.c0, B2.c2, b2l⟩
    have B5 := fun x5 => ((B1.set2 s).set5 x5).keep (S := []) (Kept.refl _ _).drew (by simp)
    have hy5 : ∀ x5, _ ∧ _ ∧ ((((wc.drew.setCells bp op (bytesAt d pos k)).setCell ⟨bb, 2, none⟩ (.int .i64 (s : Int))).setCell ⟨bb, 5, none⟩ x5).drew.cell? ⟨bf, s1, none⟩ = some (.int .u8 (d (pos + (k - 1))))) := fun x5 => ⟨(B5 x5).c0, (B5 x5).c2, (World.cell?_setCell_other _ ⟨bb, 5, none⟩ _ x5 (fun e => hbfb (by injection e with e1 _ _; exact e1.symm))).trans b2l⟩
    clear hR hp hpc h hkp hs hs1 B2 B5
    go_wp2_with fail
    go_region_held3 (fun w' => w'.cell? ⟨bb, 0, none⟩ = some (.slice (some ⟨bf, 0, none⟩) 4096 4096) ∧ w'.cell? ⟨bb, 2, none⟩ = some (.int .i64 r') ∧ w'.cell? ⟨bb, 3, none⟩ = some (.int .i64 q')) (first | with_reducible exact hx | go_keep)
      (refine step_copy_cells rfl (.tmp 109) (.tmp 122) 22 22 rfl 5 Tryd.underlying22 size5 bp op m c ⟨bf, r', none⟩ (q' - r') (4096 - r') (by simp [Act.eval]) (by simp [Act.eval]) (bytesAt d pos k) HL.out HS.out HC.out HF.out (bytesAt_one _ _ _) ?_)
    go_wp2_with fail
    go_region_held3 (fun w' => w'.cell? ⟨bb, 0, none⟩ = some (.slice (some ⟨bf, 0, none⟩) 4096 4096) ∧ w'.cell? ⟨bb, 2, none⟩ = some (.int .i64 s) ∧ w'.cell? ⟨bf, s1, none⟩ = some (.int .u8 (d (pos + (k - 1))))) (first | with_reducible exact hy | with_reducible exact hy5 _ | go_keep) (fail)
    go_wp2_with fail
    go_ret2
    exact .inl ⟨by omega, HG.out _ _⟩
end Go.Proofs.Qxb6609082aDoor
