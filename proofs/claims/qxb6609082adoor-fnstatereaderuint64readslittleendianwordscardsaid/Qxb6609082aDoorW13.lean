import Derived.Test.Qxb6609082aDoorW12
namespace Go.Proofs.Qxb6609082aDoor
open Go Go.RowKit

/-- It returns true; what was there is as it was. -/
def RT (w : World) (e : Ending) (w' : World) : Prop := e = .returned (.bool true) ∧ Below w.heap.size w w'

theorem Env.below {ae : Addr} {u3 : TypeId} {v3 : Value} {w w' : World} (E : Env ae u3 v3 w) (B : Below w.heap.size w w') : Env ae u3 v3 w' :=
  ⟨(B.cell (p := ⟨2, 0, none⟩) (by have := E.sz; show 2 < _; omega)).trans E.e2, (B.cell (p := ⟨3, 0, none⟩) E.sz).trans E.e3, Nat.lt_of_lt_of_le E.sz B.size⟩

theorem q_whole {k q i : Nat} (h : q = k / 8) (hi : i < q) : 8 * i + 8 ≤ k := by omega
theorem q_fits {k q : Nat} (h : q = k / 8) : 8 * q ≤ k := by omega
theorem q_fits2 {k q l j : Nat} (h : q = k / 8) (h2 : l = k + j) : 8 * q ≤ l := by omega
theorem q_past {k q : Nat} (h : q = k / 8) : k < 8 * (q + 1) := by omega
theorem le17 {k : Nat} (h : k ≤ 65536) : k ≤ 131072 := by omega
theorem q_wrap {k q : Nat} (h : q = k / 8) (hk : k ≤ 65536) : (Int.tdiv (k : Int) 8 = (q : Int)) ∧ wrap64 (q : Int) = (q : Int) := by
  refine ⟨?_, ?_⟩
  · rw [Int.tdiv_eq_ediv_of_nonneg (by omega), h]; omega
  · rw [IntWalk.wrap64_in] <;> omega
theorem r_rem {k r : Nat} (h : r = k % 8) : Int.tmod (k : Int) 8 = (r : Int) := by
  rw [Int.tmod_eq_emod_of_nonneg (by omega), h]; omega

theorem r_mask {r : Nat} (h : r < 8) : IntKind.u64.wrap (IntKind.u64.wrap (2 ^ min (IntKind.u64.wrap (8 * IntKind.u64.wrap (r : Int))).toNat 64) - 1) = (2 : Int) ^ (8 * r) - 1 := by
  have e : r = 0 ∨ r = 1 ∨ r = 2 ∨ r = 3 ∨ r = 4 ∨ r = 5 ∨ r = 6 ∨ r = 7 := by omega
  rcases e with rfl | rfl | rfl | rfl | rfl | rfl | rfl | rfl <;> decide

theorem step_wrap {k q i : Nat} (h : q = k / 8) (hk : k ≤ 65536) (hi : i < q) : wrap64 ((i : Int) + 1) = (i : Int) + 1 ∧ IntKind.i64.wrap ((i : Int) + 1) = (i : Int) + 1 := by
  refine ⟨?_, ?_⟩
  · rw [IntWalk.wrap64_in] <;> omega
  · rw [IntWalk.i64_in] <;> omega
theorem meas {q i : Nat} (h : i < q) : q - (i + 1) < q - i := by omega
theorem last_wrap {k q : Nat} (h : q = k / 8) (hk : k ≤ 65536) : IntKind.i64.wrap (8 * (q : Int)) = ((8 * q : Nat) : Int) ∧ IntKind.i64.wrap (((8 * q : Nat) : Int) + 8) = ((8 * (q + 1) : Nat) : Int) := by
  refine ⟨?_, ?_⟩ <;> rw [IntWalk.i64_in] <;> omega

theorem failed_no {bs bb bf br bh : Nat} {sa : Option Addr} {d : Nat → Int} {n i : Nat} {h : Int} {w : World} (s : SR bs bb bf br bh sa d n i h w) (hi : 8 * i ≤ n) : Calls Tryd.prog 9 #[.pointer (some ⟨bs, 0, none⟩)] w (R9 w false) := by
  have := failed_any bs bb bf br bh sa d n i h w s
  rwa [show decide (n < 8 * i) = false by simp; omega] at this
theorem failed_yes {bs bb bf br bh : Nat} {sa : Option Addr} {d : Nat → Int} {n i : Nat} {h : Int} {w : World} (s : SR bs bb bf br bh sa d n i h w) (hi : n < 8 * i) : Calls Tryd.prog 9 #[.pointer (some ⟨bs, 0, none⟩)] w (R9 w true) := by
  have := failed_any bs bb bf br bh sa d n i h w s
  rwa [show decide (n < 8 * i) = true by simp; omega] at this

/-- The two readers behind i words each. -/
def Two (w : World) (xs xb xf xr xh : Nat) (sa : Option Addr) (da : Nat → Int) (k : Nat) (ys yb yf yr yh : Nat) (sj : Option Addr) (dj : Nat → Int) (l i : Nat) (wv : World) : Prop :=
  Below w.heap.size w wv ∧ ∃ h h', SR xs xb xf xr xh sa da k i h wv ∧ SR ys yb yf yr yh sj dj l i h' wv

set_option maxHeartbeats 2000000 in
theorem trunc_any (a b : Option Addr) (da db : Nat → Int) (n m ca cb : Nat) (ae : Addr) (u3 : TypeId) (v3 : Value) (w : World) (ha0 : a = none → ca = 0) (hb0 : b = none → cb = 0) (hn : n ≤ maxLen) (hm : m ≤ maxLen)
    (ha : In22 w a da n) (hb : In22 w b db m) (da8 : ∀ j, 0 ≤ da j ∧ da j < 256) (db8 : ∀ j, 0 ≤ db j ∧ db j < 256) (E : Env ae u3 v3 w) :
    Calls Tryd.prog 4 #[.slice a n ca, .slice b m cb] w (RT w) := by
  go_enter Tryd.func4, Tryd.ntmps4
  go_wp2_with fail
  refine (bytes12_any a b n ca m cb w hn hm).mono ?_
  rintro e w' ⟨bb, rfl, rfl⟩
  cases bb with
  | false =>
    go_wp2_with fail
    go_ret
    exact ⟨rfl, Below.refl _ _⟩
  | true =>
    by_cases hbig : (n ≤ 65536 ∧ m ≤ 65536)
    · obtain ⟨hn6, hm6⟩ := hbig
      have t1 : ¬ (65536 : Int) < (n : Int) := by omega
      have t2 : ¬ (65536 : Int) < (m : Int) := by omega
      go_wp2_with fail
      refine (clone_any a da n ca w' ha0 (by omega) ha).mono ?_
      rintro e w1 ⟨sa, rfl, B1, S1, L1⟩
      go_wp2_with fail
      refine (clone_any b db m cb w1 hb0 (by omega) ?_).mono ?_
      · rcases hb with h | ⟨bb, e, hc⟩
        · exact .inl h
        · exact .inr ⟨bb, e, fun j hj => ⟨(hc j hj).1, Nat.lt_of_lt_of_le (hc j hj).2.1 B1.size, (B1.cell (p := ⟨bb.block, bb.off + j, none⟩) (hc j hj).2.1).trans (hc j hj).2.2⟩⟩
      rintro e w2 ⟨sb, rfl, B2, S2, L2⟩
      obtain ⟨l, hl⟩ : ∃ l, l = n + m := ⟨_, rfl⟩
      have hmk := run_make22 l (by omega)
      have hsum : IntKind.i64.wrap ((n : Int) + m) = (l : Int) := by rw [IntWalk.i64_in] <;> omega
      have HL : Hid (l = n + m) := hl
      clear hl
      have SA := S1.below B2 (Nat.le_refl _)
      go_wp2_with fail
      go_loopw [6] (fun i wr => ∃ k : Nat, k ≤ n ∧ i = .int .i64 k ∧ Below w2.heap.size w2 wr ∧ Fill w2.heap.size (join da db n) l k wr) (fun i _ => n - (intOf i).toNat)
      case atStart => exact ⟨0, Nat.zero_le _, rfl, (Below.refl _ w2).alloc (Nat.le_refl _) _, Fill.made w2 _ l⟩
      case round =>
        obtain ⟨k, hk, rfl, hbl, hF⟩ := hrel
        by_cases hlt : k < n
        · have hlti : (k : Int) < (n : Int) := by omega
          rcases SA.dat with h0 | ⟨bd, e0, hbd, hcd⟩
          · omega
          subst e0
          have hck := (hbl.cell (p := ⟨bd, k, none⟩) hbd).trans (hcd k hlt)
          have hkl : k < l := by have := HL.out; omega
          have hkli : (k : Int) < (l : Int) := by omega
          have hx := hF.cell k hkl
          have hf := hF.fr k
          have hst := hF.step hkl
          rw [show join da db n k = da k by unfold join; rw [if_pos hlt]] at hst
          clear hcd
          go_wp2_with fail
          go_roundw
          case rel => exact ⟨k + 1, by omega, by go_num, hbl.setCell (p := ⟨w2.heap.size, k, none⟩) (Nat.le_refl _) _, hst⟩
          case measure => simp [intOf]; omega
        · obtain rfl : k = n := by omega
          go_wp2_with fail
          go_loopw [7] (fun i wr => ∃ j : Nat, j ≤ m ∧ i = .int .i64 j ∧ Below w2.heap.size w2 wr ∧ Fill w2.heap.size (join da db k) l (k + j) wr) (fun i _ => m - (intOf i).toNat)
          case atStart => exact ⟨0, Nat.zero_le _, rfl, hbl, hF⟩
          case round =>
            obtain ⟨j, hj, rfl, hbl2, hF2⟩ := hrel
            by_cases hlt2 : j < m
            · have hlti : (j : Int) < (m : Int) := by omega
              rcases S2.dat with h0 | ⟨bd, e0, hbd, hcd⟩
              · omega
              subst e0
              have hck := (hbl2.cell (p := ⟨bd, j, none⟩) hbd).trans (hcd j hlt2)
              obtain ⟨s, hs⟩ : ∃ s, s = k + j := ⟨_, rfl⟩
              have hkl : s < l := by have := HL.out; omega
              have hkli : (s : Int) < (l : Int) := by omega
              rw [← hs] at hF2
              have hx := hF2.cell s hkl
              have hf := hF2.fr s
              have hst := hF2.step hkl
              rw [show join da db k s = db j by unfold join; rw [if_neg (by omega), hs, Nat.add_sub_cancel_left]] at hst
              have hsw : IntKind.i64.wrap ((k : Int) + j) = (s : Int) := by rw [IntWalk.i64_in] <;> omega
              have HS : Hid (s = k + j) := hs
              clear hcd hs
              go_wp2_with fail
              go_roundw
              case rel => exact ⟨j + 1, by omega, by go_num, hbl2.setCell (p := ⟨w2.heap.size, s, none⟩) (Nat.le_refl _) _, by rw [← Nat.add_assoc, ← HS.out]; exact hst⟩
              case measure => simp [intOf]; omega
            · obtain rfl : j = m := by omega
              have SAr := SA.below hbl2 (Nat.le_refl _)
              have SJ : Src (some ⟨w2.heap.size, 0, none⟩) (join da db k) l wr := ⟨.inr ⟨_, rfl, hF2.lt, fun t ht => by rw [hF2.cell t ht, if_pos (by have := HL.out; omega)]⟩, fun bd e => by injection e with e; injection e with e1; subst e1; exact hF2.lt⟩
              have B0 : Below w'.heap.size w' wr := B1.trans ((B2.mono B1.size).trans (hbl2.mono (Nat.le_trans B1.size B2.size)))
              have hsz : 3 < wr.heap.size := Nat.lt_of_lt_of_le E.sz B0.size
              have hl17 : l ≤ 131072 := by have := HL.out; omega
              clear hF hF2 hbl SA S1 S2 ha hb
              go_wp2_with fail
              refine (new_any sa da k wr SAr hsz).mono ?_
              rintro e w4 ⟨xs, xb, xf, xr, xh, rfl, B4, Ra, a1, a2, a3, a4, a5⟩
              go_wp2_with fail
              refine (new_any _ (join da db k) l w4 (SJ.below B4 (Nat.le_refl _)) (Nat.lt_of_lt_of_le hsz B4.size)).mono ?_
              rintro e w5 ⟨ys, yb, yf, yr, yh, rfl, B5, Rj, j1, j2, j3, j4, j5⟩
              have Ra5 := Ra.keep (S := []) (Kept.ofBelow B5) (by simp) (by simp) (by simp) (by simp) (by simp) (by simp)
              have z0 := Ra.ls; have z1 := Ra.lb; have z2 := Ra.lh
              obtain ⟨z3, z4, z5, _⟩ := z1
              have dJ : ∀ bd, sa = some ⟨bd, 0, none⟩ → bd < wr.heap.size := fun bd e => SAr.lt bd e
              have dB : w2.heap.size < wr.heap.size := SJ.lt _ rfl
              have w0N : w'.heap.size ≤ wr.heap.size := B0.size
              have B05 : Below w'.heap.size w' w5 := (B0.trans (B4.mono w0N)).trans (B5.mono (Nat.le_trans w0N B4.size))
              clear B1 B2 hbl2 hmk hsum Ra SAr SJ B4 B5 B0
              obtain ⟨q, hq⟩ : ∃ q, q = k / 8 := ⟨_, rfl⟩
              obtain ⟨hquo, hqw⟩ := q_wrap hq hn6
              have HQ : Hid (q = k / 8) := hq
              clear hq
              go_wp2_with fail
              simp only [hqw]
              go_loopw [11] (fun s11 wv => ∃ i : Nat, i ≤ q ∧ s11 = .int .i64 i ∧ Two w' xs xb xf xr xh sa da k ys yb yf yr yh (some ⟨w2.heap.size, 0, none⟩) (join da db k) l i wv) (fun i _ => q - (intOf i).toNat)
              case atStart => exact ⟨0, Nat.zero_le _, rfl, B05, _, _, Ra5, Rj⟩
              case round =>
                obtain ⟨i, hi, rfl, hbl, h, h', RA, RJ⟩ := hrel
                have ER := E.below hbl
                have kA : Hid (∀ (S : List Nat) (V V' : World), (∀ x, x ∈ S → w4.heap.size ≤ x) → ∀ (i' : Nat) (g : Int), SR xs xb xf xr xh sa da k i' g V → Kept S V V' → SR xs xb xf xr xh sa da k i' g V') := fun S V V' hS i' g R K => R.keep K (fun e => by have := hS _ e; omega) (fun e => by have := hS _ e; omega) (fun e => by have := hS _ e; omega) (fun e => by have := hS _ e; omega) (fun e => by have := hS _ e; omega) (fun bd eb e => by have := hS _ e; have := dJ bd eb; omega)
                have kJ : Hid (∀ (V V' : World) (i' : Nat) (g : Int), SR ys yb yf yr yh (some ⟨w2.heap.size, 0, none⟩) (join da db k) l i' g V → Kept [xs, xb, xf, xr, xh] V V' → SR ys yb yf yr yh (some ⟨w2.heap.size, 0, none⟩) (join da db k) l i' g V') := fun V V' i' g R K => R.keep K (by simp; omega) (by simp; omega) (by simp; omega) (by simp; omega) (by simp; omega) (fun bd eb => by injection eb with eb; injection eb with e1; subst e1; simp; omega)
                have hYS : Hid (∀ x, x ∈ [ys, yb, yf, yr, yh] → w4.heap.size ≤ x) := by unfold Hid; simp; omega
                have nX : Hid (∀ x, x ∈ [xs, xb, xf, xr, xh] → w'.heap.size ≤ x) := by unfold Hid; simp; omega
                have nY : Hid (∀ x, x ∈ [ys, yb, yf, yr, yh] → w'.heap.size ≤ x) := by unfold Hid; simp; omega
                have j8 : Hid (∀ j, 0 ≤ join da db k j ∧ join da db k j < 256) := join_ok da8 db8 k
                by_cases hlt : i < q
                · have hlti : (i : Int) < (q : Int) := Int.ofNat_lt.2 hlt
                  have HLT : Hid (i < q) := hlt
                  obtain ⟨hwi, hwj⟩ := step_wrap HQ.out hn6 hlt
                  have heq : wordAt da k i = wordAt (join da db k) l i := by rw [HL.out]; exact word_prefix (q_whole HQ.out hlt)
                  go_wp2_with fail
                  refine (zzuint_any xs xb xf xr xh sa da k i h ae u3 v3 _ RA (le17 hn6) da8 ER).mono ?_
                  rintro e w6 ⟨he, K6, RA6⟩
                  rw [heq] at he
                  subst he
                  have RJ6 := kJ.out _ _ _ _ RJ K6
                  have B6 : Below w'.heap.size w' w6 := hbl.trans (K6.below hbl.size nX.out)
                  go_wp2_with fail
                  refine (zzuint_any ys yb yf yr yh _ (join da db k) l i h' ae u3 v3 _ RJ6 hl17 j8.out (E.below B6)).mono ?_
                  rintro e w7 ⟨rfl, K7, RJ7⟩
                  have RA7 := kA.out _ _ _ hYS.out _ _ RA6 K7
                  have B7 : Below w'.heap.size w' w7 := B6.trans (K7.below B6.size nY.out)
                  clear kA kJ
                  go_wp2_with fail
                  go_roundw
                  case rel => exact ⟨i + 1, HLT.out, by go_num, B7, _, _, RA7, RJ7⟩
                  case measure => simp [intOf]; exact meas HLT.out
                · obtain rfl : i = q := Nat.le_antisymm hi (Nat.le_of_not_lt hlt)
                  go_wp2_with fail
                  refine (failed_no RA (q_fits HQ.out)).mono ?_
                  rintro e w6 ⟨rfl, rfl⟩
                  go_wp2_with fail
                  refine (failed_no RJ (q_fits2 HQ.out HL.out)).mono ?_
                  rintro e w6 ⟨rfl, rfl⟩
                  go_wp2_with fail
                  refine (zzuint_any xs xb xf xr xh sa da k i h ae u3 v3 _ RA (le17 hn6) da8 ER).mono ?_
                  rintro e w6 ⟨rfl, K6, RA6⟩
                  have RJ6 := kJ.out _ _ _ _ RJ K6
                  have B6 : Below w'.heap.size w' w6 := hbl.trans (K6.below hbl.size nX.out)
                  go_wp2_with fail
                  refine (zzuint_any ys yb yf yr yh _ (join da db k) l i h' ae u3 v3 _ RJ6 hl17 j8.out (E.below B6)).mono ?_
                  rintro e w7 ⟨rfl, K7, RJ7⟩
                  have RA7 := kA.out _ _ _ hYS.out _ _ RA6 K7
                  have B7 : Below w'.heap.size w' w7 := B6.trans (K7.below B6.size nY.out)
                  clear kA kJ
                  obtain ⟨r, hr⟩ : ∃ r, r = k % 8 := ⟨_, rfl⟩
                  have hrem := r_rem hr
                  have hr8 : r < 8 := by rw [hr]; exact Nat.mod_lt _ (by decide)
                  have hmask := r_mask hr8
                  have hand := word_mask da8 db8 k j i r (by rw [HQ.out, hr]; exact (Nat.div_add_mod k 8).symm) hr8
                  rw [← HL.out] at hand
                  generalize (2 : Int) ^ (8 * r) - 1 = mv at hmask hand
                  clear hr hr8
                  have FA := failed_yes RA7 (q_past HQ.out)
                  have FJ := failed_any ys yb yf yr yh _ _ l (i + 1) _ _ RJ7
                  clear RA7 RJ7 RA6 RJ6 RA RJ
                  obtain ⟨hw1, hw2⟩ := last_wrap HQ.out hn6
                  generalize 8 * i = t8 at hw1 hw2
                  generalize hbt : 8 * (i + 1) = t9 at hw2 FJ
                  clear hbt
                  go_wp2_with fail
                  refine FA.mono ?_
                  rintro e w8 ⟨rfl, rfl⟩
                  by_cases hll : l < t9
                  · rw [show decide (l < t9) = true from decide_eq_true hll] at FJ
                    have hlli : (l : Int) < (t9 : Int) := Int.ofNat_lt.2 hll
                    go_wp2_with fail
                    refine FJ.mono ?_
                    rintro e w9 ⟨rfl, rfl⟩
                    go_wp2_with fail
                    go_ret
                    exact ⟨rfl, B7⟩
                  · rw [show decide (l < t9) = false from decide_eq_false hll] at FJ
                    have hlli : ¬ (l : Int) < (t9 : Int) := fun e => hll (Int.ofNat_lt.1 e)
                    go_wp2_with fail
                    refine FJ.mono ?_
                    rintro e w9 ⟨rfl, rfl⟩
                    go_wp2_with fail
                    go_ret
                    exact ⟨rfl, B7⟩
    · by_cases hn7 : n ≤ 65536
      · have t1 : ¬ (65536 : Int) < (n : Int) := by omega
        have t2 : (65536 : Int) < (m : Int) := by omega
        go_wp2_with fail
        go_ret
        exact ⟨rfl, Below.refl _ _⟩
      · have t1 : (65536 : Int) < (n : Int) := by omega
        go_wp2_with fail
        go_ret
        exact ⟨rfl, Below.refl _ _⟩
end Go.Proofs.Qxb6609082aDoor
