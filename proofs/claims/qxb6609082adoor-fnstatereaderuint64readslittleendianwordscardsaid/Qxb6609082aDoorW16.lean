import Derived.Test.Qxb6609082aDoorW15
namespace Go.Proofs.Qxb6609082aDoor
open Go Go.RowKit

theorem t_wrap {K i j : Nat} (hK : K ≤ 65536) (hi : i < K) (hj : j < 8) : IntKind.i64.wrap (8 * (i : Int)) = ((8 * i : Nat) : Int) ∧ IntKind.i64.wrap (((8 * i : Nat) : Int) + (j : Int)) = ((8 * i + j : Nat) : Int) := by
  refine ⟨?_, ?_⟩ <;> rw [IntWalk.i64_in] <;> omega
theorem i_wrap {K i : Nat} (hK : K ≤ 65536) (hi : i < K) : wrap64 ((i : Int) + 1) = (i : Int) + 1 ∧ IntKind.i64.wrap ((i : Int) + 1) = (i : Int) + 1 := by
  refine ⟨?_, ?_⟩
  · rw [IntWalk.wrap64_in] <;> omega
  · rw [IntWalk.i64_in] <;> omega
theorem k_wrap {K : Nat} (hK : K ≤ 65536) : IntKind.i64.wrap (8 * (K : Int)) = ((8 * K : Nat) : Int) := by rw [IntWalk.i64_in] <;> omega
theorem k8_wrap {K : Nat} (hK : K ≤ 524288) : IntKind.i64.wrap (8 * (K : Int)) = ((8 * K : Nat) : Int) := by rw [IntWalk.i64_in] <;> omega
theorem q1_wrap {q : Nat} (hq : q ≤ 65536) : IntKind.i64.wrap ((q : Int) + 1) = ((q + 1 : Nat) : Int) := by rw [IntWalk.i64_in] <;> omega

theorem hash0 (d : Nat → Int) (n : Nat) : hashAt d n 0 = offs := by simp [hashAt, fnvN, offs]

theorem hash_m {d : Nat → Int} {n i m : Nat} (h : m = min i (n / 8 + 1)) : hashAt d n i = fnvN (pad d n) offs (8 * m) := by rw [h]; rfl

theorem fnv0 (b : Nat → Int) : fnvN b offs 0 = 14695981039346656037 := by simp [fnvN, offs]

/-- The reader behind i words. -/
def One (w1 : World) (bs bb bf br bh : Nat) (sa : Option Addr) (d : Nat → Int) (n i : Nat) (wv : World) : Prop :=
  Below w1.heap.size w1 wv ∧ SR bs bb bf br bh sa d n i (hashAt d n i) wv

theorem wsum_in (d : Nat → Int) (n i j t : Nat) (ht : t = 8 * i + j) (h : t < n) : wsum (fun j => pad d n (8 * i + j)) (j + 1) = wsum (fun j => pad d n (8 * i + j)) j + d t * 2 ^ (8 * j) := by
  show _ + pad d n (8 * i + j) * 2 ^ (8 * j) = _
  rw [← ht, show pad d n t = d t by unfold pad; rw [if_pos h]]
theorem wsum_out (d : Nat → Int) (n i j t : Nat) (ht : t = 8 * i + j) (h : ¬ t < n) : wsum (fun j => pad d n (8 * i + j)) (j + 1) = wsum (fun j => pad d n (8 * i + j)) j := by
  show _ + pad d n (8 * i + j) * 2 ^ (8 * j) = _
  rw [← ht, show pad d n t = 0 by unfold pad; rw [if_neg h], Int.zero_mul, Int.add_zero]
theorem fnv_in (d : Nat → Int) (n t : Nat) (h : t < n) : fnvN (pad d n) offs (t + 1) = IntKind.u64.wrap (bits BinOp.xor IntKind.u64 (fnvN (pad d n) offs t) (IntKind.u64.wrap (d t)) * 1099511628211) := by
  show fnvStep _ (pad d n t) = _
  rw [show pad d n t = d t by unfold pad; rw [if_pos h]]
  rfl
theorem fnv_out (d : Nat → Int) (n t : Nat) (h : ¬ t < n) : fnvN (pad d n) offs (t + 1) = IntKind.u64.wrap (bits BinOp.xor IntKind.u64 (fnvN (pad d n) offs t) 0 * 1099511628211) := by
  show fnvStep _ (pad d n t) = _
  rw [show pad d n t = 0 by unfold pad; rw [if_neg h]]
  rfl

theorem i_wrap8 {K i : Nat} (hK : K ≤ 4194304) (hi : i < K) : wrap64 ((i : Int) + 1) = (i : Int) + 1 ∧ IntKind.i64.wrap ((i : Int) + 1) = (i : Int) + 1 := by
  refine ⟨?_, ?_⟩
  · rw [IntWalk.wrap64_in] <;> omega
  · rw [IntWalk.i64_in] <;> omega

set_option maxHeartbeats 2000000 in
theorem words_any (a : Option Addr) (d : Nat → Int) (n ca : Nat) (kk : Int) (ae : Addr) (u3 : TypeId) (v3 : Value) (w : World) (ha0 : a = none → ca = 0) (hn : n ≤ maxLen)
    (ha : In22 w a d n) (d8 : ∀ j, 0 ≤ d j ∧ d j < 256) (E : Env ae u3 v3 w) :
    Calls Tryd.prog 3 #[.slice a n ca, .int .i64 kk] w (RT w) := by
  go_enter Tryd.func3, Tryd.ntmps3
  go_wp2_with fail
  refine (bytes5_any a n ca kk w hn).mono ?_
  rintro e w' ⟨bb, rfl, rfl⟩
  cases bb with
  | false =>
    go_wp2_with fail
    go_ret
    exact ⟨rfl, Below.refl _ _⟩
  | true =>
    by_cases hn6 : n ≤ 65536
    · have t1 : ¬ (65536 : Int) < (n : Int) := by omega
      by_cases hk : 0 ≤ kk ∧ kk ≤ 65536
      · obtain ⟨K, rfl⟩ := Int.eq_ofNat_of_zero_le hk.1
        have hK : K ≤ 65536 := by omega
        have t2 : ¬ (K : Int) < 0 := by omega
        have t3 : ¬ (65536 : Int) < (K : Int) := by omega
        go_wp2_with fail
        refine (clone_any a d n ca w' ha0 (by omega) ha).mono ?_
        rintro e w1 ⟨sa, rfl, B1, S1, L1⟩
        have hsz : 3 < w1.heap.size := Nat.lt_of_lt_of_le E.sz B1.size
        go_wp2_with fail
        refine (new_any sa d n w1 S1 hsz).mono ?_
        rintro e w2 ⟨bs, bb, bf, br, bh, rfl, B2, R2, a1, a2, a3, a4, a5⟩
        have nX : Hid (∀ x, x ∈ [bs, bb, bf, br, bh] → w1.heap.size ≤ x) := by unfold Hid; simp; omega
        have E1 := E.below B1
        clear ha ha0 L1 a1 a2 a3 a4 a5 t2 t3 hk t1
        go_wp2_with fail
        go_loopw [6] (fun s6 wv => ∃ i : Nat, i ≤ K ∧ s6 = .int .i64 i ∧ One w1 bs bb bf br bh sa d n i wv) (fun s6 _ => K - (intOf s6).toNat)
        case atStart => exact ⟨0, Nat.zero_le _, rfl, B2, by rw [hash0]; exact R2⟩
        case round =>
          obtain ⟨i, hi, rfl, B3, R3⟩ := hrel
          clear R2 B2
          by_cases hlt : i < K
          · have hlti : (i : Int) < (K : Int) := Int.ofNat_lt.2 hlt
            obtain ⟨hwi, hwj⟩ := i_wrap hK hlt
            have HLT : Hid (i < K) := hlt
            go_wp2_with fail
            refine (zzuint_any bs bb bf br bh sa d n i _ ae u3 v3 _ R3 (le17 hn6) d8 (E1.below B3)).mono ?_
            rintro e w6 ⟨he, K6, R6⟩
            rw [hash_step] at R6
            rw [wordAt_sum] at he
            subst he
            have B6 : Below w1.heap.size w1 w6 := B3.trans (K6.below B3.size nX.out)
            have SN : Hid (Src sa d n w6) := S1.below B6 (Nat.le_refl _)
            have OK : Hid (One w1 bs bb bf br bh sa d n (i + 1) w6) := ⟨B6, R6⟩
            clear R3 B3 K6 R6 B6
            go_wp2_with fail
            go_loopw [8, 9] (fun s8 s9 wr => ∃ j : Nat, j ≤ 8 ∧ s9 = .int .i64 j ∧ s8 = .int .u64 (wsum (fun j => pad d n (8 * i + j)) j) ∧ wr = w6) (fun _ s9 _ => 8 - (intOf s9).toNat)
            case atStart => exact ⟨0, Nat.zero_le _, rfl, rfl, rfl⟩
            case round =>
              obtain ⟨j, hj, rfl, rfl, rfl⟩ := hrel
              by_cases hltj : j < 8
              · have hltji : (j : Int) < 8 := by omega
                obtain ⟨hw1, hw2⟩ := t_wrap hK HLT.out hltj
                obtain ⟨t, ht⟩ : ∃ t, t = 8 * i + j := ⟨_, rfl⟩
                rw [← ht] at hw2
                have hok := wsum_ok (fun j => pad_ok d8 n (8 * i + j)) j
                obtain ⟨t8, ht8⟩ : ∃ t8, t8 = 8 * i := ⟨_, rfl⟩
                rw [← ht8] at hw1 hw2
                have HT8 : Hid (t8 = 8 * i) := ht8
                clear ht8
                by_cases htn : t < n
                · have htni : (t : Int) < (n : Int) := Int.ofNat_lt.2 htn
                  have hor := or_step j hltj _ (d t) hok.1 hok.2 (d8 t).1 (d8 t).2
                  rw [← wsum_in d n i j t ht htn] at hor
                  rcases SN.out.dat with h0 | ⟨bd, e0, hbd, hcd⟩
                  · omega
                  subst e0
                  have hck := hcd t htn
                  clear hcd hok ht
                  go_wp2_with fail
                  go_roundw
                  case rel => exact ⟨j + 1, by omega, by go_num, rfl, trivial⟩
                  case measure => simp [intOf]; omega
                · have htni : ¬ (t : Int) < (n : Int) := fun e => htn (Int.ofNat_lt.1 e)
                  have hor := wsum_out d n i j t ht htn
                  clear hok ht
                  go_wp2_with fail
                  go_roundw
                  case rel => exact ⟨j + 1, by omega, by go_num, by rw [hor], trivial⟩
                  case measure => simp [intOf]; omega
              · obtain rfl : j = 8 := by omega
                generalize wsum (fun j => pad d n (8 * i + j)) 8 = x
                go_wp2_with fail
                go_roundw
                case rel => exact ⟨i + 1, HLT.out, by go_num, OK.out⟩
                case measure => simp [intOf]; exact meas HLT.out
          · obtain rfl : i = K := Nat.le_antisymm hi (Nat.le_of_not_lt hlt)
            have FJ := failed_any bs bb bf br bh sa d n i _ _ R3
            have SN : Hid (Src sa d n wr) := S1.below B3 (Nat.le_refl _)
            have BW : Hid (Below w'.heap.size w' wr) := B1.trans (B3.mono B1.size)
            have c1 := R3.c1
            have hc := R3.hc
            have hw8 := k_wrap hK
            obtain ⟨q, hq⟩ : ∃ q, q = n / 8 := ⟨_, rfl⟩
            obtain ⟨hquo, hqw⟩ := q_wrap hq hn6
            obtain ⟨q1, hq1e⟩ : ∃ q1, q1 = q + 1 := ⟨_, rfl⟩
            have hq1 := q1_wrap (q := q) (by rw [hq]; omega)
            rw [← hq1e] at hq1
            have HQ1 : Hid (q1 = q + 1) := hq1e
            clear hq1e
            have HQ : Hid (q = n / 8) := hq
            clear hq R3 B3 S1 B1
            generalize ht8 : 8 * i = t8 at hw8 FJ
            by_cases hll : n < t8
            · rw [show decide (n < t8) = true from decide_eq_true hll] at FJ
              have hlli : (n : Int) < (t8 : Int) := Int.ofNat_lt.2 hll
              clear ht8
              go_wp2_with fail
              refine FJ.mono ?_
              rintro e w7 ⟨rfl, rfl⟩
              clear FJ
              by_cases hmm : i < q1
              · have hmmi : (i : Int) < (q1 : Int) := Int.ofNat_lt.2 hmm
                have hm : i = min i (n / 8 + 1) := by rw [← HQ.out, ← HQ1.out]; omega
                have hmle : i ≤ 524288 := Nat.le_trans hK (by decide)
                obtain ⟨m8, hm8⟩ : ∃ m8, m8 = 8 * i := ⟨_, rfl⟩
                have hm8w : IntKind.i64.wrap (8 * (i : Int)) = (m8 : Int) := by rw [hm8]; exact k8_wrap hmle
                have HF : Hid (fnvN (pad d n) offs m8 = hashAt d n i) := by unfold Hid; rw [hm8, hash_m hm]
                have hm8l : Hid (m8 ≤ 4194304) := by unfold Hid; rw [hm8]; exact Nat.mul_le_mul_left 8 hmle
                clear hm8 hm hmle
                go_wp2_with fail
                go_loopw [12, 13] (fun s12 s13 wx => ∃ t : Nat, t ≤ m8 ∧ s13 = .int .i64 t ∧ s12 = .int .u64 (fnvN (pad d n) offs t) ∧ wx = w7) (fun _ s13 _ => m8 - (intOf s13).toNat)
                case atStart => exact ⟨0, Nat.zero_le _, rfl, by rw [fnv0], rfl⟩
                case round =>
                  obtain ⟨t, ht, rfl, rfl, rfl⟩ := hrel
                  clear hqw hquo hq1 hmmi hw8 hlli hll hmm HQ HQ1
                  by_cases hlt : t < m8
                  · have hlti : (t : Int) < (m8 : Int) := Int.ofNat_lt.2 hlt
                    obtain ⟨hwi, hwj⟩ := i_wrap8 hm8l.out hlt
                    have HLT : Hid (t < m8) := hlt
                    by_cases htn : t < n
                    · have htni : (t : Int) < (n : Int) := Int.ofNat_lt.2 htn
                      rcases SN.out.dat with h0 | ⟨bd, e0, hbd, hcd⟩
                      · exact absurd htn (by rw [h0]; exact Nat.not_lt_zero _)
                      subst e0
                      have hck := hcd t htn
                      clear hcd
                      go_wp2_with fail
                      go_roundw
                      case rel => exact ⟨t + 1, HLT.out, by go_num, by rw [fnv_in d n t htn], trivial⟩
                      case measure => simp [intOf]; exact meas HLT.out
                    · have htni : ¬ (t : Int) < (n : Int) := fun e => htn (Int.ofNat_lt.1 e)
                      go_wp2_with fail
                      go_roundw
                      case rel => exact ⟨t + 1, HLT.out, by go_num, by rw [fnv_out d n t htn], trivial⟩
                      case measure => simp [intOf]; exact meas HLT.out
                  · obtain rfl : t = m8 := Nat.le_antisymm ht (Nat.le_of_not_lt hlt)
                    rw [HF.out]
                    have hh := hash_ok d n i
                    have hcs := zzsum bs bh (hashAt d n i) _ hh.1 hh.2 c1 hc
                    have hrd := fun V g cap => be_read (hashAt d n i) V g cap hh.1 hh.2
                    clear HF c1 hc
                    generalize hashAt d n i = hv at hcs hrd hh ⊢
                    go_wp2_with fail
                    refine hcs.mono ?_
                    rintro e w9 ⟨g, cap, rfl, B9, hj9⟩
                    have hrd9 := hrd w9 g cap hj9
                    clear hrd hj9
                    go_wp2_with fail
                    refine hrd9.mono ?_
                    rintro e w10 ⟨rfl, rfl⟩
                    go_wp2_with fail
                    go_ret
                    exact ⟨rfl, BW.out.trans (B9.mono BW.out.size)⟩
              · have hmmi : ¬ (i : Int) < (q1 : Int) := fun e => hmm (Int.ofNat_lt.1 e)
                have hm : q1 = min i (n / 8 + 1) := by rw [← HQ.out, ← HQ1.out]; omega
                have hmle : q1 ≤ 524288 := Nat.le_trans (Nat.le_of_not_lt hmm) (Nat.le_trans hK (by decide))
                obtain ⟨m8, hm8⟩ : ∃ m8, m8 = 8 * q1 := ⟨_, rfl⟩
                have hm8w : IntKind.i64.wrap (8 * (q1 : Int)) = (m8 : Int) := by rw [hm8]; exact k8_wrap hmle
                have HF : Hid (fnvN (pad d n) offs m8 = hashAt d n i) := by unfold Hid; rw [hm8, hash_m hm]
                have hm8l : Hid (m8 ≤ 4194304) := by unfold Hid; rw [hm8]; exact Nat.mul_le_mul_left 8 hmle
                clear hm8 hm hmle
                go_wp2_with fail
                go_loopw [12, 13] (fun s12 s13 wx => ∃ t : Nat, t ≤ m8 ∧ s13 = .int .i64 t ∧ s12 = .int .u64 (fnvN (pad d n) offs t) ∧ wx = w7) (fun _ s13 _ => m8 - (intOf s13).toNat)
                case atStart => exact ⟨0, Nat.zero_le _, rfl, by rw [fnv0], rfl⟩
                case round =>
                  obtain ⟨t, ht, rfl, rfl, rfl⟩ := hrel
                  clear hqw hquo hq1 hmmi hw8 hlli hll hmm HQ HQ1
                  by_cases hlt : t < m8
                  · have hlti : (t : Int) < (m8 : Int) := Int.ofNat_lt.2 hlt
                    obtain ⟨hwi, hwj⟩ := i_wrap8 hm8l.out hlt
                    have HLT : Hid (t < m8) := hlt
                    by_cases htn : t < n
                    · have htni : (t : Int) < (n : Int) := Int.ofNat_lt.2 htn
                      rcases SN.out.dat with h0 | ⟨bd, e0, hbd, hcd⟩
                      · exact absurd htn (by rw [h0]; exact Nat.not_lt_zero _)
                      subst e0
                      have hck := hcd t htn
                      clear hcd
                      go_wp2_with fail
                      go_roundw
                      case rel => exact ⟨t + 1, HLT.out, by go_num, by rw [fnv_in d n t htn], trivial⟩
                      case measure => simp [intOf]; exact meas HLT.out
                    · have htni : ¬ (t : Int) < (n : Int) := fun e => htn (Int.ofNat_lt.1 e)
                      go_wp2_with fail
                      go_roundw
                      case rel => exact ⟨t + 1, HLT.out, by go_num, by rw [fnv_out d n t htn], trivial⟩
                      case measure => simp [intOf]; exact meas HLT.out
                  · obtain rfl : t = m8 := Nat.le_antisymm ht (Nat.le_of_not_lt hlt)
                    rw [HF.out]
                    have hh := hash_ok d n i
                    have hcs := zzsum bs bh (hashAt d n i) _ hh.1 hh.2 c1 hc
                    have hrd := fun V g cap => be_read (hashAt d n i) V g cap hh.1 hh.2
                    clear HF c1 hc
                    generalize hashAt d n i = hv at hcs hrd hh ⊢
                    go_wp2_with fail
                    refine hcs.mono ?_
                    rintro e w9 ⟨g, cap, rfl, B9, hj9⟩
                    have hrd9 := hrd w9 g cap hj9
                    clear hrd hj9
                    go_wp2_with fail
                    refine hrd9.mono ?_
                    rintro e w10 ⟨rfl, rfl⟩
                    go_wp2_with fail
                    go_ret
                    exact ⟨rfl, BW.out.trans (B9.mono BW.out.size)⟩
            · rw [show decide (n < t8) = false from decide_eq_false hll] at FJ
              have hlli : ¬ (n : Int) < (t8 : Int) := fun e => hll (Int.ofNat_lt.1 e)
              clear ht8
              go_wp2_with fail
              refine FJ.mono ?_
              rintro e w7 ⟨rfl, rfl⟩
              clear FJ
              by_cases hmm : i < q1
              · have hmmi : (i : Int) < (q1 : Int) := Int.ofNat_lt.2 hmm
                have hm : i = min i (n / 8 + 1) := by rw [← HQ.out, ← HQ1.out]; omega
                have hmle : i ≤ 524288 := Nat.le_trans hK (by decide)
                obtain ⟨m8, hm8⟩ : ∃ m8, m8 = 8 * i := ⟨_, rfl⟩
                have hm8w : IntKind.i64.wrap (8 * (i : Int)) = (m8 : Int) := by rw [hm8]; exact k8_wrap hmle
                have HF : Hid (fnvN (pad d n) offs m8 = hashAt d n i) := by unfold Hid; rw [hm8, hash_m hm]
                have hm8l : Hid (m8 ≤ 4194304) := by unfold Hid; rw [hm8]; exact Nat.mul_le_mul_left 8 hmle
                clear hm8 hm hmle
                go_wp2_with fail
                go_loopw [12, 13] (fun s12 s13 wx => ∃ t : Nat, t ≤ m8 ∧ s13 = .int .i64 t ∧ s12 = .int .u64 (fnvN (pad d n) offs t) ∧ wx = w7) (fun _ s13 _ => m8 - (intOf s13).toNat)
                case atStart => exact ⟨0, Nat.zero_le _, rfl, by rw [fnv0], rfl⟩
                case round =>
                  obtain ⟨t, ht, rfl, rfl, rfl⟩ := hrel
                  clear hqw hquo hq1 hmmi hw8 hlli hll hmm HQ HQ1
                  by_cases hlt : t < m8
                  · have hlti : (t : Int) < (m8 : Int) := Int.ofNat_lt.2 hlt
                    obtain ⟨hwi, hwj⟩ := i_wrap8 hm8l.out hlt
                    have HLT : Hid (t < m8) := hlt
                    by_cases htn : t < n
                    · have htni : (t : Int) < (n : Int) := Int.ofNat_lt.2 htn
                      rcases SN.out.dat with h0 | ⟨bd, e0, hbd, hcd⟩
                      · exact absurd htn (by rw [h0]; exact Nat.not_lt_zero _)
                      subst e0
                      have hck := hcd t htn
                      clear hcd
                      go_wp2_with fail
                      go_roundw
                      case rel => exact ⟨t + 1, HLT.out, by go_num, by rw [fnv_in d n t htn], trivial⟩
                      case measure => simp [intOf]; exact meas HLT.out
                    · have htni : ¬ (t : Int) < (n : Int) := fun e => htn (Int.ofNat_lt.1 e)
                      go_wp2_with fail
                      go_roundw
                      case rel => exact ⟨t + 1, HLT.out, by go_num, by rw [fnv_out d n t htn], trivial⟩
                      case measure => simp [intOf]; exact meas HLT.out
                  · obtain rfl : t = m8 := Nat.le_antisymm ht (Nat.le_of_not_lt hlt)
                    rw [HF.out]
                    have hh := hash_ok d n i
                    have hcs := zzsum bs bh (hashAt d n i) _ hh.1 hh.2 c1 hc
                    have hrd := fun V g cap => be_read (hashAt d n i) V g cap hh.1 hh.2
                    clear HF c1 hc
                    generalize hashAt d n i = hv at hcs hrd hh ⊢
                    go_wp2_with fail
                    refine hcs.mono ?_
                    rintro e w9 ⟨g, cap, rfl, B9, hj9⟩
                    have hrd9 := hrd w9 g cap hj9
                    clear hrd hj9
                    go_wp2_with fail
                    refine hrd9.mono ?_
                    rintro e w10 ⟨rfl, rfl⟩
                    go_wp2_with fail
                    go_ret
                    exact ⟨rfl, BW.out.trans (B9.mono BW.out.size)⟩
              · have hmmi : ¬ (i : Int) < (q1 : Int) := fun e => hmm (Int.ofNat_lt.1 e)
                have hm : q1 = min i (n / 8 + 1) := by rw [← HQ.out, ← HQ1.out]; omega
                have hmle : q1 ≤ 524288 := Nat.le_trans (Nat.le_of_not_lt hmm) (Nat.le_trans hK (by decide))
                obtain ⟨m8, hm8⟩ : ∃ m8, m8 = 8 * q1 := ⟨_, rfl⟩
                have hm8w : IntKind.i64.wrap (8 * (q1 : Int)) = (m8 : Int) := by rw [hm8]; exact k8_wrap hmle
                have HF : Hid (fnvN (pad d n) offs m8 = hashAt d n i) := by unfold Hid; rw [hm8, hash_m hm]
                have hm8l : Hid (m8 ≤ 4194304) := by unfold Hid; rw [hm8]; exact Nat.mul_le_mul_left 8 hmle
                clear hm8 hm hmle
                go_wp2_with fail
                go_loopw [12, 13] (fun s12 s13 wx => ∃ t : Nat, t ≤ m8 ∧ s13 = .int .i64 t ∧ s12 = .int .u64 (fnvN (pad d n) offs t) ∧ wx = w7) (fun _ s13 _ => m8 - (intOf s13).toNat)
                case atStart => exact ⟨0, Nat.zero_le _, rfl, by rw [fnv0], rfl⟩
                case round =>
                  obtain ⟨t, ht, rfl, rfl, rfl⟩ := hrel
                  clear hqw hquo hq1 hmmi hw8 hlli hll hmm HQ HQ1
                  by_cases hlt : t < m8
                  · have hlti : (t : Int) < (m8 : Int) := Int.ofNat_lt.2 hlt
                    obtain ⟨hwi, hwj⟩ := i_wrap8 hm8l.out hlt
                    have HLT : Hid (t < m8) := hlt
                    by_cases htn : t < n
                    · have htni : (t : Int) < (n : Int) := Int.ofNat_lt.2 htn
                      rcases SN.out.dat with h0 | ⟨bd, e0, hbd, hcd⟩
                      · exact absurd htn (by rw [h0]; exact Nat.not_lt_zero _)
                      subst e0
                      have hck := hcd t htn
                      clear hcd
                      go_wp2_with fail
                      go_roundw
                      case rel => exact ⟨t + 1, HLT.out, by go_num, by rw [fnv_in d n t htn], trivial⟩
                      case measure => simp [intOf]; exact meas HLT.out
                    · have htni : ¬ (t : Int) < (n : Int) := fun e => htn (Int.ofNat_lt.1 e)
                      go_wp2_with fail
                      go_roundw
                      case rel => exact ⟨t + 1, HLT.out, by go_num, by rw [fnv_out d n t htn], trivial⟩
                      case measure => simp [intOf]; exact meas HLT.out
                  · obtain rfl : t = m8 := Nat.le_antisymm ht (Nat.le_of_not_lt hlt)
                    rw [HF.out]
                    have hh := hash_ok d n i
                    have hcs := zzsum bs bh (hashAt d n i) _ hh.1 hh.2 c1 hc
                    have hrd := fun V g cap => be_read (hashAt d n i) V g cap hh.1 hh.2
                    clear HF c1 hc
                    generalize hashAt d n i = hv at hcs hrd hh ⊢
                    go_wp2_with fail
                    refine hcs.mono ?_
                    rintro e w9 ⟨g, cap, rfl, B9, hj9⟩
                    have hrd9 := hrd w9 g cap hj9
                    clear hrd hj9
                    go_wp2_with fail
                    refine hrd9.mono ?_
                    rintro e w10 ⟨rfl, rfl⟩
                    go_wp2_with fail
                    go_ret
                    exact ⟨rfl, BW.out.trans (B9.mono BW.out.size)⟩
      · by_cases hk0 : kk < 0
        · go_wp2_with fail
          go_ret
          exact ⟨rfl, Below.refl _ _⟩
        · have t3 : (65536 : Int) < kk := by omega
          go_wp2_with fail
          go_ret
          exact ⟨rfl, Below.refl _ _⟩
    · have t1 : (65536 : Int) < (n : Int) := by omega
      go_wp2_with fail
      go_ret
      exact ⟨rfl, Below.refl _ _⟩
end Go.Proofs.Qxb6609082aDoor
