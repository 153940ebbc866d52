import Derived.Test.Qxb6613740aDoorW10
namespace Go.Proofs.Qxb6613740aDoor
open Go Go.RowKit
attribute [local go_sem ↓] Go.wp_at_zero Go.wp_at_succ

/-- It returns true; what was there is as it was. -/
def RT3 (w : World) (e : Ending) (w' : World) : Prop := e = .returned (.bool true) ∧ Below w.heap.size w w'

/-- Behind the reading: the bytes, the address in block b. -/
structure Lp (w0 : World) (bd n : Nat) (d : Nat → Int) (p q : Addr) (x pt : Int) (b : Nat) (w : World) : Prop where
  six : Six bd n d p q w
  bel : Below w0.heap.size w0 w
  c0 : w.cell? ⟨b, 0, none⟩ = some (.int .u64 0)
  c1 : w.cell? ⟨b, 1, none⟩ = some (.int .u64 (281470681743360 + x))
  c2 : w.cell? ⟨b, 2, none⟩ = some (.pointer (some p))
  c3 : w.cell? ⟨b, 3, none⟩ = some (.int .u16 pt)

theorem Lp.drewN {w0 : World} {bd n : Nat} {d : Nat → Int} {p q : Addr} {x pt : Int} {b : Nat} {w : World} (h : Lp w0 bd n d p q x pt b w) (k : Nat) : Lp w0 bd n d p q x pt b (w.drewN k) :=
  ⟨⟨h.six.cell, h.six.ok, h.six.z, h.six.z6⟩, below_drewN h.bel k, h.c0, h.c1, h.c2, h.c3⟩

theorem Lp.start {w0 V : World} {bd n : Nat} {d : Nat → Int} {p q : Addr} {x pt : Int} (h : Six bd n d p q V) (hb : Below w0.heap.size w0 V) :
    Lp w0 bd n d p q x pt V.heap.size (V.alloc (.cells #[.int .u64 0, .int .u64 (281470681743360 + x), .pointer (some p), .int .u16 pt] 34)) := by
  obtain ⟨a0, a1, a2, a3⟩ := cells34 V (.int .u64 0) (.int .u64 (281470681743360 + x)) (.pointer (some p)) (.int .u16 pt)
  exact ⟨h.below ((Below.refl _ V).alloc (Nat.le_refl _) _), hb.alloc hb.size _, a0, a1, a2, a3⟩

theorem sub_wrap {n m : Nat} (h : n = m + 6) (hn : n ≤ 65536) : IntKind.i64.wrap ((n : Int) - 6) = (m : Int) := by rw [IntWalk.i64_in] <;> omega
theorem add_wrap {m i s : Nat} (hm : m ≤ 65536) (hi : i < m) (hs : s = 6 + i) : IntKind.i64.wrap (6 + (i : Int)) = (s : Int) := by rw [IntWalk.i64_in] <;> omega
theorem inc_wrap {m i : Nat} (hm : m ≤ 65536) (hi : i < m) : wrap64 ((i : Int) + 1) = (i : Int) + 1 ∧ IntKind.i64.wrap ((i : Int) + 1) = (i : Int) + 1 := by
  refine ⟨?_, ?_⟩
  · rw [IntWalk.wrap64_in] <;> omega
  · rw [IntWalk.i64_in] <;> omega
theorem meas {q i : Nat} (h : i < q) : q - (i + 1) < q - i := by omega

set_option maxHeartbeats 2000000 in
set_option maxRecDepth 10000 in
theorem six_any (a : Option Addr) (d : Nat → Int) (n c : Nat) (p q : Addr) (w : World) (ha0 : a = none → n = 0 ∧ c = 0) (hn : n ≤ maxLen) (ha : ∀ x, a = some x → In22 w x d n) (d8 : ∀ j, 0 ≤ d j ∧ d j < 256)
    (hz : w.cell? ⟨1, 0, none⟩ = some (.pointer (some p))) (hz6 : w.cell? ⟨3, 0, none⟩ = some (.pointer (some q))) : Calls Tryd.prog 3 #[.slice a n c] w (RT3 w) := by
  have he1 := fun (W : World) a n c => (run_nil22 W a n c).1
  have he2 := fun (W : World) a n c => (run_nil22 W a n c).2
  go_enter Tryd.func3, Tryd.ntmps3
  go_wp2_with fail
  refine (bytes6_any a n c w hn).mono ?_
  rintro e w' ⟨bb, rfl, rfl⟩
  cases bb with
  | false =>
    go_wp2_with fail
    go_ret
    exact ⟨rfl, Below.refl _ _⟩
  | true =>
    by_cases hn6 : n ≤ 65536
    · have t1 : ¬ (65536 : Int) < (n : Int) := by omega
      cases a with
      | none =>
        obtain ⟨rfl, rfl⟩ := ha0 rfl
        clear ha ha0
        go_wp2_with fail
        refine (zread_short none 0 0 w' (by omega)).mono ?_
        rintro e w1 ⟨rfl, B1⟩
        have BB : Below w'.heap.size w' w1 := B1
        clear B1
        unfold zeroP
        go_wp2_with fail
        go_quiet (fail)
        go_wp2_with fail
        go_ret
        exact ⟨rfl, below_drewN (BB.alloc BB.size _) _⟩
      | some x =>
        have hin := ha x rfl
        clear ha ha0
        have hmk := run_make22 n (by omega)
        have hcp := run_copy22 w' x d n c hin
        go_wp2_with fail
        have BC := copied_below w' d n
        have hcc := copied_cell w' d n
        have SX : Six w'.heap.size n d p q (copied w' d n) := ⟨hcc, d8, (BC.cell (World.block_lt_of_cell? _ _ hz)).trans hz, (BC.cell (World.block_lt_of_cell? _ _ hz6)).trans hz6⟩
        clear hcp hmk hin hcc
        generalize copied w' d n = w1 at SX BC ⊢
        obtain ⟨bd, hbd⟩ : ∃ bd, bd = w'.heap.size := ⟨_, rfl⟩
        rw [← hbd] at SX ⊢
        have HBD : Hid (bd = w'.heap.size) := hbd
        clear hbd
        by_cases hs : n < 6
        · have hge : decide ((6 : Int) ≤ (n : Int)) = false := by simp; omega
          refine (zread_short (some ⟨bd, 0, none⟩) n n w1 hs).mono ?_
          rintro e w2 ⟨rfl, B2⟩
          have BB : Below w'.heap.size w' w2 := BC.trans (B2.mono BC.size)
          clear B2 BC SX
          unfold zeroP
          go_wp2_with fail
          go_quiet (fail)
          go_wp2_with fail
          go_ret
          exact ⟨rfl, below_drewN (BB.alloc BB.size _) _⟩
        · obtain ⟨m, hm⟩ : ∃ m, n = m + 6 := ⟨n - 6, by omega⟩
          have hge : (6 : Int) ≤ (n : Int) := by omega
          have q1 : (1 : Int) < (n : Int) := by omega
          have q2 : (2 : Int) < (n : Int) := by omega
          have q3 : (3 : Int) < (n : Int) := by omega
          have q4 : (4 : Int) < (n : Int) := by omega
          have q5 : (5 : Int) < (n : Int) := by omega
          have q0 : (0 : Int) < (n : Int) := by omega
          obtain ⟨y, hy⟩ : ∃ y, num4 (d 0) (d 1) (d 2) (d 3) = y := ⟨_, rfl⟩
          obtain ⟨pt, hpt⟩ : ∃ pt, d 4 * 256 + d 5 = pt := ⟨_, rfl⟩
          have z4 := o4_zero d d8
          have z2 := o2_zero d d8
          rw [hy] at z4
          rw [hpt] at z2
          unfold o4 at z4
          unfold o2 at z2
          have HM : Hid (n = m + 6) := hm
          have HY : Hid (num4 (d 0) (d 1) (d 2) (d 3) = y) := hy
          have HP : Hid (d 4 * 256 + d 5 = pt) := hpt
          refine (zread_long bd n d p q w1 y pt (by omega) hn6 SX hy hpt).mono ?_
          clear hm hy hpt
          rintro e w2 (⟨hc, rfl, B2⟩ | ⟨hc, rfl, B2⟩)
          · have BB : Below w'.heap.size w' w2 := BC.trans (B2.mono BC.size)
            have S2 := SX.below B2
            have S3 : Six bd n d p q (w2.alloc (.cells #[.int .u64 0, .int .u64 0, .pointer none, .int .u16 0] 34)) := S2.below ((Below.refl _ w2).alloc (Nat.le_refl _) _)
            have c0 := S3.cell 0 (by omega); have c1 := S3.cell 1 (by omega); have c2 := S3.cell 2 (by omega); have c3 := S3.cell 3 (by omega); have c4 := S3.cell 4 (by omega); have c5 := S3.cell 5 (by omega)
            clear B2 BC SX S2 S3
            unfold zeroP
            by_cases hy0 : y = 0
            · have hb0 := z4.2 hy0
              clear z4 z2 hc hy0
              go_wp2_with fail
              go_quiet (fail)
              go_wp2_with fail
              go_ret
              exact ⟨rfl, below_drewN (BB.alloc BB.size _) _⟩
            · have hpt0 : pt = 0 := by omega
              obtain ⟨v, hbv⟩ : ∃ v, bits .or .u8 (bits .or .u8 (bits .or .u8 (d 0) (d 1)) (d 2)) (d 3) = v := ⟨_, rfl⟩
              have hv1 : v ≠ 0 := by rw [← hbv]; exact fun h => hy0 (z4.1 h)
              have hv0 : (v == 0) = false := by simpa using hv1
              have hv2 : (v != 0) = true := by simpa using hv1
              have hb1 := z2.2 hpt0
              clear z4 z2 hc hy0 hpt0
              go_wp2_with fail
              go_quiet (fail)
              go_wp2_with fail
              go_ret
              exact ⟨rfl, below_drewN (BB.alloc BB.size _) _⟩
          · have BB : Below w'.heap.size w' w2 := BC.trans (B2.mono BC.size)
            have L3 : Lp w' bd n d p q y pt w2.heap.size (w2.alloc (.cells #[.int .u64 0, .int .u64 (281470681743360 + y), .pointer (some p), .int .u16 pt] 34)) := Lp.start (SX.below B2) BB
            have c0 := L3.six.cell 0 (by omega); have c1 := L3.six.cell 1 (by omega); have c2 := L3.six.cell 2 (by omega); have c3 := L3.six.cell 3 (by omega); have c4 := L3.six.cell 4 (by omega); have c5 := L3.six.cell 5 (by omega)
            have HL : Hid (Lp w' bd n d p q y pt w2.heap.size (w2.alloc (.cells #[.int .u64 0, .int .u64 (281470681743360 + y), .pointer (some p), .int .u16 pt] 34))) := L3
            have hy0 : ¬ y = 0 := by omega
            have hp0 : ¬ pt = 0 := by omega
            obtain ⟨v, hbv⟩ : ∃ v, bits .or .u8 (bits .or .u8 (bits .or .u8 (d 0) (d 1)) (d 2)) (d 3) = v := ⟨_, rfl⟩
            have hv1 : v ≠ 0 := by rw [← hbv]; exact fun h => hy0 (z4.1 h)
            have hv0 : (v == 0) = false := by simpa using hv1
            have hv2 : (v != 0) = true := by simpa using hv1
            obtain ⟨u, hbu⟩ : ∃ u, bits .or .u8 (d 4) (d 5) = u := ⟨_, rfl⟩
            have hu1 : u ≠ 0 := by rw [← hbu]; exact fun h => hp0 (z2.1 h)
            have hu0 : (u == 0) = false := by simpa using hu1
            have hu2 : (u != 0) = true := by simpa using hu1
            have hsub := sub_wrap HM.out hn6
            have hnm : n - 6 = m := by have := HM.out; omega
            have hm6 : Hid (m ≤ 65536) := by unfold Hid; have := HM.out; omega
            obtain ⟨bo, hbo, hb6⟩ : ∃ bo : Nat, (if n = 6 then some (⟨bd, 0, none⟩ : Addr) else some ⟨bd, 6, none⟩) = some ⟨bd, bo, none⟩ ∧ (0 < m → bo = 6) := by
              by_cases h6 : n = 6
              · exact ⟨0, by rw [if_pos h6], fun h => by have := HM.out; omega⟩
              · exact ⟨6, by rw [if_neg h6], fun _ => rfl⟩
            rw [hbo, hnm]
            have HB6 : Hid (0 < m → bo = 6) := hb6
            clear z4 z2 hc hy0 hp0 B2 BC SX BB L3 hbo hb6 hnm
            unfold addrP
            go_wp2_with fail
            go_quiet (fail)
            go_wp2_with fail
            clear c0 c1 c2 c3 c4 c5 hbv hbu hv0 hv1 hv2 hu0 hu1 hu2 q0 q1 q2 q3 q4 q5 hsub he1 he2 hge
            have HL2 := HL.out.drewN nq
            go_loopw [8] (fun s8 wr => ∃ i : Nat, i ≤ m ∧ s8 = .int .i64 i ∧ Lp w' bd n d p q y pt w2.heap.size wr) (fun s8 _ => m - (intOf s8).toNat)
            case atStart => exact ⟨0, Nat.zero_le _, rfl, HL2⟩
            case round =>
              obtain ⟨i, hi, rfl, L⟩ := hrel
              clear HL HL2
              by_cases hlt : i < m
              · have hlti : (i : Int) < (m : Int) := Int.ofNat_lt.2 hlt
                obtain rfl : bo = 6 := HB6.out (by omega)
                obtain ⟨s, hs⟩ : ∃ s, s = 6 + i := ⟨_, rfl⟩
                have hsw := add_wrap hm6.out hlt hs
                have hsn : (s : Int) < (n : Int) := by have := HM.out; omega
                obtain ⟨hwi, hwj⟩ := inc_wrap hm6.out hlt
                have cs := L.six.cell s (by have := HM.out; omega)
                have cs2 : wr.cell? ⟨bd, 6 + i, none⟩ = some (.int .u8 (d s)) := by rw [← hs]; exact cs
                have HLT : Hid (i < m) := hlt
                have HL : Hid (Lp w' bd n d p q y pt w2.heap.size wr) := L
                clear L hs
                go_wp2_with fail
                go_quiet (fail)
                go_wp2_with fail
                go_roundw
                case rel => exact ⟨i + 1, HLT.out, by go_num, HL.out.drewN _⟩
                case measure => simp [intOf]; exact meas HLT.out
              · obtain rfl : i = m := Nat.le_antisymm hi (Nat.le_of_not_lt hlt)
                have HL : Hid (Lp w' bd n d p q y pt w2.heap.size wr) := L
                clear L hlt
                go_wp2_with fail
                go_loopw [9, 10] (fun s9 s10 wx => ∃ j : Nat, j ≤ 6 ∧ s10 = .int .i64 j ∧ s9 = .int .u64 (beN d j) ∧ wx = wr) (fun _ s10 _ => 6 - (intOf s10).toNat)
                case atStart => exact ⟨0, by omega, rfl, rfl, rfl⟩
                case round =>
                  obtain ⟨j, hj, rfl, rfl, rfl⟩ := hrel
                  by_cases hlt : j < 6
                  · have hlti : (j : Int) < 6 := by omega
                    have hjn : (j : Int) < (n : Int) := by have := HM.out; omega
                    have cj := HL.out.six.cell j (by have := HM.out; omega)
                    have hor := beN_step d d8 j hlt
                    go_wp2_with fail
                    go_roundw
                    case rel => exact ⟨j + 1, by omega, by go_num, rfl, trivial⟩
                    case measure => simp [intOf]; omega
                  · obtain rfl : j = 6 := by omega
                    have e6 : beN d 6 = y * 65536 + pt := by rw [beN6, HY.out, HP.out]
                    rw [e6]
                    have m0 := HL.out.c0; have m1 := HL.out.c1; have m2 := HL.out.c2; have m3 := HL.out.c3
                    have yr : 0 ≤ y ∧ y < 4294967296 := by have h0 := d8 0; have h1 := d8 1; have h2 := d8 2; have h3 := d8 3; rw [← HY.out]; unfold num4; omega
                    have pr : 0 ≤ pt ∧ pt < 65536 := by have h0 := d8 4; have h1 := d8 5; rw [← HP.out]; omega
                    have hk8 := fun W h => keyOf8 y pt p W yr.1 yr.2 pr h
                    have hkz := HL.out.six.z
                    clear yr pr e6
                    go_wp2_with fail
                    refine (hk8 _ hkz).mono ?_
                    rintro e w9 ⟨rfl, B9⟩
                    have BB := HL.out.bel.trans (B9.mono HL.out.bel.size)
                    clear B9 hk8 m0 m1 m2 m3
                    generalize y * 65536 + pt = kv
                    go_wp2_with fail
                    go_ret
                    exact ⟨rfl, BB⟩
    · have t1 : (65536 : Int) < (n : Int) := by omega
      go_wp2_with fail
      go_ret
      exact ⟨rfl, Below.refl _ _⟩
end Go.Proofs.Qxb6613740aDoor
