import Derived.Test.Qxb6608969aDoorLaw
import Derived.Test.Qxb6608969aDoorW6
import Derived.Test.Qxb6608969aDoorW2
import Derived.WideLaws
namespace Go.Proofs.Qxb6608969aDoor
open Go Go.RowKit

/-- An event that lies in a row of the call's own and leads to memory that was there. -/
def EvJ (N : Nat) (w : World) (b o : Nat) (c : Option (ByteArray × Int)) : Prop :=
  ∃ (p0 : Option Addr) (t1 : Int) (b2 b3 : Bool) (p4 p5 : Option Addr) (s6 : ByteArray),
    w.cell? ⟨b, o, none⟩ = some (.pointer p0) ∧ w.cell? ⟨b, o + 1, none⟩ = some (.int .u64 t1) ∧ w.cell? ⟨b, o + 2, none⟩ = some (.bool b2) ∧
    w.cell? ⟨b, o + 3, none⟩ = some (.bool b3) ∧ w.cell? ⟨b, o + 4, none⟩ = some (.pointer p4) ∧ w.cell? ⟨b, o + 5, none⟩ = some (.pointer p5) ∧
    w.cell? ⟨b, o + 6, none⟩ = some (.string s6) ∧ ChgIn N w p0 c ∧ SchIn N w p4 ∧ SchIn N w p5

theorem EvJ.toIn {N M : Nat} {w : World} {b o : Nat} {c : Option (ByteArray × Int)} (h : EvJ N w b o c) (hb : b < M) (hNM : N ≤ M) : EvIn M w b o c := by
  obtain ⟨p0, t1, b2, b3, p4, p5, s6, h0, h1, h2, h3, h4, h5, h6, k0, k4, k5⟩ := h
  exact ⟨p0, t1, b2, b3, p4, p5, s6, hb, h0, h1, h2, h3, h4, h5, h6, k0.mono hNM, k4.mono hNM, k5.mono hNM⟩

theorem EvJ.below {N M : Nat} {w w' : World} {b o : Nat} {c : Option (ByteArray × Int)} (h : EvJ N w b o c) (hb : Below M w w') (hbM : b < M) (hNM : N ≤ M) : EvJ N w' b o c := by
  obtain ⟨p0, t1, b2, b3, p4, p5, s6, h0, h1, h2, h3, h4, h5, h6, k0, k4, k5⟩ := h
  exact ⟨p0, t1, b2, b3, p4, p5, s6, (hb.cell hbM).trans h0, (hb.cell hbM).trans h1, (hb.cell hbM).trans h2, (hb.cell hbM).trans h3, (hb.cell hbM).trans h4, (hb.cell hbM).trans h5, (hb.cell hbM).trans h6, k0.below (hb.mono hNM), k4.below (hb.mono hNM), k5.below (hb.mono hNM)⟩

theorem EvJ.stored {N : Nat} {w2 : World} {B o o' : Nat} {c : Option (ByteArray × Int)} (h : EvJ N w2 B o c) (hN : N ≤ B) (ho : o + 7 ≤ o' ∨ o' + 7 ≤ o) (v0 v1 v2 v3 v4 v5 v6 : Value) : EvJ N (storedAt w2 B o' v0 v1 v2 v3 v4 v5 v6) B o c := by
  obtain ⟨p0, t1, b2, b3, p4, p5, s6, h0, h1, h2, h3, h4, h5, h6, k0, k4, k5⟩ := h
  have hc : ∀ j, j < 7 → (storedAt w2 B o' v0 v1 v2 v3 v4 v5 v6).cell? ⟨B, o + j, none⟩ = w2.cell? ⟨B, o + j, none⟩ := fun j hj => storedAt_off _ _ _ _ _ _ _ _ _ _ _ (by omega)
  have hb : Below N w2 (storedAt w2 B o' v0 v1 v2 v3 v4 v5 v6) := storedAt_below _ _ _ _ _ _ _ _ _ _ (Below.refl _ _) hN
  exact ⟨p0, t1, b2, b3, p4, p5, s6, (hc 0 (by omega)).trans h0, (hc 1 (by omega)).trans h1, (hc 2 (by omega)).trans h2, (hc 3 (by omega)).trans h3, (hc 4 (by omega)).trans h4, (hc 5 (by omega)).trans h5, (hc 6 (by omega)).trans h6, k0.below hb, k4.below hb, k5.below hb⟩

theorem EvJ.new {N m : Nat} {w2 : World} {B o : Nat} {c : Option (ByteArray × Int)} {p0 : Option Addr} {t1 : Int} {b2 b3 : Bool} {p4 p5 : Option Addr} {s6 : ByteArray} (hr : RowOk B m w2) (ho : o + 7 ≤ m) (hN : N ≤ B) (k0 : ChgIn N w2 p0 c) (k4 : SchIn N w2 p4) (k5 : SchIn N w2 p5) :
    EvJ N (storedAt w2 B o (.pointer p0) (.int .u64 t1) (.bool b2) (.bool b3) (.pointer p4) (.pointer p5) (.string s6)) B o c := by
  obtain ⟨u0, y0⟩ := hr.cell o (by omega)
  obtain ⟨u1, y1⟩ := hr.cell (o + 1) (by omega)
  obtain ⟨u2, y2⟩ := hr.cell (o + 2) (by omega)
  obtain ⟨u3, y3⟩ := hr.cell (o + 3) (by omega)
  obtain ⟨u4, y4⟩ := hr.cell (o + 4) (by omega)
  obtain ⟨u5, y5⟩ := hr.cell (o + 5) (by omega)
  obtain ⟨u6, y6⟩ := hr.cell (o + 6) (by omega)
  have hb : Below N w2 (storedAt w2 B o (.pointer p0) (.int .u64 t1) (.bool b2) (.bool b3) (.pointer p4) (.pointer p5) (.string s6)) := storedAt_below _ _ _ _ _ _ _ _ _ _ (Below.refl _ _) hN
  refine ⟨p0, t1, b2, b3, p4, p5, s6, ?_, ?_, ?_, ?_, ?_, ?_, ?_, k0.below hb, k4.below hb, k5.below hb⟩
  all_goals (unfold storedAt; go_simp)

/-- The row 'joined' with its first k events. -/
structure Jn (N B cap : Nat) (l : List (Option (ByteArray × Int))) (k : Nat) (wr : World) : Prop where
  row : RowOk B (cap * 7) wr
  evs : ∀ j c, j < k → l[j]? = some c → EvJ N wr B (j * 7) c

theorem run_make29 (n : Nat) (h : n ≤ 1048576) (w : World) : (Instr.makeSlice 22 (.int .i64 0) (.int .i64 (n : Int))).run Tryd.prog w = .ok (.slice (some ⟨w.heap.size, 0, none⟩) 0 n) (w.alloc (madeObj n 29)) := by
  obtain ⟨i, hi, hz0, hz1, hz2⟩ := info_parts info29
  have hr := run_make (P := Tryd.prog) w 22 29 i _ Tryd.underlying22 hi hz0 .i64 .i64 0 n (by omega) (by omega) (by rw [hz2]; omega) (by omega)
  rw [hz1] at hr
  simpa [madeObj, Value.cells] using hr

theorem Jn.start {N : Nat} {w : World} {l : List (Option (ByteArray × Int))} {cap : Nat} : Jn N w.heap.size cap l 0 (w.alloc (madeObj cap 29)) where
  row := rowOk_made w cap 29
  evs := fun j c h => by omega

theorem Jn.next {N B cap : Nat} {l : List (Option (ByteArray × Int))} {k : Nat} {wr : World} {A : Obj} {c : Option (ByteArray × Int)} {p0 : Option Addr} {t1 : Int} {b2 b3 : Bool} {p4 p5 : Option Addr} {s6 : ByteArray} (h : Jn N B cap l k wr) (hN : N ≤ B) (hk : l[k]? = some c) (hcap : k < cap)
    (k0 : ChgIn N wr p0 c) (k4 : SchIn N wr p4) (k5 : SchIn N wr p5) :
    Jn N B cap l (k + 1) (storedAt (wr.alloc A) B (k * 7) (.pointer p0) (.int .u64 t1) (.bool b2) (.bool b3) (.pointer p4) (.pointer p5) (.string s6)) := by
  have hba : ∀ M, M ≤ wr.heap.size → Below M wr (wr.alloc A) := fun M hM => (Below.refl _ _).alloc hM _
  have hlt := h.row.lt
  have hrow := h.row.below (hba _ (Nat.le_refl _))
  have hbN := hba N (by omega)
  refine ⟨hrow.stored _ _ _ _ _ _ _ _, fun j c' hj hc' => ?_⟩
  by_cases e : j = k
  · subst e
    obtain rfl : c' = c := by rw [hc'] at hk; exact Option.some.inj hk
    exact EvJ.new hrow (by omega) hN (k0.below hbN) (k4.below hbN) (k5.below hbN)
  · exact EvJ.stored ((h.evs j c' (by omega) hc').below (hba _ (Nat.le_refl _)) hlt (by omega)) hN (by omega) _ _ _ _ _ _ _

theorem Jn.seven {N B cap : Nat} {l : List (Option (ByteArray × Int))} {k : Nat} {wr : World} (h : Jn N B cap l k wr) (hk : k < cap) (A : Obj) :
    (∃ u, (wr.alloc A).cell? ⟨B, k * 7, none⟩ = some u) ∧ (∃ u, (wr.alloc A).cell? ⟨B, k * 7 + 1, none⟩ = some u) ∧ (∃ u, (wr.alloc A).cell? ⟨B, k * 7 + 2, none⟩ = some u) ∧ (∃ u, (wr.alloc A).cell? ⟨B, k * 7 + 3, none⟩ = some u) ∧
    (∃ u, (wr.alloc A).cell? ⟨B, k * 7 + 4, none⟩ = some u) ∧ (∃ u, (wr.alloc A).cell? ⟨B, k * 7 + 5, none⟩ = some u) ∧ (∃ u, (wr.alloc A).cell? ⟨B, k * 7 + 6, none⟩ = some u) ∧ ∀ o, (wr.alloc A).frozen? ⟨B, o, none⟩ = false := by
  have hr := h.row.below ((Below.refl _ _).alloc (Nat.le_refl _) A)
  exact ⟨hr.cell _ (by omega), hr.cell _ (by omega), hr.cell _ (by omega), hr.cell _ (by omega), hr.cell _ (by omega), hr.cell _ (by omega), hr.cell _ (by omega), hr.frozen⟩

theorem Jn.toIn {N B cap : Nat} {l : List (Option (ByteArray × Int))} {wr : World} (h : Jn N B cap l l.length wr) (hN : N ≤ B) : EvsIn (B + 1) wr (some ⟨B, 0, none⟩) l := by
  intro k c hk
  refine ⟨B, 0, rfl, ?_⟩
  have := (h.evs k c (List.getElem?_eq_some_iff.1 hk).1 hk).toIn (M := B + 1) (by omega) (by omega)
  rwa [Nat.zero_add]

/-- It returns true; all that was there is as it was. -/
def RTB (w : World) (e : Ending) (w' : World) : Prop := e = .returned (.bool true) ∧ Below w.heap.size w w'

theorem len0 {n : Nat} (h : n = 0) : ((n : Int) == 0) = true := by simp; omega
theorem len1 {n : Nat} (h : ¬ n = 0) : ((n : Int) == 0) = false := by simp; omega
theorem sum00 {n a b : Nat} (h : n = a + b) (ha : a = 0) (hb : b = 0) : n = 0 := by omega
theorem sum0 {n a b : Nat} (h : n = a + b) (ha : a = 0) (hb : b = 0) : ¬ 0 < n := by omega
theorem sum1 {n a b : Nat} (h : n = a + b) (ha : ¬ a = 0) : 0 < n := by omega
theorem sum2 {n a b : Nat} (h : n = a + b) (hb : ¬ b = 0) : 0 < n := by omega
theorem ret_bool {a : Bool} (h : a = true) : Ending.returned (.bool a) = .returned (.bool true) := by rw [h]

set_option maxHeartbeats 2000000 in
theorem joins_any (ao bo : Option Addr) (la lb : List (Option (ByteArray × Int))) (ca cb : Nat) (u : TypeId) (v : Value) (w : World) (hla : la.length ≤ maxLen) (hlb : lb.length ≤ maxLen) (hna : ao = none → la = [] ∧ ca = 0) (hnb : bo = none → lb = [] ∧ cb = 0)
    (ha : EvsIn w.heap.size w ao la) (hb : EvsIn w.heap.size w bo lb) (hg : w.cell? ⟨0, 0, none⟩ = some (.iface u v)) :
    Calls Tryd.prog 3 #[.slice ao la.length ca, .slice bo lb.length cb] w (RTB w) := by
  go_enter Tryd.func3, Tryd.ntmps3
  go_wp2_with fail
  refine (bytesJoins_any w.heap.size ao bo la lb ca cb w hla hlb ha hb).mono ?_
  rintro e w' ⟨r, rfl, rfl⟩
  cases r
  · go_wp2_with fail
    go_ret
    exact ⟨rfl, Below.refl _ _⟩
  go_wp2_with fail
  refine (eventsBytes_any w'.heap.size 0 ao la ca _ (Nat.le_refl _) (Int.le_refl _) hla ha).mono ?_
  rintro e w1 ⟨r1, rfl, hb1, h01, hr1⟩
  go_wp2_with fail
  refine (eventsBytes_any w'.heap.size r1 bo lb cb _ hb1.size h01 hlb (hb.below hb1)).mono ?_
  rintro e w2 ⟨r2, rfl, hb2, h02, hr2⟩
  have hbe := hb1.trans hb2
  by_cases hbig : 1048576 < r2
  · go_wp2_with fail
    go_ret
    exact ⟨rfl, hbe⟩
  have hlen : la.length + lb.length ≤ 16384 := by
    have e2 := hr2.out (by omega)
    have e1 := hr1.out (by omega)
    omega
  clear hr1 hr2 h01 h02 hb1 hb2 w1
  have hmk := run_make29 (la.length + lb.length) (by omega)
  simp only [Int.natCast_add] at hmk
  go_wp2_with fail
  clear hmk
  go_loopw [5, 6] (fun j i wr => ∃ k : Nat, k ≤ la.length ∧ i = .int .i64 k ∧ j = .slice (some ⟨w2.heap.size, 0, none⟩) k (la.length + lb.length) ∧ Jn w'.heap.size w2.heap.size (la.length + lb.length) (la ++ lb) k wr ∧ Below w2.heap.size w2 wr) (fun _ i _ => la.length - (intOf i).toNat)
  case atStart => exact ⟨0, Nat.zero_le _, rfl, rfl, Jn.start, (Below.refl _ _).alloc (Nat.le_refl _) _⟩
  case round =>
    obtain ⟨k, hk, rfl, rfl, hj, hbr⟩ := hrel
    have hbw := hbe.trans (hbr.mono hbe.size)
    by_cases hlt : k < la.length
    · have hgk : la[k]? = some la[k] := by simp [hlt]
      obtain ⟨b, o, rfl, he⟩ := ha k la[k] hgk
      obtain ⟨p0, t1, b2, b3, p4, p5, s6, hbN, g0, g1, g2, g3, g4, g5, g6, k0, k4, k5⟩ := he.below hbw
      obtain ⟨⟨y0, z0⟩, ⟨y1, z1⟩, ⟨y2, z2⟩, ⟨y3, z3⟩, ⟨y4, z4⟩, ⟨y5, z5⟩, ⟨y6, z6⟩, hfr⟩ := hj.seven (by omega) (.cells #[.pointer p0, .int .u64 t1, .bool b2, .bool b3, .pointer p4, .pointer p5, .string s6] 29)
      have HJ : Hid (∀ A : Obj, Jn w'.heap.size w2.heap.size (la.length + lb.length) (la ++ lb) (k + 1) (storedAt (wr.alloc A) w2.heap.size (k * 7) (.pointer p0) (.int .u64 t1) (.bool b2) (.bool b3) (.pointer p4) (.pointer p5) (.string s6))) := fun A =>
        hj.next hbe.size (by rw [List.getElem?_append_left hlt]; exact hgk) (by omega) k0 k4 k5
      have HB : Hid (∀ A : Obj, Below w2.heap.size w2 (storedAt (wr.alloc A) w2.heap.size (k * 7) (.pointer p0) (.int .u64 t1) (.bool b2) (.bool b3) (.pointer p4) (.pointer p5) (.string s6))) := fun A =>
        storedAt_below _ _ _ _ _ _ _ _ _ _ (hbr.alloc hbr.size _) (Nat.le_refl _)
      have hkc : (k : Int) < (la.length : Int) + lb.length := by omega
      clear hj hbr hbw he hgk ha hb hg k0 k4 k5
      go_wp2
      go_roundw
      case rel => exact ⟨k + 1, by omega, by go_num, rfl, HJ.out _, HB.out _⟩
      case measure => simp [intOf]; omega
    · obtain rfl : k = la.length := by omega
      clear hk hlt
      go_wp2_with fail
      go_loopw [5, 7] (fun j i wr => ∃ k : Nat, k ≤ lb.length ∧ i = .int .i64 k ∧ j = .slice (some ⟨w2.heap.size, 0, none⟩) (la.length + k) (la.length + lb.length) ∧ Jn w'.heap.size w2.heap.size (la.length + lb.length) (la ++ lb) (la.length + k) wr ∧ Below w2.heap.size w2 wr) (fun _ i _ => lb.length - (intOf i).toNat)
      case atStart => exact ⟨0, Nat.zero_le _, rfl, rfl, hj, hbr⟩
      case round =>
        clear hj hbr hbw
        rename_i wr'
        obtain ⟨k, hk, rfl, rfl, hj, hbr⟩ := hrel
        have hbw := hbe.trans (hbr.mono hbe.size)
        by_cases hlt : k < lb.length
        · have hgk : lb[k]? = some lb[k] := by simp [hlt]
          obtain ⟨b, o, rfl, he⟩ := hb k lb[k] hgk
          obtain ⟨p0, t1, b2, b3, p4, p5, s6, hbN, g0, g1, g2, g3, g4, g5, g6, k0, k4, k5⟩ := he.below hbw
          obtain ⟨⟨y0, z0⟩, ⟨y1, z1⟩, ⟨y2, z2⟩, ⟨y3, z3⟩, ⟨y4, z4⟩, ⟨y5, z5⟩, ⟨y6, z6⟩, hfr⟩ := hj.seven (by omega) (.cells #[.pointer p0, .int .u64 t1, .bool b2, .bool b3, .pointer p4, .pointer p5, .string s6] 29)
          have HJ : Hid (∀ A : Obj, Jn w'.heap.size w2.heap.size (la.length + lb.length) (la ++ lb) (la.length + k + 1) (storedAt (wr.alloc A) w2.heap.size ((la.length + k) * 7) (.pointer p0) (.int .u64 t1) (.bool b2) (.bool b3) (.pointer p4) (.pointer p5) (.string s6))) := fun A =>
            hj.next hbe.size (by rw [List.getElem?_append_right (by omega), Nat.add_sub_cancel_left]; exact hgk) (by omega) k0 k4 k5
          have HB : Hid (∀ A : Obj, Below w2.heap.size w2 (storedAt (wr.alloc A) w2.heap.size ((la.length + k) * 7) (.pointer p0) (.int .u64 t1) (.bool b2) (.bool b3) (.pointer p4) (.pointer p5) (.string s6))) := fun A =>
            storedAt_below _ _ _ _ _ _ _ _ _ _ (hbr.alloc hbr.size _) (Nat.le_refl _)
          have hkc : (k : Int) < (lb.length : Int) := by omega
          clear hj hbr hbw he hgk ha hb hg k0 k4 k5
          go_wp2
          go_roundw
          case rel => exact ⟨k + 1, by omega, by go_num, rfl, HJ.out _, HB.out _⟩
          case measure => simp [intOf]; omega
        · obtain rfl : k = lb.length := by omega
          clear hk hlt
          have hlt2 := hj.row.lt
          have hN2 := hbe.size
          have hjin : EvsIn (w2.heap.size + 1) wr (some ⟨w2.heap.size, 0, none⟩) (la ++ lb) := Jn.toIn (cap := la.length + lb.length) (by rw [List.length_append]; exact hj) hN2
          have hjl : (la ++ lb).length = la.length + lb.length := List.length_append
          have hjlaw := join_law' la lb
          generalize la ++ lb = lj at hjin hjl hjlaw hj
          rw [← hjl]
          have HL : Hid (lj.length = la.length + lb.length) := hjl
          have HW : Hid _ := hjlaw
          have hlj : lj.length ≤ 1048576 := by omega
          have hgw := (hbw.cell (p := ⟨0, 0, none⟩) (World.block_lt_of_cell? _ _ hg)).trans hg
          clear hj hjl hbr hjlaw
          go_wp2_with fail
          refine (events_any w'.heap.size ao la ca _ hbw.size (by omega) hna (ha.below hbw)).mono ?_
          rintro e w3 ⟨so3, m3, rfl, hb3, ho3⟩
          have hbw3 := hbw.trans (hb3.mono hbw.size)
          have hg3 := (hb3.cell (p := ⟨0, 0, none⟩) (World.block_lt_of_cell? _ _ hgw)).trans hgw
          go_wp2_with fail
          refine (zz_any so3 la m3 u v _ (by omega) ho3 hg3).mono ?_
          rintro e w4 ⟨ts4, er4, rfl, hb4, hr4⟩
          have hbw4 := hbw3.trans (hb4.mono hbw3.size)
          have hg4 := (hb4.cell (p := ⟨0, 0, none⟩) (World.block_lt_of_cell? _ _ hg3)).trans hg3
          have hj4 := (hjin.below (hb3.mono hlt2)).below (hb4.mono (Nat.le_trans hlt2 hb3.size))
          have HR4 : Hid _ := hr4
          clear hr4 hjin ho3 hg3 hgw
          go_wp2_with fail
          refine (events_any w'.heap.size bo lb cb _ hbw4.size (by omega) hnb (hb.below hbw4)).mono ?_
          rintro e w5 ⟨so5, m5, rfl, hb5, ho5⟩
          have hbw5 := hbw4.trans (hb5.mono hbw4.size)
          have hg5 := (hb5.cell (p := ⟨0, 0, none⟩) (World.block_lt_of_cell? _ _ hg4)).trans hg4
          go_wp2_with fail
          refine (zz_any so5 lb m5 u v _ (by omega) ho5 hg5).mono ?_
          rintro e w6 ⟨ts6, er6, rfl, hb6, hr6⟩
          have hbw6 := hbw5.trans (hb6.mono hbw5.size)
          have hg6 := (hb6.cell (p := ⟨0, 0, none⟩) (World.block_lt_of_cell? _ _ hg5)).trans hg5
          have hlt4 : w2.heap.size + 1 ≤ w4.heap.size := Nat.le_trans (Nat.le_trans hlt2 hb3.size) hb4.size
          have hj6 := (hj4.below (hb5.mono hlt4)).below (hb6.mono (Nat.le_trans hlt4 hb5.size))
          have HR6 : Hid _ := hr6
          clear hr6 hj4 ho5 hg5 hg4
          go_wp2_with fail
          have hlt6 : w2.heap.size + 1 ≤ w6.heap.size := Nat.le_trans (Nat.le_trans hlt4 hb5.size) hb6.size
          refine (events_any (w2.heap.size + 1) (some ⟨w2.heap.size, 0, none⟩) lj _ _ hlt6 hlj (fun h => by simp at h) hj6).mono ?_
          rintro e w7 ⟨so7, m7, rfl, hb7, ho7⟩
          have hbw7 := hbw6.trans (hb7.mono hbw6.size)
          have hg7 := (hb7.cell (p := ⟨0, 0, none⟩) (World.block_lt_of_cell? _ _ hg6)).trans hg6
          go_wp2_with fail
          refine (zz_any so7 lj m7 u v _ hlj ho7 hg7).mono ?_
          rintro e w8 ⟨ts8, er8, rfl, hb8, hr8⟩
          have hbw8 := hbw7.trans (hb8.mono hbw7.size)
          have hj8 := (hj6.below (hb7.mono hlt6)).below (hb8.mono (Nat.le_trans hlt6 hb7.size))
          have ha8 := ha.below hbw8
          have hb8' := hb.below hbw8
          have hr4 := HR4.out
          have hr6 := HR6.out
          clear hj6 ho7 hg6 hg7 HR4 HR6 hb3 hb4 hb5 hb6 hb7 hb8 hbw hbw3 hbw4 hbw5 hbw6 hbw7 ha hb hg hlt2 hlt4 hlt6 hN2 hna hnb
          have hw := HW.out
          clear HW
          rcases hr4 with ⟨e4, rfl, ua, va, rfl⟩ | ⟨e4, rfl⟩ <;> rcases hr6 with ⟨e6, rfl, ub, vb, rfl⟩ | ⟨e6, rfl⟩ <;> rcases hr8 with ⟨e8, rfl, uj, vj, rfl⟩ | ⟨e8, rfl⟩ <;> rw [e4, e6, e8] at hw <;> by_cases hA : la.length = 0 <;> by_cases hB : lb.length = 0
          all_goals first
            | exact absurd hA (len_of_some e4)
            | exact absurd hB (len_of_some e6)
            | exact absurd (sum00 HL.out hA hB) (len_of_some e8)
            | (exfalso; simp [hA, hB] at hw; done)
            | (exfalso; have hJ := sum1 HL.out hA; simp [hA, hB, hJ] at hw; done)
            | (exfalso; have hJ := sum2 HL.out hB; simp [hA, hB, hJ] at hw; done)
            | skip
          all_goals
            first | have hAi := len0 hA | have hAi := len1 hA
            first | have hBi := len0 hB | have hBi := len1 hB
            first | have hJi := sum0 HL.out hA hB | have hJi := sum1 HL.out hA | have hJi := sum2 HL.out hB
            clear hA hB hw HL
            go_wp2_with fail
            refine (shape_any _ ao la ca _ _ _ ha8 (by simp [e4])).mono ?_
            rintro e w9 ⟨rfl, rfl⟩
            go_wp2_with fail
            refine (shape_any _ bo lb cb _ _ _ hb8' (by simp [e6])).mono ?_
            rintro e w9 ⟨rfl, rfl⟩
            go_wp2_with fail
            refine (shape_any _ _ lj _ _ _ _ hj8 (by simp [e8])).mono ?_
            rintro e w9 ⟨rfl, rfl⟩
            go_wp2_with fail
            go_ret
            refine ⟨ret_bool ?_, hbw8⟩
            rfl
end Go.Proofs.Qxb6608969aDoor
