import Derived.Test.Qxb6608969aDoorW13
namespace Go.Proofs.Qxb6608969aDoor
open Go Go.RowKit

/-! ### The plain law of one event put in -/
def putIn (l : List (Option (ByteArray × Int))) (n : Nat) (c : Option (ByteArray × Int)) : List (Option (ByteArray × Int)) := l.take n ++ c :: l.drop n

theorem putIn_length {l : List (Option (ByteArray × Int))} {n : Nat} {c : Option (ByteArray × Int)} : (putIn l n c).length = l.length + 1 := by
  unfold putIn
  simp
  omega

theorem putIn_before {l : List (Option (ByteArray × Int))} {n : Nat} {c : Option (ByteArray × Int)} {k : Nat} (hk : k < n) (hn : n ≤ l.length) : (putIn l n c)[k]? = l[k]? := by
  unfold putIn
  rw [List.getElem?_append_left (by simp; omega), List.getElem?_take_of_lt hk]

theorem putIn_at {l : List (Option (ByteArray × Int))} {n : Nat} {c : Option (ByteArray × Int)} (hn : n ≤ l.length) : (putIn l n c)[n]? = some c := by
  unfold putIn
  rw [List.getElem?_append_right (by simp; omega)]
  have : n - (l.take n).length = 0 := by simp; omega
  rw [this]
  rfl

theorem putIn_after {l : List (Option (ByteArray × Int))} {n : Nat} {c : Option (ByteArray × Int)} {k : Nat} (hk : n ≤ k) (hn : n ≤ l.length) : (putIn l n c)[k + 1]? = l[k]? := by
  unfold putIn
  rw [List.getElem?_append_right (by simp; omega)]
  have : k + 1 - (l.take n).length = (k - n) + 1 := by simp; omega
  rw [this]
  simp
  congr 1
  omega

theorem putIn_all (l : List (Option (ByteArray × Int))) (n : Nat) (c : Option (ByteArray × Int)) : (putIn l n c).all okRow = (okRow c && l.all okRow) := by
  unfold putIn
  have h : l.all okRow = ((l.take n).all okRow && (l.drop n).all okRow) := by rw [← List.all_append, List.take_append_drop]
  rw [h, List.all_append, List.all_cons]
  cases (l.take n).all okRow <;> cases okRow c <;> simp

/-- x with e put in is accepted just where e is a row change and x is empty or accepted. -/
theorem insert_law (l : List (Option (ByteArray × Int))) (n : Nat) (c : Option (ByteArray × Int)) : (ans (putIn l n c)).isSome = (okRow c && (decide (l.length = 0) || (ans l).isSome)) := by
  rw [ans_isSome, ans_isSome, putIn_all]
  have h : (putIn l n c).isEmpty = false := by
    have := putIn_length (l := l) (n := n) (c := c)
    cases hp : putIn l n c with
    | nil => rw [hp] at this; simp at this
    | cons _ _ => rfl
  rw [h]
  cases l with
  | nil => simp
  | cons x r => simp

/-! ### The event in its box -/
structure BoxIs (B : Nat) (w : World) (p0 : Option Addr) (t1 : Int) (b2 b3 : Bool) (p4 p5 : Option Addr) (s6 : ByteArray) : Prop where
  c0 : w.cell? ⟨B, 0, none⟩ = some (.pointer p0)
  c1 : w.cell? ⟨B, 1, none⟩ = some (.int .u64 t1)
  c2 : w.cell? ⟨B, 2, none⟩ = some (.bool b2)
  c3 : w.cell? ⟨B, 3, none⟩ = some (.bool b3)
  c4 : w.cell? ⟨B, 4, none⟩ = some (.pointer p4)
  c5 : w.cell? ⟨B, 5, none⟩ = some (.pointer p5)
  c6 : w.cell? ⟨B, 6, none⟩ = some (.string s6)

theorem BoxIs.below {B M : Nat} {w w' : World} {p0 : Option Addr} {t1 : Int} {b2 b3 : Bool} {p4 p5 : Option Addr} {s6 : ByteArray} (h : BoxIs B w p0 t1 b2 b3 p4 p5 s6) (hb : Below M w w') (hB : B < M) : BoxIs B w' p0 t1 b2 b3 p4 p5 s6 :=
  ⟨(hb.cell hB).trans h.c0, (hb.cell hB).trans h.c1, (hb.cell hB).trans h.c2, (hb.cell hB).trans h.c3, (hb.cell hB).trans h.c4, (hb.cell hB).trans h.c5, (hb.cell hB).trans h.c6⟩

theorem box_new (w : World) (p0 : Option Addr) (t1 : Int) (b2 b3 : Bool) (p4 p5 : Option Addr) (s6 : ByteArray) : BoxIs w.heap.size (w.alloc (boxed p0 t1 b2 b3 p4 p5 s6)) p0 t1 b2 b3 p4 p5 s6 := by
  constructor <;> (unfold boxed; go_simp)

/-- It returns a bool; all that was there is as it was. -/
def RBB (w : World) (e : Ending) (w' : World) : Prop := ∃ r : Bool, e = .returned (.bool r) ∧ Below w.heap.size w w'

theorem bytesInsert_below (N : Nat) (ao : Option Addr) (la : List (Option (ByteArray × Int))) (ca : Nat) (i : Int) (p0 : Option Addr) (t1 : Int) (b2 b3 : Bool) (p4 p5 : Option Addr) (s6 : ByteArray) (c : Option (ByteArray × Int)) (w : World)
    (hN : N ≤ w.heap.size) (hla : la.length ≤ maxLen) (ha : EvsIn N w ao la) (k0 : ChgIn N w p0 c) (k4 : SchIn N w p4) (k5 : SchIn N w p5) :
    Calls Tryd.prog 10 #[.slice ao la.length ca, .agg #[.pointer p0, .int .u64 t1, .bool b2, .bool b3, .pointer p4, .pointer p5, .string s6], .int .i64 i] w (RBB w) := by
  refine (bytesInsert_any N ao la ca i p0 t1 b2 b3 p4 p5 s6 c w hN hla ha k0 k4 k5).mono ?_
  rintro e w' ⟨r, rfl, rfl⟩
  exact ⟨r, rfl, (Below.refl _ _).alloc (Nat.le_refl _) _⟩

/-- All that the walk knows behind the box: block B0 is the box; everything below it is as it came. -/
structure Came (B0 : Nat) (w : World) (ao : Option Addr) (lx : List (Option (ByteArray × Int))) (p0 : Option Addr) (t1 : Int) (b2 b3 : Bool) (p4 p5 : Option Addr) (s6 : ByteArray) (c : Option (ByteArray × Int)) (u : TypeId) (v : Value) : Prop where
  size : B0 + 1 ≤ w.heap.size
  box : BoxIs B0 w p0 t1 b2 b3 p4 p5 s6
  evs : EvsIn (B0 + 1) w ao lx
  k0 : ChgIn (B0 + 1) w p0 c
  k4 : SchIn (B0 + 1) w p4
  k5 : SchIn (B0 + 1) w p5
  err : w.cell? ⟨0, 0, none⟩ = some (.iface u v)

theorem Came.below {B0 : Nat} {w w' : World} {ao : Option Addr} {lx : List (Option (ByteArray × Int))} {p0 : Option Addr} {t1 : Int} {b2 b3 : Bool} {p4 p5 : Option Addr} {s6 : ByteArray} {c : Option (ByteArray × Int)} {u : TypeId} {v : Value}
    (h : Came B0 w ao lx p0 t1 b2 b3 p4 p5 s6 c u v) (hb : Below (B0 + 1) w w') : Came B0 w' ao lx p0 t1 b2 b3 p4 p5 s6 c u v :=
  ⟨Nat.le_trans h.size hb.size, h.box.below hb (by omega), h.evs.below hb, h.k0.below hb, h.k4.below hb, h.k5.below hb, (hb.cell (p := ⟨0, 0, none⟩) (by show 0 < B0 + 1; omega)).trans h.err⟩

theorem came_new {w : World} {ao : Option Addr} {lx : List (Option (ByteArray × Int))} {p0 : Option Addr} {t1 : Int} {b2 b3 : Bool} {p4 p5 : Option Addr} {s6 : ByteArray} {c : Option (ByteArray × Int)} {u : TypeId} {v : Value}
    (ha : EvsIn w.heap.size w ao lx) (k0 : ChgIn w.heap.size w p0 c) (k4 : SchIn w.heap.size w p4) (k5 : SchIn w.heap.size w p5) (hg : w.cell? ⟨0, 0, none⟩ = some (.iface u v)) :
    Came w.heap.size (w.alloc (boxed p0 t1 b2 b3 p4 p5 s6)) ao lx p0 t1 b2 b3 p4 p5 s6 c u v := by
  have hbx : Below w.heap.size w (w.alloc (boxed p0 t1 b2 b3 p4 p5 s6)) := (Below.refl _ _).alloc (Nat.le_refl _) _
  exact ⟨by simp, box_new w p0 t1 b2 b3 p4 p5 s6, (ha.below hbx).mono (Nat.le_succ _), (k0.below hbx).mono (Nat.le_succ _), (k4.below hbx).mono (Nat.le_succ _), (k5.below hbx).mono (Nat.le_succ _), (hbx.cell (p := ⟨0, 0, none⟩) (World.block_lt_of_cell? _ _ hg)).trans hg⟩

set_option maxHeartbeats 4000000 in
theorem insert_any (ao : Option Addr) (lx : List (Option (ByteArray × Int))) (ca : Nat) (p0 : Option Addr) (t1 : Int) (b2 b3 : Bool) (p4 p5 : Option Addr) (s6 : ByteArray) (c : Option (ByteArray × Int)) (i : Int) (u : TypeId) (v : Value) (w : World) (hlx : lx.length ≤ maxLen) (hna : ao = none → lx = [] ∧ ca = 0)
    (ha : EvsIn w.heap.size w ao lx) (k0 : ChgIn w.heap.size w p0 c) (k4 : SchIn w.heap.size w p4) (k5 : SchIn w.heap.size w p5) (hg : w.cell? ⟨0, 0, none⟩ = some (.iface u v)) :
    Calls Tryd.prog 4 #[.slice ao lx.length ca, .agg #[.pointer p0, .int .u64 t1, .bool b2, .bool b3, .pointer p4, .pointer p5, .string s6], .int .i64 i] w (RTB w) := by
  have hbx : Below w.heap.size w (w.alloc (boxed p0 t1 b2 b3 p4 p5 s6)) := (Below.refl _ _).alloc (Nat.le_refl _) _
  have hcm := came_new (t1 := t1) (b2 := b2) (b3 := b3) (s6 := s6) ha k0 k4 k5 hg
  clear ha k0 k4 k5 hg
  go_enter Tryd.func4, Tryd.ntmps4
  go_wp2_with fail
  refine (bytesInsert_below (w.heap.size + 1) ao lx ca i p0 t1 b2 b3 p4 p5 s6 c _ hcm.size hlx hcm.evs hcm.k0 hcm.k4 hcm.k5).mono ?_
  rintro e w1 ⟨r, rfl, hb1⟩
  have hbw1 : Below w.heap.size w w1 := hbx.trans (hb1.mono (by simp))
  have hc1 := hcm.below (hb1.mono hcm.size)
  clear hcm hb1 hbx
  cases r
  · go_wp2_with fail
    go_ret
    exact ⟨rfl, hbw1⟩
  go_wp2_with fail
  refine (eventsBytes_any (w.heap.size + 1) 0 ao lx ca _ hc1.size (Int.le_refl _) hlx hc1.evs).mono ?_
  rintro e w2 ⟨r1, rfl, hb2, h01, hr1⟩
  have hbw2 := hbw1.trans (hb2.mono (Nat.le_succ _))
  have hc2 := hc1.below hb2
  clear hc1 hb2
  obtain ⟨x0, x1, x2, x3, x4, x5, x6⟩ := hc2.box
  go_wp2_with fail
  refine (eventBytes_any (w.heap.size + 1) r1 p0 t1 b2 b3 p4 p5 s6 c _ hc2.size h01 hc2.k0 hc2.k4 hc2.k5).mono ?_
  rintro e w3 ⟨r2, rfl, hb3, h02, hr2⟩
  have hbw3 := hbw2.trans (hb3.mono (Nat.le_succ _))
  have hc3 := hc2.below hb3
  clear hc2 hb3 x0 x1 x2 x3 x4 x5 x6
  by_cases hbig : 1048576 < r2
  · go_wp2_with fail
    go_ret
    exact ⟨rfl, hbw3⟩
  have hlen : lx.length ≤ 16384 := by
    have e2 := hr2.out (by omega)
    have e1 := hr1.out (by omega)
    omega
  clear hr1 hr2 h01 h02
  by_cases hi0 : i < 0
  · go_wp2_with fail
    go_ret
    exact ⟨rfl, hbw3⟩
  by_cases hi1 : (lx.length : Int) < i
  · go_wp2_with fail
    go_ret
    exact ⟨rfl, hbw3⟩
  obtain ⟨n, rfl⟩ : ∃ n : Nat, i = n := ⟨i.toNat, by omega⟩
  have hmk := run_make29 (lx.length + 1) (by omega)
  simp only [Int.natCast_add, Int.cast_ofNat_Int] at hmk
  go_wp2_with fail
  clear hmk
  have hnl : n ≤ lx.length := by omega
  have hN3 := hc3.size
  go_loopw [8, 9] (fun j i wr => ∃ k : Nat, k ≤ n ∧ i = .int .i64 k ∧ j = .slice (some ⟨w3.heap.size, 0, none⟩) k (lx.length + 1) ∧ Jn (w.heap.size + 1) w3.heap.size (lx.length + 1) (putIn lx n c) k wr ∧ Below w3.heap.size w3 wr) (fun _ i _ => n - (intOf i).toNat)
  case atStart => exact ⟨0, Nat.zero_le _, rfl, rfl, Jn.start, (Below.refl _ _).alloc (Nat.le_refl _) _⟩
  case round =>
    obtain ⟨k, hk, rfl, rfl, hj, hbr⟩ := hrel
    have hcr := hc3.below (hbr.mono hN3)
    by_cases hlt : k < n
    · have hgk : lx[k]? = some lx[k] := by simp
      obtain ⟨b, o, rfl, p0', t1', b2', b3', p4', p5', s6', hbN, g0, g1, g2, g3, g4, g5, g6, q0, q4, q5⟩ := hcr.evs k lx[k] hgk
      obtain ⟨⟨y0, z0⟩, ⟨y1, z1⟩, ⟨y2, z2⟩, ⟨y3, z3⟩, ⟨y4, z4⟩, ⟨y5, z5⟩, ⟨y6, z6⟩, hfr⟩ := hj.seven (by omega) (.cells #[.pointer p0', .int .u64 t1', .bool b2', .bool b3', .pointer p4', .pointer p5', .string s6'] 29)
      have HJ : Hid (∀ A : Obj, Jn (w.heap.size + 1) w3.heap.size (lx.length + 1) (putIn lx n c) (k + 1) (storedAt (wr.alloc A) w3.heap.size (k * 7) (.pointer p0') (.int .u64 t1') (.bool b2') (.bool b3') (.pointer p4') (.pointer p5') (.string s6'))) := fun A =>
        hj.next hN3 ((putIn_before hlt hnl).trans hgk) (by omega) q0 q4 q5
      have HB : Hid (∀ A : Obj, Below w3.heap.size w3 (storedAt (wr.alloc A) w3.heap.size (k * 7) (.pointer p0') (.int .u64 t1') (.bool b2') (.bool b3') (.pointer p4') (.pointer p5') (.string s6'))) := fun A =>
        storedAt_below _ _ _ _ _ _ _ _ _ _ (hbr.alloc hbr.size _) (Nat.le_refl _)
      have hkc : (k : Int) < (n : Int) := by omega
      have hkx : (k : Int) < (lx.length : Int) := by omega
      clear hj hbr hcr hc3 hgk q0 q4 q5
      go_wp2
      go_roundw
      case rel => exact ⟨k + 1, by omega, by go_num, rfl, HJ.out _, HB.out _⟩
      case measure => simp [intOf]; omega
    · obtain rfl : k = n := by omega
      clear hk hlt
      obtain ⟨x0, x1, x2, x3, x4, x5, x6⟩ := hcr.box
      obtain ⟨⟨y0, z0⟩, ⟨y1, z1⟩, ⟨y2, z2⟩, ⟨y3, z3⟩, ⟨y4, z4⟩, ⟨y5, z5⟩, ⟨y6, z6⟩, hfr⟩ := hj.seven (by omega) (.cells #[.pointer p0, .int .u64 t1, .bool b2, .bool b3, .pointer p4, .pointer p5, .string s6] 29)
      have HJ : Hid (∀ A : Obj, Jn (w.heap.size + 1) w3.heap.size (lx.length + 1) (putIn lx k c) (k + 1) (storedAt (wr.alloc A) w3.heap.size (k * 7) (.pointer p0) (.int .u64 t1) (.bool b2) (.bool b3) (.pointer p4) (.pointer p5) (.string s6))) := fun A =>
        hj.next hN3 (putIn_at hnl) (by omega) hcr.k0 hcr.k4 hcr.k5
      have HB : Hid (∀ A : Obj, Below w3.heap.size w3 (storedAt (wr.alloc A) w3.heap.size (k * 7) (.pointer p0) (.int .u64 t1) (.bool b2) (.bool b3) (.pointer p4) (.pointer p5) (.string s6))) := fun A =>
        storedAt_below _ _ _ _ _ _ _ _ _ _ (hbr.alloc hbr.size _) (Nat.le_refl _)
      have HC : Hid _ := hc3
      clear hj hbr hcr hc3
      go_wp2_with fail
      go_loopw [8, 10] (fun j i wr => ∃ m : Nat, k ≤ m ∧ m ≤ lx.length ∧ i = .int .i64 m ∧ j = .slice (some ⟨w3.heap.size, 0, none⟩) (m + 1) (lx.length + 1) ∧ Jn (w.heap.size + 1) w3.heap.size (lx.length + 1) (putIn lx k c) (m + 1) wr ∧ Below w3.heap.size w3 wr) (fun _ i _ => lx.length - (intOf i).toNat)
      case atStart => exact ⟨k, Nat.le_refl _, hnl, rfl, rfl, HJ.out _, HB.out _⟩
      case round =>
        clear HJ HB x0 x1 x2 x3 x4 x5 x6 z0 z1 z2 z3 z4 z5 z6 hfr
        have hc3 := HC.out
        clear HC
        rename_i wr'
        obtain ⟨m, hkm, hm, rfl, rfl, hj, hbr⟩ := hrel
        have hcr := hc3.below (hbr.mono hN3)
        by_cases hlt : m < lx.length
        · have hgk : lx[m]? = some lx[m] := by simp
          obtain ⟨b, o, rfl, p0', t1', b2', b3', p4', p5', s6', hbN, g0, g1, g2, g3, g4, g5, g6, q0, q4, q5⟩ := hcr.evs m lx[m] hgk
          obtain ⟨⟨y0, z0⟩, ⟨y1, z1⟩, ⟨y2, z2⟩, ⟨y3, z3⟩, ⟨y4, z4⟩, ⟨y5, z5⟩, ⟨y6, z6⟩, hfr⟩ := hj.seven (by omega) (.cells #[.pointer p0', .int .u64 t1', .bool b2', .bool b3', .pointer p4', .pointer p5', .string s6'] 29)
          have HJ : Hid (∀ A : Obj, Jn (w.heap.size + 1) w3.heap.size (lx.length + 1) (putIn lx k c) (m + 1 + 1) (storedAt (wr.alloc A) w3.heap.size ((m + 1) * 7) (.pointer p0') (.int .u64 t1') (.bool b2') (.bool b3') (.pointer p4') (.pointer p5') (.string s6'))) := fun A =>
            hj.next hN3 ((putIn_after hkm hnl).trans hgk) (by omega) q0 q4 q5
          have HB : Hid (∀ A : Obj, Below w3.heap.size w3 (storedAt (wr.alloc A) w3.heap.size ((m + 1) * 7) (.pointer p0') (.int .u64 t1') (.bool b2') (.bool b3') (.pointer p4') (.pointer p5') (.string s6'))) := fun A =>
            storedAt_below _ _ _ _ _ _ _ _ _ _ (hbr.alloc hbr.size _) (Nat.le_refl _)
          have hkx : (m : Int) < (lx.length : Int) := by omega
          clear hj hbr hcr hc3 hgk q0 q4 q5
          go_wp2
          go_roundw
          case rel => exact ⟨m + 1, by omega, by omega, by go_num, rfl, HJ.out _, HB.out _⟩
          case measure => simp [intOf]; omega
        · obtain rfl : m = lx.length := by omega
          clear hm hlt
          have hlt2 := hj.row.lt
          have hyl : (putIn lx k c).length = lx.length + 1 := putIn_length
          have hjin : EvsIn (w3.heap.size + 1) wr (some ⟨w3.heap.size, 0, none⟩) (putIn lx k c) := Jn.toIn (cap := lx.length + 1) (by rw [hyl]; exact hj) hN3
          have hylaw := insert_law lx k c
          generalize putIn lx k c = ly at hjin hyl hylaw hj
          rw [← hyl]
          have HL : Hid (ly.length = lx.length + 1) := hyl
          have HW : Hid _ := hylaw
          have hly : ly.length ≤ 1048576 := by omega
          have hbw4 := hbw3.trans (hbr.mono hbw3.size)
          clear hj hyl hbr hylaw hc3 hkm
          go_wp2_with fail
          refine (events_any (w.heap.size + 1) ao lx ca _ hcr.size (by omega) hna hcr.evs).mono ?_
          rintro e w5 ⟨so5, m5, rfl, hb5, ho5⟩
          have hbw5 := hbw4.trans (hb5.mono hbw4.size)
          have hc5 := hcr.below (hb5.mono hcr.size)
          go_wp2_with fail
          refine (zz_any so5 lx m5 u v _ (by omega) ho5 hc5.err).mono ?_
          rintro e w6 ⟨ts6, er6, rfl, hb6, hr6⟩
          have hbw6 := hbw5.trans (hb6.mono hbw5.size)
          have hc6 := hc5.below (hb6.mono hc5.size)
          have hlt5 : w3.heap.size + 1 ≤ w5.heap.size := Nat.le_trans hlt2 hb5.size
          have hlt6 : w3.heap.size + 1 ≤ w6.heap.size := Nat.le_trans hlt5 hb6.size
          have hj6 := (hjin.below (hb5.mono hlt2)).below (hb6.mono hlt5)
          have HR6 : Hid _ := hr6
          clear hr6 ho5 hcr hjin hc5
          go_wp2_with fail
          refine (events_any (w3.heap.size + 1) (some ⟨w3.heap.size, 0, none⟩) ly _ _ hlt6 hly (fun h => by simp at h) hj6).mono ?_
          rintro e w7 ⟨so7, m7, rfl, hb7, ho7⟩
          have hbw7 := hbw6.trans (hb7.mono hbw6.size)
          have hc7 := hc6.below (hb7.mono hc6.size)
          go_wp2_with fail
          refine (zz_any so7 ly m7 u v _ hly ho7 hc7.err).mono ?_
          rintro e w8 ⟨ts8, er8, rfl, hb8, hr8⟩
          have hbw8 := hbw7.trans (hb8.mono hbw7.size)
          have hc8 := hc7.below (hb8.mono hc7.size)
          have hj8 := (hj6.below (hb7.mono hlt6)).below (hb8.mono (Nat.le_trans hlt6 hb7.size))
          have hr6 := HR6.out
          have hw := HW.out
          clear hj6 ho7 HR6 HW hb5 hb6 hb7 hb8 hbw3 hbw4 hbw5 hbw6 hbw7 hc6 hc7 hlt2 hlt5 hlt6 hN3 hna
          rcases hr6 with ⟨e6, rfl, ub, vb, rfl⟩ | ⟨e6, rfl⟩ <;> rcases hr8 with ⟨e8, rfl, uj, vj, rfl⟩ | ⟨e8, rfl⟩ <;> rw [e6, e8] at hw <;> cases hok : okRow c <;> by_cases hA : lx.length = 0
          all_goals first
            | exact absurd hA (len_of_some e6)
            | (exfalso; simp [hA, hok] at hw; done)
            | skip
          all_goals
            first | have hAi := len0 hA | have hAi := len1 hA
            obtain ⟨x0, x1, x2, x3, x4, x5, x6⟩ := hc8.box
            clear hA hw HL
            go_wp2_with fail
            refine (shape_any _ ao lx ca _ _ _ hc8.evs (by simp [e6])).mono ?_
            rintro e w9 ⟨rfl, rfl⟩
            go_wp2_with fail
            refine (shape_any _ _ ly _ _ _ _ hj8 (by simp [e8])).mono ?_
            rintro e w9 ⟨rfl, rfl⟩
            go_wp2_with fail
            refine (isRow_any (w.heap.size + 1) p0 t1 b2 b3 p4 p5 s6 c _ hc8.size hc8.k0).mono ?_
            rintro e w9 ⟨rfl, hb9⟩
            rw [hok]
            go_wp2_with fail
            go_ret
            refine ⟨ret_bool ?_, hbw8.trans (hb9.mono hbw8.size)⟩
            rfl
end Go.Proofs.Qxb6608969aDoor
