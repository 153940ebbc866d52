import Derived.Test.Qxb6614448aW7
import Derived.Deep.AppendLies
import Derived.Deep.Slices
import Derived.Deep.CutRange
namespace Go.Proofs.Qxb6614448a
open Go Go.RowKit

theorem run_make0 (n : Nat) (h : n ≤ 1048576) (w : World) : (Instr.makeSlice 25 (.int .i64 0) (.int .i64 (n : Int))).run Try.prog w = .ok (.slice (some ⟨w.heap.size, 0, none⟩) 0 n) (w.alloc (madeP n)) := by
  obtain ⟨i, hi, hz0, hz1, hz2⟩ := info_parts info35
  have hr := run_make (P := Try.prog) w 25 35 i _ Try.underlying25 hi hz0 .i64 .i64 0 n (by omega) (by omega) (by rw [hz2]; omega) (by omega)
  rw [hz1] at hr
  simpa [madeP, Value.cells] using hr

/-- A slice of the call's own: k pointers to copies. -/
structure App (ws : World) (k : Nat) (v : Value) (xs : List Value) (wr : World) : Prop where
  bel : Below ws.heap.size ws wr
  own : wr.ownsRow ws.heap.size 35 1 v k xs
  ptr : ∀ (j : Nat) (u : Value), xs[j]? = some u → ∃ b g, u = .pointer (some ⟨b, 0, none⟩) ∧ CopyAt ws b g

theorem App.start (ws : World) (n : Nat) (hn : n ≤ 1048576) : App ws 0 (.slice (some ⟨ws.heap.size, 0, none⟩) 0 n) [] (ws.alloc (madeP n)) :=
  ⟨(Below.refl _ ws).alloc (Nat.le_refl _) _, World.ownsRow_made ws _ n (Nat.le_refl _) (by unfold maxLen; omega) (by rw [size_madeCells]; omega), fun j u h => by simp at h⟩

theorem App.next {ws : World} {k : Nat} {v v1 : Value} {xs : List Value} {wr w1 : World} {A : Obj} {b : Nat} {g : Nat → ByteArray} (h : App ws k v xs wr) (hc : CopyAt ws b g)
    (hown : w1.ownsRow ws.heap.size 35 1 v1 (k + 1) (xs ++ [.pointer (some ⟨b, 0, none⟩)])) (hg : (wr.alloc A).grownBy w1 v.ownBlock) : App ws (k + 1) v1 (xs ++ [.pointer (some ⟨b, 0, none⟩)]) w1 where
  bel := (h.bel.alloc h.bel.size A).trans ⟨hg.os, hg.tape, hg.output, hg.size, fun i hi => hg.block i (by have := h.bel.size; simp; omega) (fun e => by have := (h.own.lt i e.symm).1; omega)⟩
  own := hown
  ptr := fun j u hj => by
    rw [List.getElem?_append] at hj
    split at hj
    · exact h.ptr j u hj
    · obtain ⟨hlt, rfl⟩ := List.getElem?_eq_some_iff.1 hj
      exact ⟨b, g, by simp, hc⟩

theorem CopyAt.hit_eq {w : World} {b : Nat} {g g' : Nat → ByteArray} (h : CopyAt w b g) (h' : CopyAt w b g') (x : ByteArray) : hit g x = hit g' x := by
  have e : ∀ {j : Nat} {s t : ByteArray}, w.cell? ⟨b, j, none⟩ = some (.string s) → w.cell? ⟨b, j, none⟩ = some (.string t) → s = t := fun a c => by rw [a] at c; injection c with c; injection c
  unfold hit
  rw [e h.c3 h'.c3, e h.c6 h'.c6, e h.c7 h'.c7, e h.c9 h'.c9]

theorem App.ptrs {ws : World} {m : Nat} {v : Value} {xs : List Value} {wr : World} (h : App ws m v xs wr) (hm : 0 < m) : ∃ g cap G, v = .slice (some ⟨g, 0, none⟩) m cap ∧ PtrsIn wr (some ⟨g, 0, none⟩) m G ∧
    ∀ (j b : Nat) (gj : Nat → ByteArray), xs[j]? = some (.pointer (some ⟨b, 0, none⟩)) → CopyAt ws b gj → ∀ x, hit (G j) x = hit gj x := by
  obtain ⟨g, cap, rfl, _, _⟩ := h.own.form hm
  have hlen : xs.length = m := by simpa using h.own.1
  have hex : ∀ j, j < m → ∃ c : Nat × (Nat → ByteArray), xs[j]? = some (.pointer (some ⟨c.1, 0, none⟩)) ∧ CopyAt ws c.1 c.2 := fun j hj => by
    have hx : xs[j]? = some (xs[j]'(by omega)) := List.getElem?_eq_getElem (by omega)
    obtain ⟨b, g, e, hk⟩ := h.ptr j _ hx
    exact ⟨(b, g), by rw [hx, e], hk⟩
  obtain ⟨C, hC⟩ := Go.Deep.choose_lt hex
  refine ⟨g, cap, fun j => (C j).2, rfl, fun j hj => ⟨g, 0, (C j).1, rfl, ?_, (hC j hj).2.below h.bel⟩, fun j b gj hj hc x => ?_⟩
  · have := h.own.cells (g := g) rfl j _ (hC j hj).1
    rwa [Go.WideShapes.add_plain] at this
  · have hjm : j < m := by rw [← hlen]; exact (List.getElem?_eq_some_iff.1 hj).1
    have hE := (hC j hjm).1
    rw [hj] at hE
    injection hE with hE
    injection hE with hE
    injection hE with hE
    injection hE with hE
    exact ((hC j hjm).2.hit_eq (hE ▸ hc) x)

theorem Mk.pre {w0 : World} {B n : Nat} {f : Nat → Nat → ByteArray} {wr : World} (h : Mk w0 B n n f wr) (m : Nat) (hm : m ≤ n) : PtrsIn wr (some ⟨B, 0, none⟩) m f := fun j hj => h.all j (by omega)
theorem Mk.post {w0 : World} {B n : Nat} {f : Nat → Nat → ByteArray} {wr : World} (h : Mk w0 B n n f wr) (c : Nat) (hc : c ≤ n) : PtrsIn wr (if n = c then some ⟨B, 0, none⟩ else some ⟨B, c, none⟩) (n - c) (fun j => f (c + j)) := by
  by_cases e : n = c
  · intro j hj
    omega
  · rw [if_neg e]
    exact h.part c (n - c) (by omega)

/-- The first loop: i pointers. -/
def Lp1 (ws : World) (A : Nat) (s16 s17 : Value) (wr : World) : Prop := ∃ (i : Nat) (xs : List Value), i ≤ A ∧ s17 = .int .i64 i ∧ App ws i s16 xs wr
/-- The second loop: the new one stands at A. -/
def Lp2 (ws : World) (A n nb : Nat) (s16 s18 : Value) (wr : World) : Prop :=
  ∃ (k : Nat) (xs : List Value), A ≤ k ∧ k ≤ n ∧ s18 = .int .i64 k ∧ App ws (k + 1) s16 xs wr ∧ xs[A]? = some (Value.pointer (some ⟨nb, 0, none⟩))

/-- It returns true; what was there is as it was. -/
def RT3 (w : World) (e : Ending) (w' : World) : Prop := e = .returned (.bool true) ∧ Below w.heap.size w w'

theorem n1_wrap {n n1 : Nat} (h : n ≤ 65536) (he : n1 = n + 1) : IntKind.i64.wrap ((n : Int) + 1) = (n1 : Int) ∧ wrap64 ((n : Int) + 1) = (n1 : Int) := by
  subst he
  refine ⟨?_, ?_⟩
  · rw [IntWalk.i64_in] <;> omega
  · rw [IntWalk.wrap64_in] <;> omega

set_option maxHeartbeats 8000000 in
set_option maxRecDepth 100000 in
theorem place_any (a : Option Addr) (n c : Nat) (s : Nat → Int) (p : Nat → Bool) (f : Nat → Nat → ByteArray) (nd : ByteArray) (cut at_ fld : Int) (w : World) (h : RowsIn w a n s p f) :
    Calls Try.prog 3 #[.slice a n c, .string nd, .int .i64 cut, .int .i64 at_, .int .i64 fld] w (RT3 w) := by
  go_enter Try.func3, Try.ntmps3
  go_wp2_with fail
  refine (bytes5_any a n c s p f nd cut at_ fld w h).mono ?_
  rintro e w' ⟨bb, rfl, rfl⟩
  cases bb with
  | false =>
    go_wp2_with fail
    go_ret
    exact ⟨rfl, Below.refl _ _⟩
  | true =>
    by_cases hl1 : (65536 : Int) < (nd.size : Int)
    · go_wp2_with fail
      go_ret
      exact ⟨rfl, Below.refl _ _⟩
    go_wp2_with fail
    refine (tooBig_any a n c s p f _ w' h).mono ?_
    rintro e w1 ⟨b1, rfl, hb1, B1⟩
    clear hl1
    cases b1 with
    | true =>
      go_wp2_with fail
      go_ret
      exact ⟨rfl, B1⟩
    | false =>
      have hn := hb1 rfl
      clear hb1
      by_cases q1 : cut < 0
      · go_wp2_with fail
        go_ret
        exact ⟨rfl, B1⟩
      by_cases q2 : (n : Int) < cut
      · go_wp2_with fail
        go_ret
        exact ⟨rfl, B1⟩
      by_cases q3 : at_ < 0
      · go_wp2_with fail
        go_ret
        exact ⟨rfl, B1⟩
      by_cases q4 : (n : Int) < at_
      · go_wp2_with fail
        go_ret
        exact ⟨rfl, B1⟩
      by_cases q5 : fld < 0
      · go_wp2_with fail
        go_ret
        exact ⟨rfl, B1⟩
      by_cases q6 : (3 : Int) < fld
      · go_wp2_with fail
        go_ret
        exact ⟨rfl, B1⟩
      obtain ⟨C, rfl⟩ := Int.eq_ofNat_of_zero_le (Int.not_lt.1 q1)
      obtain ⟨A, rfl⟩ := Int.eq_ofNat_of_zero_le (Int.not_lt.1 q3)
      have hCn : C ≤ n := by omega
      have hAn : A ≤ n := by omega
      have hCi : (C : Int) ≤ (n : Int) := by omega
      have HF1 := h.below B1
      obtain ⟨n1, hn1⟩ : ∃ n1, n1 = n + 1 := ⟨_, rfl⟩
      obtain ⟨hn1w, hn1v⟩ := n1_wrap hn hn1
      have hmk := run_make0 n1 (by omega)
      have HN1 : Hid (n1 = n + 1) := hn1
      have HN : Hid (n ≤ 65536) := hn
      have HC : Hid (C ≤ n) := hCn
      have HA : Hid (A ≤ n) := hAn
      clear h hn1 hn hCn hAn
      go_wp2_with fail
      refine (ptrs_any a n c s p f w1 HN.out HF1).mono ?_
      rintro e w2 ⟨rfl, M2⟩
      have HF2 : Hid (RowsIn w2 a n s p f) := HF1.below M2.bel
      have HB2 : Hid (Below w'.heap.size w' w2) := B1.trans (M2.bel.mono B1.size)
      have HM : Hid (Mk w1 w1.heap.size n n f w2) := M2
      clear HF1 B1 M2
      go_wp2_with fail
      refine (zholds_any _ n n f nd w2 (by have := HN.out; omega) HM.out.all).mono ?_
      rintro e w2' ⟨rfl, rfl⟩
      go_wp2_with fail
      refine (zholds_any _ C n f nd w2' (by have := HN.out; have := HC.out; omega) (HM.out.pre C HC.out)).mono ?_
      rintro e w2 ⟨rfl, rfl⟩
      go_upto_region 12 with fail
      go_cut [14] from 70 to 74 (fun s14 wx => s14 = .bool (held (fun j => f (C + j)) nd (n - C)) ∧ wx = w2)
      case first =>
        have HP := HM.out.post C HC.out
        have hb : n - C ≤ 131072 := by have := HN.out; omega
        by_cases hnc : n = C
        · subst hnc
          rw [if_pos rfl] at HP
          clear HP hb
          go_wp2_with fail
          refine (zholds_any _ 0 0 (fun j => f (n + j)) nd w2 (by omega) (fun j hj => by omega)).mono ?_
          rintro e w3 ⟨rfl, rfl⟩
          go_wp2_with fail
          go_meet
          exact ⟨by rw [Nat.sub_self], rfl⟩
        · rw [if_neg hnc] at HP
          go_wp2_with fail
          refine (zholds_any _ _ _ _ nd w2 hb HP).mono ?_
          rintro e w3 ⟨rfl, rfl⟩
          go_wp2_with fail
          go_meet
          exact ⟨rfl, rfl⟩
      case rest =>
        obtain ⟨rfl, rfl⟩ := hcut
        obtain ⟨i0, hi0, hz0, hz1, hz2⟩ := info_parts info35
        have HAN : Hid (A ≤ n) := HA
        clear HA
        have hf4 : fld = 0 ∨ fld = 1 ∨ fld = 2 ∨ fld = 3 := by omega
        rcases hf4 with rfl | rfl | rfl | rfl
        · obtain ⟨ws, hws⟩ : ∃ ws, ws = wc.alloc (.cells #[.int .i64 0, .bool false, .string ⟨#[]⟩, .string nd, .string ⟨#[]⟩, .string ⟨#[]⟩, .string ⟨#[]⟩, .string ⟨#[]⟩, .string ⟨#[]⟩, .string ⟨#[]⟩, .int .u64 0, .int .i64 0, .pointer none] 34) := ⟨_, rfl⟩
          have KN : CopyAt ws wc.heap.size (fun j => if j = 3 then nd else ⟨#[]⟩) := by rw [hws]; exact copyAt_new wc 0 false (fun j => if j = 3 then nd else ⟨#[]⟩)
          have hit1 : hit (fun j => if j = 3 then nd else ⟨#[]⟩) nd = true := by simp [hit]
          have BW : Below wc.heap.size wc ws := by rw [hws]; exact (Below.refl _ wc).alloc (Nat.le_refl _) _
          have S0 : App ws 0 (.slice (some ⟨wc.heap.size + 1, 0, none⟩) 0 n1) [] (ws.alloc (madeP n1)) := by
            have := App.start ws n1 (by have := HN1.out; have := HN.out; omega)
            rwa [show ws.heap.size = wc.heap.size + 1 by rw [hws]; simp] at this
          have HMW : Hid (Mk w1 w1.heap.size n n f ws) := HM.out.below BW
          have HFW : Hid (RowsIn ws a n s p f) := HF2.out.below BW
          have HBW : Hid (Below w'.heap.size w' ws) := HB2.out.trans (BW.mono HB2.out.size)
          have HKN : Hid (CopyAt ws wc.heap.size (fun j => if j = 3 then nd else ⟨#[]⟩)) := KN
          have HIT : Hid (hit (fun j => if j = 3 then nd else ⟨#[]⟩) nd = true) := hit1
          have HS0 : Hid (App ws 0 (.slice (some ⟨wc.heap.size + 1, 0, none⟩) 0 n1) [] (ws.alloc (madeP n1))) := S0
          clear KN hit1 BW S0 HM HF2 HB2
          go_wp2_with fail
          rw [← hws]
          clear hws hmk hn1w hn1v
          go_loopw [16, 17] (fun s16 s17 wr => Lp1 ws A s16 s17 wr) (fun _ s17 _ => A - (intOf s17).toNat)
          case atStart => exact ⟨0, [], Nat.zero_le _, rfl, HS0.out⟩
          case round =>
            obtain ⟨i, xs, hi, rfl, HA1⟩ := hrel
            obtain ⟨vv, hvv⟩ : ∃ vv, vv = u16 := ⟨_, rfl⟩
            subst hvv
            have HA : Hid (App ws i vv xs wr) := HA1
            by_cases hlt : i < A
            · have hlti : (i : Int) < (A : Int) := Int.ofNat_lt.2 hlt
              have hltn : (i : Int) < (n : Int) := Int.ofNat_lt.2 (Nat.lt_of_lt_of_le hlt HAN.out)
              obtain ⟨hwi, hwj⟩ := i_step (Nat.le_trans HAN.out (Nat.le_trans HN.out (by omega))) hlt
              obtain ⟨b, _, hc, hk⟩ := HMW.out.ptr i (Nat.lt_of_lt_of_le hlt HAN.out)
              have hci := (HA1.bel.cell (World.block_lt_of_cell? _ _ hc)).trans hc
              have HLT : Hid (i < A) := hlt
              have HK : Hid (CopyAt ws b (f i)) := hk
              clear HA1 hc hk hlt
              go_wp2_with (at_builtin; refine wpList_append_own _ rfl _ _ 25 rfl ws.heap.size 35 i0 (.pointer none) 1 8 Try.underlying25 hi0 hz0 hz1 hz2 rfl (by decide) _ _ _ rfl (HA.out.own.alloc _) _ 1 1 [.pointer (some ⟨b, 0, none⟩)] rfl rfl ?c1 ?c2 ?c3 ?c4 ?c5 ?_)
              case c1 => exact World.news_of_block (heap_alloc_new wr _)
              case c2 => intro u hu; simp at hu; subst hu; rfl
              case c3 => have := HN.out; have := HAN.out; have := HLT.out; unfold maxLen; omega
              case c4 => have := HN.out; have := HAN.out; have := HLT.out; omega
              case c5 => have := HA.out.bel.size; simp; omega
              intro v1 wz hown hg _
              have HA2 : Hid (App ws (i + 1) v1 (xs ++ [.pointer (some ⟨b, 0, none⟩)]) wz) := App.next HA.out HK.out hown hg
              clear hown hg hci
              go_wp2_with fail
              go_roundw
              case rel => exact ⟨v1, .int .i64 ((i : Int) + 1), _, _, _, _, _, _, _, _, _, _, _, _, ⟨i + 1, _, HLT.out, by go_num, HA2.out⟩, rfl⟩
              case measure => simp [intOf]; exact meas HLT.out
            · obtain rfl : i = A := Nat.le_antisymm hi (Nat.le_of_not_lt hlt)
              clear HA1 hlt
              go_wp2_with (at_builtin; refine wpList_append_own _ rfl _ _ 25 rfl ws.heap.size 35 i0 (.pointer none) 1 8 Try.underlying25 hi0 hz0 hz1 hz2 rfl (by decide) _ _ _ rfl (HA.out.own.alloc _) _ 1 1 [.pointer (some ⟨wc.heap.size, 0, none⟩)] rfl rfl ?c1 ?c2 ?c3 ?c4 ?c5 ?_)
              case c1 => exact World.news_of_block (heap_alloc_new wr _)
              case c2 => intro u hu; simp at hu; subst hu; rfl
              case c3 => have := HN.out; have := HAN.out; unfold maxLen; omega
              case c4 => have := HN.out; have := HAN.out; omega
              case c5 => have := HA.out.bel.size; simp; omega
              intro v1 wz hown hg _
              have hxl : xs.length = i := by have := HA.out.own.1; omega
              have HA2 : App ws (i + 1) v1 (xs ++ [.pointer (some ⟨wc.heap.size, 0, none⟩)]) wz := App.next HA.out HKN.out hown hg
              have HXA : (xs ++ [.pointer (some ⟨wc.heap.size, 0, none⟩)])[i]? = some (Value.pointer (some ⟨wc.heap.size, 0, none⟩)) := by rw [List.getElem?_append_right (by omega), hxl, Nat.sub_self]; rfl
              have HA3 : Hid (App ws (i + 1) v1 (xs ++ [.pointer (some ⟨wc.heap.size, 0, none⟩)]) wz ∧ (xs ++ [.pointer (some ⟨wc.heap.size, 0, none⟩)])[i]? = some (Value.pointer (some ⟨wc.heap.size, 0, none⟩))) := ⟨HA2, HXA⟩
              clear hown hg hxl HA2 HXA HA
              go_wp2_with fail
              go_loopw [16, 18] (fun s16 s18 wr => Lp2 ws i n wc.heap.size s16 s18 wr) (fun _ s18 _ => n - (intOf s18).toNat)
              case atStart => exact ⟨i, _, Nat.le_refl _, HAN.out, rfl, HA3.out.1, HA3.out.2⟩
              case round =>
                obtain ⟨k, ys, hik, hk, rfl, HA1, hys⟩ := hrel
                obtain ⟨vx, hvx⟩ : ∃ vx, vx = u16 := ⟨_, rfl⟩
                subst hvx
                clear HA3
                have HA : Hid (App ws (k + 1) vx ys wr) := HA1
                have HY : Hid (ys[i]? = some (Value.pointer (some ⟨wc.heap.size, 0, none⟩))) := hys
                have HIK : Hid (i ≤ k) := hik
                by_cases hlt : k < n
                · have hlti : (k : Int) < (n : Int) := Int.ofNat_lt.2 hlt
                  obtain ⟨hwi, hwj⟩ := i_step (Nat.le_trans HN.out (by omega)) hlt
                  obtain ⟨b, _, hc, hkk⟩ := HMW.out.ptr k hlt
                  have hci := (HA1.bel.cell (World.block_lt_of_cell? _ _ hc)).trans hc
                  have HLT : Hid (k < n) := hlt
                  have HK : Hid (CopyAt ws b (f k)) := hkk
                  clear HA1 hys hik hc hkk hlt
                  go_wp2_with (at_builtin; refine wpList_append_own _ rfl _ _ 25 rfl ws.heap.size 35 i0 (.pointer none) 1 8 Try.underlying25 hi0 hz0 hz1 hz2 rfl (by decide) _ _ _ rfl (HA.out.own.alloc _) _ 1 1 [.pointer (some ⟨b, 0, none⟩)] rfl rfl ?c1 ?c2 ?c3 ?c4 ?c5 ?_)
                  case c1 => exact World.news_of_block (heap_alloc_new wr _)
                  case c2 => intro u hu; simp at hu; subst hu; rfl
                  case c3 => have := HN.out; have := HLT.out; unfold maxLen; omega
                  case c4 => have := HN.out; have := HLT.out; omega
                  case c5 => have := HA.out.bel.size; simp; omega
                  intro v2 wz2 hown hg _
                  have HA2 : Hid (App ws (k + 1 + 1) v2 (ys ++ [.pointer (some ⟨b, 0, none⟩)]) wz2) := App.next HA.out HK.out hown hg
                  clear hown hg hci
                  go_wp2_with fail
                  go_roundw
                  case rel => exact ⟨k + 1, _, Nat.le_succ_of_le HIK.out, HLT.out, by go_num, HA2.out, by rw [List.getElem?_append_left (List.getElem?_eq_some_iff.1 HY.out).1]; exact HY.out⟩
                  case measure => simp [intOf]; exact meas HLT.out
                · obtain rfl : k = n := Nat.le_antisymm hk (Nat.le_of_not_lt hlt)
                  obtain ⟨g, cap, G, rfl, HP, hG⟩ := HA1.ptrs (by omega)
                  have hall : held G nd (k + 1) = true := held_hit (k := i) (by rw [hG i _ _ hys HKN.out nd]; exact HIT.out) (by omega)
                  have HBR : Hid (Below w'.heap.size w' wr) := HBW.out.trans (HA1.bel.mono HBW.out.size)
                  have HFR : Hid (RowsIn wr a k s p f) := HFW.out.below HA1.bel
                  have hsp := held_split f nd C (k - C)
                  rw [show C + (k - C) = k by have := HC.out; omega] at hsp
                  have HSP : Hid (held f nd k = (held f nd C || held (fun j => f (C + j)) nd (k - C))) := hsp
                  have HALL : Hid (held G nd (k + 1) = true) := hall
                  clear HA1 hys hik hG hall hsp hlt HA HY
                  go_wp2_with fail
                  refine (zholds_any _ (k + 1) cap G nd wr (by have := HN.out; omega) HP).mono ?_
                  rintro e wr2 ⟨rfl, rfl⟩
                  rw [HALL.out]
                  clear HP
                  go_wp2_with fail
                  refine (anyP_any a k c s p f nd wr2 HN.out HFR.out).mono ?_
                  rintro e wr3 ⟨rfl, B9⟩
                  have BB : Below w'.heap.size w' wr3 := HBR.out.trans (B9.mono HBR.out.size)
                  clear B9
                  rw [HSP.out]
                  generalize held f nd C = b1
                  generalize held (fun j => f (C + j)) nd (k - C) = b2
                  cases b1 <;> cases b2 <;> (go_wp2_with fail; go_ret; exact ⟨rfl, BB⟩)
        · obtain ⟨ws, hws⟩ : ∃ ws, ws = wc.alloc (.cells #[.int .i64 0, .bool false, .string ⟨#[]⟩, .string ⟨#[]⟩, .string ⟨#[]⟩, .string ⟨#[]⟩, .string nd, .string ⟨#[]⟩, .string ⟨#[]⟩, .string ⟨#[]⟩, .int .u64 0, .int .i64 0, .pointer none] 34) := ⟨_, rfl⟩
          have KN : CopyAt ws wc.heap.size (fun j => if j = 6 then nd else ⟨#[]⟩) := by rw [hws]; exact copyAt_new wc 0 false (fun j => if j = 6 then nd else ⟨#[]⟩)
          have hit1 : hit (fun j => if j = 6 then nd else ⟨#[]⟩) nd = true := by simp [hit]
          have BW : Below wc.heap.size wc ws := by rw [hws]; exact (Below.refl _ wc).alloc (Nat.le_refl _) _
          have S0 : App ws 0 (.slice (some ⟨wc.heap.size + 1, 0, none⟩) 0 n1) [] (ws.alloc (madeP n1)) := by
            have := App.start ws n1 (by have := HN1.out; have := HN.out; omega)
            rwa [show ws.heap.size = wc.heap.size + 1 by rw [hws]; simp] at this
          have HMW : Hid (Mk w1 w1.heap.size n n f ws) := HM.out.below BW
          have HFW : Hid (RowsIn ws a n s p f) := HF2.out.below BW
          have HBW : Hid (Below w'.heap.size w' ws) := HB2.out.trans (BW.mono HB2.out.size)
          have HKN : Hid (CopyAt ws wc.heap.size (fun j => if j = 6 then nd else ⟨#[]⟩)) := KN
          have HIT : Hid (hit (fun j => if j = 6 then nd else ⟨#[]⟩) nd = true) := hit1
          have HS0 : Hid (App ws 0 (.slice (some ⟨wc.heap.size + 1, 0, none⟩) 0 n1) [] (ws.alloc (madeP n1))) := S0
          clear KN hit1 BW S0 HM HF2 HB2
          go_wp2_with fail
          rw [← hws]
          clear hws hmk hn1w hn1v
          go_loopw [16, 17] (fun s16 s17 wr => Lp1 ws A s16 s17 wr) (fun _ s17 _ => A - (intOf s17).toNat)
          case atStart => exact ⟨0, [], Nat.zero_le _, rfl, HS0.out⟩
          case round =>
            obtain ⟨i, xs, hi, rfl, HA1⟩ := hrel
            obtain ⟨vv, hvv⟩ : ∃ vv, vv = u16 := ⟨_, rfl⟩
            subst hvv
            have HA : Hid (App ws i vv xs wr) := HA1
            by_cases hlt : i < A
            · have hlti : (i : Int) < (A : Int) := Int.ofNat_lt.2 hlt
              have hltn : (i : Int) < (n : Int) := Int.ofNat_lt.2 (Nat.lt_of_lt_of_le hlt HAN.out)
              obtain ⟨hwi, hwj⟩ := i_step (Nat.le_trans HAN.out (Nat.le_trans HN.out (by omega))) hlt
              obtain ⟨b, _, hc, hk⟩ := HMW.out.ptr i (Nat.lt_of_lt_of_le hlt HAN.out)
              have hci := (HA1.bel.cell (World.block_lt_of_cell? _ _ hc)).trans hc
              have HLT : Hid (i < A) := hlt
              have HK : Hid (CopyAt ws b (f i)) := hk
              clear HA1 hc hk hlt
              go_wp2_with (at_builtin; refine wpList_append_own _ rfl _ _ 25 rfl ws.heap.size 35 i0 (.pointer none) 1 8 Try.underlying25 hi0 hz0 hz1 hz2 rfl (by decide) _ _ _ rfl (HA.out.own.alloc _) _ 1 1 [.pointer (some ⟨b, 0, none⟩)] rfl rfl ?c1 ?c2 ?c3 ?c4 ?c5 ?_)
              case c1 => exact World.news_of_block (heap_alloc_new wr _)
              case c2 => intro u hu; simp at hu; subst hu; rfl
              case c3 => have := HN.out; have := HAN.out; have := HLT.out; unfold maxLen; omega
              case c4 => have := HN.out; have := HAN.out; have := HLT.out; omega
              case c5 => have := HA.out.bel.size; simp; omega
              intro v1 wz hown hg _
              have HA2 : Hid (App ws (i + 1) v1 (xs ++ [.pointer (some ⟨b, 0, none⟩)]) wz) := App.next HA.out HK.out hown hg
              clear hown hg hci
              go_wp2_with fail
              go_roundw
              case rel => exact ⟨v1, .int .i64 ((i : Int) + 1), _, _, _, _, _, _, _, _, _, _, _, _, ⟨i + 1, _, HLT.out, by go_num, HA2.out⟩, rfl⟩
              case measure => simp [intOf]; exact meas HLT.out
            · obtain rfl : i = A := Nat.le_antisymm hi (Nat.le_of_not_lt hlt)
              clear HA1 hlt
              go_wp2_with (at_builtin; refine wpList_append_own _ rfl _ _ 25 rfl ws.heap.size 35 i0 (.pointer none) 1 8 Try.underlying25 hi0 hz0 hz1 hz2 rfl (by decide) _ _ _ rfl (HA.out.own.alloc _) _ 1 1 [.pointer (some ⟨wc.heap.size, 0, none⟩)] rfl rfl ?c1 ?c2 ?c3 ?c4 ?c5 ?_)
              case c1 => exact World.news_of_block (heap_alloc_new wr _)
              case c2 => intro u hu; simp at hu; subst hu; rfl
              case c3 => have := HN.out; have := HAN.out; unfold maxLen; omega
              case c4 => have := HN.out; have := HAN.out; omega
              case c5 => have := HA.out.bel.size; simp; omega
              intro v1 wz hown hg _
              have hxl : xs.length = i := by have := HA.out.own.1; omega
              have HA2 : App ws (i + 1) v1 (xs ++ [.pointer (some ⟨wc.heap.size, 0, none⟩)]) wz := App.next HA.out HKN.out hown hg
              have HXA : (xs ++ [.pointer (some ⟨wc.heap.size, 0, none⟩)])[i]? = some (Value.pointer (some ⟨wc.heap.size, 0, none⟩)) := by rw [List.getElem?_append_right (by omega), hxl, Nat.sub_self]; rfl
              have HA3 : Hid (App ws (i + 1) v1 (xs ++ [.pointer (some ⟨wc.heap.size, 0, none⟩)]) wz ∧ (xs ++ [.pointer (some ⟨wc.heap.size, 0, none⟩)])[i]? = some (Value.pointer (some ⟨wc.heap.size, 0, none⟩))) := ⟨HA2, HXA⟩
              clear hown hg hxl HA2 HXA HA
              go_wp2_with fail
              go_loopw [16, 18] (fun s16 s18 wr => Lp2 ws i n wc.heap.size s16 s18 wr) (fun _ s18 _ => n - (intOf s18).toNat)
              case atStart => exact ⟨i, _, Nat.le_refl _, HAN.out, rfl, HA3.out.1, HA3.out.2⟩
              case round =>
                obtain ⟨k, ys, hik, hk, rfl, HA1, hys⟩ := hrel
                obtain ⟨vx, hvx⟩ : ∃ vx, vx = u16 := ⟨_, rfl⟩
                subst hvx
                clear HA3
                have HA : Hid (App ws (k + 1) vx ys wr) := HA1
                have HY : Hid (ys[i]? = some (Value.pointer (some ⟨wc.heap.size, 0, none⟩))) := hys
                have HIK : Hid (i ≤ k) := hik
                by_cases hlt : k < n
                · have hlti : (k : Int) < (n : Int) := Int.ofNat_lt.2 hlt
                  obtain ⟨hwi, hwj⟩ := i_step (Nat.le_trans HN.out (by omega)) hlt
                  obtain ⟨b, _, hc, hkk⟩ := HMW.out.ptr k hlt
                  have hci := (HA1.bel.cell (World.block_lt_of_cell? _ _ hc)).trans hc
                  have HLT : Hid (k < n) := hlt
                  have HK : Hid (CopyAt ws b (f k)) := hkk
                  clear HA1 hys hik hc hkk hlt
                  go_wp2_with (at_builtin; refine wpList_append_own _ rfl _ _ 25 rfl ws.heap.size 35 i0 (.pointer none) 1 8 Try.underlying25 hi0 hz0 hz1 hz2 rfl (by decide) _ _ _ rfl (HA.out.own.alloc _) _ 1 1 [.pointer (some ⟨b, 0, none⟩)] rfl rfl ?c1 ?c2 ?c3 ?c4 ?c5 ?_)
                  case c1 => exact World.news_of_block (heap_alloc_new wr _)
                  case c2 => intro u hu; simp at hu; subst hu; rfl
                  case c3 => have := HN.out; have := HLT.out; unfold maxLen; omega
                  case c4 => have := HN.out; have := HLT.out; omega
                  case c5 => have := HA.out.bel.size; simp; omega
                  intro v2 wz2 hown hg _
                  have HA2 : Hid (App ws (k + 1 + 1) v2 (ys ++ [.pointer (some ⟨b, 0, none⟩)]) wz2) := App.next HA.out HK.out hown hg
                  clear hown hg hci
                  go_wp2_with fail
                  go_roundw
                  case rel => exact ⟨k + 1, _, Nat.le_succ_of_le HIK.out, HLT.out, by go_num, HA2.out, by rw [List.getElem?_append_left (List.getElem?_eq_some_iff.1 HY.out).1]; exact HY.out⟩
                  case measure => simp [intOf]; exact meas HLT.out
                · obtain rfl : k = n := Nat.le_antisymm hk (Nat.le_of_not_lt hlt)
                  obtain ⟨g, cap, G, rfl, HP, hG⟩ := HA1.ptrs (by omega)
                  have hall : held G nd (k + 1) = true := held_hit (k := i) (by rw [hG i _ _ hys HKN.out nd]; exact HIT.out) (by omega)
                  have HBR : Hid (Below w'.heap.size w' wr) := HBW.out.trans (HA1.bel.mono HBW.out.size)
                  have HFR : Hid (RowsIn wr a k s p f) := HFW.out.below HA1.bel
                  have hsp := held_split f nd C (k - C)
                  rw [show C + (k - C) = k by have := HC.out; omega] at hsp
                  have HSP : Hid (held f nd k = (held f nd C || held (fun j => f (C + j)) nd (k - C))) := hsp
                  have HALL : Hid (held G nd (k + 1) = true) := hall
                  clear HA1 hys hik hG hall hsp hlt HA HY
                  go_wp2_with fail
                  refine (zholds_any _ (k + 1) cap G nd wr (by have := HN.out; omega) HP).mono ?_
                  rintro e wr2 ⟨rfl, rfl⟩
                  rw [HALL.out]
                  clear HP
                  go_wp2_with fail
                  refine (anyP_any a k c s p f nd wr2 HN.out HFR.out).mono ?_
                  rintro e wr3 ⟨rfl, B9⟩
                  have BB : Below w'.heap.size w' wr3 := HBR.out.trans (B9.mono HBR.out.size)
                  clear B9
                  rw [HSP.out]
                  generalize held f nd C = b1
                  generalize held (fun j => f (C + j)) nd (k - C) = b2
                  cases b1 <;> cases b2 <;> (go_wp2_with fail; go_ret; exact ⟨rfl, BB⟩)
        · obtain ⟨ws, hws⟩ : ∃ ws, ws = wc.alloc (.cells #[.int .i64 0, .bool false, .string ⟨#[]⟩, .string ⟨#[]⟩, .string ⟨#[]⟩, .string ⟨#[]⟩, .string ⟨#[]⟩, .string nd, .string ⟨#[]⟩, .string ⟨#[]⟩, .int .u64 0, .int .i64 0, .pointer none] 34) := ⟨_, rfl⟩
          have KN : CopyAt ws wc.heap.size (fun j => if j = 7 then nd else ⟨#[]⟩) := by rw [hws]; exact copyAt_new wc 0 false (fun j => if j = 7 then nd else ⟨#[]⟩)
          have hit1 : hit (fun j => if j = 7 then nd else ⟨#[]⟩) nd = true := by simp [hit]
          have BW : Below wc.heap.size wc ws := by rw [hws]; exact (Below.refl _ wc).alloc (Nat.le_refl _) _
          have S0 : App ws 0 (.slice (some ⟨wc.heap.size + 1, 0, none⟩) 0 n1) [] (ws.alloc (madeP n1)) := by
            have := App.start ws n1 (by have := HN1.out; have := HN.out; omega)
            rwa [show ws.heap.size = wc.heap.size + 1 by rw [hws]; simp] at this
          have HMW : Hid (Mk w1 w1.heap.size n n f ws) := HM.out.below BW
          have HFW : Hid (RowsIn ws a n s p f) := HF2.out.below BW
          have HBW : Hid (Below w'.heap.size w' ws) := HB2.out.trans (BW.mono HB2.out.size)
          have HKN : Hid (CopyAt ws wc.heap.size (fun j => if j = 7 then nd else ⟨#[]⟩)) := KN
          have HIT : Hid (hit (fun j => if j = 7 then nd else ⟨#[]⟩) nd = true) := hit1
          have HS0 : Hid (App ws 0 (.slice (some ⟨wc.heap.size + 1, 0, none⟩) 0 n1) [] (ws.alloc (madeP n1))) := S0
          clear KN hit1 BW S0 HM HF2 HB2
          go_wp2_with fail
          rw [← hws]
          clear hws hmk hn1w hn1v
          go_loopw [16, 17] (fun s16 s17 wr => Lp1 ws A s16 s17 wr) (fun _ s17 _ => A - (intOf s17).toNat)
          case atStart => exact ⟨0, [], Nat.zero_le _, rfl, HS0.out⟩
          case round =>
            obtain ⟨i, xs, hi, rfl, HA1⟩ := hrel
            obtain ⟨vv, hvv⟩ : ∃ vv, vv = u16 := ⟨_, rfl⟩
            subst hvv
            have HA : Hid (App ws i vv xs wr) := HA1
            by_cases hlt : i < A
            · have hlti : (i : Int) < (A : Int) := Int.ofNat_lt.2 hlt
              have hltn : (i : Int) < (n : Int) := Int.ofNat_lt.2 (Nat.lt_of_lt_of_le hlt HAN.out)
              obtain ⟨hwi, hwj⟩ := i_step (Nat.le_trans HAN.out (Nat.le_trans HN.out (by omega))) hlt
              obtain ⟨b, _, hc, hk⟩ := HMW.out.ptr i (Nat.lt_of_lt_of_le hlt HAN.out)
              have hci := (HA1.bel.cell (World.block_lt_of_cell? _ _ hc)).trans hc
              have HLT : Hid (i < A) := hlt
              have HK : Hid (CopyAt ws b (f i)) := hk
              clear HA1 hc hk hlt
              go_wp2_with (at_builtin; refine wpList_append_own _ rfl _ _ 25 rfl ws.heap.size 35 i0 (.pointer none) 1 8 Try.underlying25 hi0 hz0 hz1 hz2 rfl (by decide) _ _ _ rfl (HA.out.own.alloc _) _ 1 1 [.pointer (some ⟨b, 0, none⟩)] rfl rfl ?c1 ?c2 ?c3 ?c4 ?c5 ?_)
              case c1 => exact World.news_of_block (heap_alloc_new wr _)
              case c2 => intro u hu; simp at hu; subst hu; rfl
              case c3 => have := HN.out; have := HAN.out; have := HLT.out; unfold maxLen; omega
              case c4 => have := HN.out; have := HAN.out; have := HLT.out; omega
              case c5 => have := HA.out.bel.size; simp; omega
              intro v1 wz hown hg _
              have HA2 : Hid (App ws (i + 1) v1 (xs ++ [.pointer (some ⟨b, 0, none⟩)]) wz) := App.next HA.out HK.out hown hg
              clear hown hg hci
              go_wp2_with fail
              go_roundw
              case rel => exact ⟨v1, .int .i64 ((i : Int) + 1), _, _, _, _, _, _, _, _, _, _, _, _, ⟨i + 1, _, HLT.out, by go_num, HA2.out⟩, rfl⟩
              case measure => simp [intOf]; exact meas HLT.out
            · obtain rfl : i = A := Nat.le_antisymm hi (Nat.le_of_not_lt hlt)
              clear HA1 hlt
              go_wp2_with (at_builtin; refine wpList_append_own _ rfl _ _ 25 rfl ws.heap.size 35 i0 (.pointer none) 1 8 Try.underlying25 hi0 hz0 hz1 hz2 rfl (by decide) _ _ _ rfl (HA.out.own.alloc _) _ 1 1 [.pointer (some ⟨wc.heap.size, 0, none⟩)] rfl rfl ?c1 ?c2 ?c3 ?c4 ?c5 ?_)
              case c1 => exact World.news_of_block (heap_alloc_new wr _)
              case c2 => intro u hu; simp at hu; subst hu; rfl
              case c3 => have := HN.out; have := HAN.out; unfold maxLen; omega
              case c4 => have := HN.out; have := HAN.out; omega
              case c5 => have := HA.out.bel.size; simp; omega
              intro v1 wz hown hg _
              have hxl : xs.length = i := by have := HA.out.own.1; omega
              have HA2 : App ws (i + 1) v1 (xs ++ [.pointer (some ⟨wc.heap.size, 0, none⟩)]) wz := App.next HA.out HKN.out hown hg
              have HXA : (xs ++ [.pointer (some ⟨wc.heap.size, 0, none⟩)])[i]? = some (Value.pointer (some ⟨wc.heap.size, 0, none⟩)) := by rw [List.getElem?_append_right (by omega), hxl, Nat.sub_self]; rfl
              have HA3 : Hid (App ws (i + 1) v1 (xs ++ [.pointer (some ⟨wc.heap.size, 0, none⟩)]) wz ∧ (xs ++ [.pointer (some ⟨wc.heap.size, 0, none⟩)])[i]? = some (Value.pointer (some ⟨wc.heap.size, 0, none⟩))) := ⟨HA2, HXA⟩
              clear hown hg hxl HA2 HXA HA
              go_wp2_with fail
              go_loopw [16, 18] (fun s16 s18 wr => Lp2 ws i n wc.heap.size s16 s18 wr) (fun _ s18 _ => n - (intOf s18).toNat)
              case atStart => exact ⟨i, _, Nat.le_refl _, HAN.out, rfl, HA3.out.1, HA3.out.2⟩
              case round =>
                obtain ⟨k, ys, hik, hk, rfl, HA1, hys⟩ := hrel
                obtain ⟨vx, hvx⟩ : ∃ vx, vx = u16 := ⟨_, rfl⟩
                subst hvx
                clear HA3
                have HA : Hid (App ws (k + 1) vx ys wr) := HA1
                have HY : Hid (ys[i]? = some (Value.pointer (some ⟨wc.heap.size, 0, none⟩))) := hys
                have HIK : Hid (i ≤ k) := hik
                by_cases hlt : k < n
                · have hlti : (k : Int) < (n : Int) := Int.ofNat_lt.2 hlt
                  obtain ⟨hwi, hwj⟩ := i_step (Nat.le_trans HN.out (by omega)) hlt
                  obtain ⟨b, _, hc, hkk⟩ := HMW.out.ptr k hlt
                  have hci := (HA1.bel.cell (World.block_lt_of_cell? _ _ hc)).trans hc
                  have HLT : Hid (k < n) := hlt
                  have HK : Hid (CopyAt ws b (f k)) := hkk
                  clear HA1 hys hik hc hkk hlt
                  go_wp2_with (at_builtin; refine wpList_append_own _ rfl _ _ 25 rfl ws.heap.size 35 i0 (.pointer none) 1 8 Try.underlying25 hi0 hz0 hz1 hz2 rfl (by decide) _ _ _ rfl (HA.out.own.alloc _) _ 1 1 [.pointer (some ⟨b, 0, none⟩)] rfl rfl ?c1 ?c2 ?c3 ?c4 ?c5 ?_)
                  case c1 => exact World.news_of_block (heap_alloc_new wr _)
                  case c2 => intro u hu; simp at hu; subst hu; rfl
                  case c3 => have := HN.out; have := HLT.out; unfold maxLen; omega
                  case c4 => have := HN.out; have := HLT.out; omega
                  case c5 => have := HA.out.bel.size; simp; omega
                  intro v2 wz2 hown hg _
                  have HA2 : Hid (App ws (k + 1 + 1) v2 (ys ++ [.pointer (some ⟨b, 0, none⟩)]) wz2) := App.next HA.out HK.out hown hg
                  clear hown hg hci
                  go_wp2_with fail
                  go_roundw
                  case rel => exact ⟨k + 1, _, Nat.le_succ_of_le HIK.out, HLT.out, by go_num, HA2.out, by rw [List.getElem?_append_left (List.getElem?_eq_some_iff.1 HY.out).1]; exact HY.out⟩
                  case measure => simp [intOf]; exact meas HLT.out
                · obtain rfl : k = n := Nat.le_antisymm hk (Nat.le_of_not_lt hlt)
                  obtain ⟨g, cap, G, rfl, HP, hG⟩ := HA1.ptrs (by omega)
                  have hall : held G nd (k + 1) = true := held_hit (k := i) (by rw [hG i _ _ hys HKN.out nd]; exact HIT.out) (by omega)
                  have HBR : Hid (Below w'.heap.size w' wr) := HBW.out.trans (HA1.bel.mono HBW.out.size)
                  have HFR : Hid (RowsIn wr a k s p f) := HFW.out.below HA1.bel
                  have hsp := held_split f nd C (k - C)
                  rw [show C + (k - C) = k by have := HC.out; omega] at hsp
                  have HSP : Hid (held f nd k = (held f nd C || held (fun j => f (C + j)) nd (k - C))) := hsp
                  have HALL : Hid (held G nd (k + 1) = true) := hall
                  clear HA1 hys hik hG hall hsp hlt HA HY
                  go_wp2_with fail
                  refine (zholds_any _ (k + 1) cap G nd wr (by have := HN.out; omega) HP).mono ?_
                  rintro e wr2 ⟨rfl, rfl⟩
                  rw [HALL.out]
                  clear HP
                  go_wp2_with fail
                  refine (anyP_any a k c s p f nd wr2 HN.out HFR.out).mono ?_
                  rintro e wr3 ⟨rfl, B9⟩
                  have BB : Below w'.heap.size w' wr3 := HBR.out.trans (B9.mono HBR.out.size)
                  clear B9
                  rw [HSP.out]
                  generalize held f nd C = b1
                  generalize held (fun j => f (C + j)) nd (k - C) = b2
                  cases b1 <;> cases b2 <;> (go_wp2_with fail; go_ret; exact ⟨rfl, BB⟩)
        · obtain ⟨ws, hws⟩ : ∃ ws, ws = wc.alloc (.cells #[.int .i64 0, .bool false, .string ⟨#[]⟩, .string ⟨#[]⟩, .string ⟨#[]⟩, .string ⟨#[]⟩, .string ⟨#[]⟩, .string ⟨#[]⟩, .string ⟨#[]⟩, .string nd, .int .u64 0, .int .i64 0, .pointer none] 34) := ⟨_, rfl⟩
          have KN : CopyAt ws wc.heap.size (fun j => if j = 9 then nd else ⟨#[]⟩) := by rw [hws]; exact copyAt_new wc 0 false (fun j => if j = 9 then nd else ⟨#[]⟩)
          have hit1 : hit (fun j => if j = 9 then nd else ⟨#[]⟩) nd = true := by simp [hit]
          have BW : Below wc.heap.size wc ws := by rw [hws]; exact (Below.refl _ wc).alloc (Nat.le_refl _) _
          have S0 : App ws 0 (.slice (some ⟨wc.heap.size + 1, 0, none⟩) 0 n1) [] (ws.alloc (madeP n1)) := by
            have := App.start ws n1 (by have := HN1.out; have := HN.out; omega)
            rwa [show ws.heap.size = wc.heap.size + 1 by rw [hws]; simp] at this
          have HMW : Hid (Mk w1 w1.heap.size n n f ws) := HM.out.below BW
          have HFW : Hid (RowsIn ws a n s p f) := HF2.out.below BW
          have HBW : Hid (Below w'.heap.size w' ws) := HB2.out.trans (BW.mono HB2.out.size)
          have HKN : Hid (CopyAt ws wc.heap.size (fun j => if j = 9 then nd else ⟨#[]⟩)) := KN
          have HIT : Hid (hit (fun j => if j = 9 then nd else ⟨#[]⟩) nd = true) := hit1
          have HS0 : Hid (App ws 0 (.slice (some ⟨wc.heap.size + 1, 0, none⟩) 0 n1) [] (ws.alloc (madeP n1))) := S0
          clear KN hit1 BW S0 HM HF2 HB2
          go_wp2_with fail
          rw [← hws]
          clear hws hmk hn1w hn1v
          go_loopw [16, 17] (fun s16 s17 wr => Lp1 ws A s16 s17 wr) (fun _ s17 _ => A - (intOf s17).toNat)
          case atStart => exact ⟨0, [], Nat.zero_le _, rfl, HS0.out⟩
          case round =>
            obtain ⟨i, xs, hi, rfl, HA1⟩ := hrel
            obtain ⟨vv, hvv⟩ : ∃ vv, vv = u16 := ⟨_, rfl⟩
            subst hvv
            have HA : Hid (App ws i vv xs wr) := HA1
            by_cases hlt : i < A
            · have hlti : (i : Int) < (A : Int) := Int.ofNat_lt.2 hlt
              have hltn : (i : Int) < (n : Int) := Int.ofNat_lt.2 (Nat.lt_of_lt_of_le hlt HAN.out)
              obtain ⟨hwi, hwj⟩ := i_step (Nat.le_trans HAN.out (Nat.le_trans HN.out (by omega))) hlt
              obtain ⟨b, _, hc, hk⟩ := HMW.out.ptr i (Nat.lt_of_lt_of_le hlt HAN.out)
              have hci := (HA1.bel.cell (World.block_lt_of_cell? _ _ hc)).trans hc
              have HLT : Hid (i < A) := hlt
              have HK : Hid (CopyAt ws b (f i)) := hk
              clear HA1 hc hk hlt
              go_wp2_with (at_builtin; refine wpList_append_own _ rfl _ _ 25 rfl ws.heap.size 35 i0 (.pointer none) 1 8 Try.underlying25 hi0 hz0 hz1 hz2 rfl (by decide) _ _ _ rfl (HA.out.own.alloc _) _ 1 1 [.pointer (some ⟨b, 0, none⟩)] rfl rfl ?c1 ?c2 ?c3 ?c4 ?c5 ?_)
              case c1 => exact World.news_of_block (heap_alloc_new wr _)
              case c2 => intro u hu; simp at hu; subst hu; rfl
              case c3 => have := HN.out; have := HAN.out; have := HLT.out; unfold maxLen; omega
              case c4 => have := HN.out; have := HAN.out; have := HLT.out; omega
              case c5 => have := HA.out.bel.size; simp; omega
              intro v1 wz hown hg _
              have HA2 : Hid (App ws (i + 1) v1 (xs ++ [.pointer (some ⟨b, 0, none⟩)]) wz) := App.next HA.out HK.out hown hg
              clear hown hg hci
              go_wp2_with fail
              go_roundw
              case rel => exact ⟨v1, .int .i64 ((i : Int) + 1), _, _, _, _, _, _, _, _, _, _, _, _, ⟨i + 1, _, HLT.out, by go_num, HA2.out⟩, rfl⟩
              case measure => simp [intOf]; exact meas HLT.out
            · obtain rfl : i = A := Nat.le_antisymm hi (Nat.le_of_not_lt hlt)
              clear HA1 hlt
              go_wp2_with (at_builtin; refine wpList_append_own _ rfl _ _ 25 rfl ws.heap.size 35 i0 (.pointer none) 1 8 Try.underlying25 hi0 hz0 hz1 hz2 rfl (by decide) _ _ _ rfl (HA.out.own.alloc _) _ 1 1 [.pointer (some ⟨wc.heap.size, 0, none⟩)] rfl rfl ?c1 ?c2 ?c3 ?c4 ?c5 ?_)
              case c1 => exact World.news_of_block (heap_alloc_new wr _)
              case c2 => intro u hu; simp at hu; subst hu; rfl
              case c3 => have := HN.out; have := HAN.out; unfold maxLen; omega
              case c4 => have := HN.out; have := HAN.out; omega
              case c5 => have := HA.out.bel.size; simp; omega
              intro v1 wz hown hg _
              have hxl : xs.length = i := by have := HA.out.own.1; omega
              have HA2 : App ws (i + 1) v1 (xs ++ [.pointer (some ⟨wc.heap.size, 0, none⟩)]) wz := App.next HA.out HKN.out hown hg
              have HXA : (xs ++ [.pointer (some ⟨wc.heap.size, 0, none⟩)])[i]? = some (Value.pointer (some ⟨wc.heap.size, 0, none⟩)) := by rw [List.getElem?_append_right (by omega), hxl, Nat.sub_self]; rfl
              have HA3 : Hid (App ws (i + 1) v1 (xs ++ [.pointer (some ⟨wc.heap.size, 0, none⟩)]) wz ∧ (xs ++ [.pointer (some ⟨wc.heap.size, 0, none⟩)])[i]? = some (Value.pointer (some ⟨wc.heap.size, 0, none⟩))) := ⟨HA2, HXA⟩
              clear hown hg hxl HA2 HXA HA
              go_wp2_with fail
              go_loopw [16, 18] (fun s16 s18 wr => Lp2 ws i n wc.heap.size s16 s18 wr) (fun _ s18 _ => n - (intOf s18).toNat)
              case atStart => exact ⟨i, _, Nat.le_refl _, HAN.out, rfl, HA3.out.1, HA3.out.2⟩
              case round =>
                obtain ⟨k, ys, hik, hk, rfl, HA1, hys⟩ := hrel
                obtain ⟨vx, hvx⟩ : ∃ vx, vx = u16 := ⟨_, rfl⟩
                subst hvx
                clear HA3
                have HA : Hid (App ws (k + 1) vx ys wr) := HA1
                have HY : Hid (ys[i]? = some (Value.pointer (some ⟨wc.heap.size, 0, none⟩))) := hys
                have HIK : Hid (i ≤ k) := hik
                by_cases hlt : k < n
                · have hlti : (k : Int) < (n : Int) := Int.ofNat_lt.2 hlt
                  obtain ⟨hwi, hwj⟩ := i_step (Nat.le_trans HN.out (by omega)) hlt
                  obtain ⟨b, _, hc, hkk⟩ := HMW.out.ptr k hlt
                  have hci := (HA1.bel.cell (World.block_lt_of_cell? _ _ hc)).trans hc
                  have HLT : Hid (k < n) := hlt
                  have HK : Hid (CopyAt ws b (f k)) := hkk
                  clear HA1 hys hik hc hkk hlt
                  go_wp2_with (at_builtin; refine wpList_append_own _ rfl _ _ 25 rfl ws.heap.size 35 i0 (.pointer none) 1 8 Try.underlying25 hi0 hz0 hz1 hz2 rfl (by decide) _ _ _ rfl (HA.out.own.alloc _) _ 1 1 [.pointer (some ⟨b, 0, none⟩)] rfl rfl ?c1 ?c2 ?c3 ?c4 ?c5 ?_)
                  case c1 => exact World.news_of_block (heap_alloc_new wr _)
                  case c2 => intro u hu; simp at hu; subst hu; rfl
                  case c3 => have := HN.out; have := HLT.out; unfold maxLen; omega
                  case c4 => have := HN.out; have := HLT.out; omega
                  case c5 => have := HA.out.bel.size; simp; omega
                  intro v2 wz2 hown hg _
                  have HA2 : Hid (App ws (k + 1 + 1) v2 (ys ++ [.pointer (some ⟨b, 0, none⟩)]) wz2) := App.next HA.out HK.out hown hg
                  clear hown hg hci
                  go_wp2_with fail
                  go_roundw
                  case rel => exact ⟨k + 1, _, Nat.le_succ_of_le HIK.out, HLT.out, by go_num, HA2.out, by rw [List.getElem?_append_left (List.getElem?_eq_some_iff.1 HY.out).1]; exact HY.out⟩
                  case measure => simp [intOf]; exact meas HLT.out
                · obtain rfl : k = n := Nat.le_antisymm hk (Nat.le_of_not_lt hlt)
                  obtain ⟨g, cap, G, rfl, HP, hG⟩ := HA1.ptrs (by omega)
                  have hall : held G nd (k + 1) = true := held_hit (k := i) (by rw [hG i _ _ hys HKN.out nd]; exact HIT.out) (by omega)
                  have HBR : Hid (Below w'.heap.size w' wr) := HBW.out.trans (HA1.bel.mono HBW.out.size)
                  have HFR : Hid (RowsIn wr a k s p f) := HFW.out.below HA1.bel
                  have hsp := held_split f nd C (k - C)
                  rw [show C + (k - C) = k by have := HC.out; omega] at hsp
                  have HSP : Hid (held f nd k = (held f nd C || held (fun j => f (C + j)) nd (k - C))) := hsp
                  have HALL : Hid (held G nd (k + 1) = true) := hall
                  clear HA1 hys hik hG hall hsp hlt HA HY
                  go_wp2_with fail
                  refine (zholds_any _ (k + 1) cap G nd wr (by have := HN.out; omega) HP).mono ?_
                  rintro e wr2 ⟨rfl, rfl⟩
                  rw [HALL.out]
                  clear HP
                  go_wp2_with fail
                  refine (anyP_any a k c s p f nd wr2 HN.out HFR.out).mono ?_
                  rintro e wr3 ⟨rfl, B9⟩
                  have BB : Below w'.heap.size w' wr3 := HBR.out.trans (B9.mono HBR.out.size)
                  clear B9
                  rw [HSP.out]
                  generalize held f nd C = b1
                  generalize held (fun j => f (C + j)) nd (k - C) = b2
                  cases b1 <;> cases b2 <;> (go_wp2_with fail; go_ret; exact ⟨rfl, BB⟩)
end Go.Proofs.Qxb6614448a
