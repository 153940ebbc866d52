import Derived.Test.Qxb6608969aDoorW1
import Derived.ProofKit
import Derived.Deep.Fields
import Derived.Deep.Slices
namespace Go.Proofs.Qxb6608969aDoor
open Go Go.RowKit Go.ChangeShapes Go.WideShapes Go.Deep

section
variable {H : Type} {enc : TypeId × Value → H} {w : World} {base : Nat} {spare : Nat → Bool} {held : Bool} {fuel : Nat} {x : DataW H × List MemPlace} {v : Value}

theorem cells29 : Tryd.prog.cellsOf 29 = 7 := by kernel_rfl

theorem fields41 : ∃ fs, Tryd.prog.underlying 41 = some (.struct fs) ∧ fs.size = 6 ∧ oneCellFields Tryd.prog fs = true ∧ (fs.map (·.type)) = #[9, 9, 9, 26, 4, 9] := ⟨_, Tryd.underlying41, rfl, by kernel_rfl, by simp⟩
theorem fields43 : ∃ fs, Tryd.prog.underlying 43 = some (.struct fs) ∧ fs.size = 5 ∧ oneCellFields Tryd.prog fs = true ∧ (fs.map (·.type)) = #[9, 26, 26, 4, 9] := ⟨_, Tryd.underlying43, rfl, by kernel_rfl, by simp⟩
theorem fields29 : ∃ fs, Tryd.prog.underlying 29 = some (.struct fs) ∧ fs.size = 7 ∧ oneCellFields Tryd.prog fs = true ∧ (fs.map (·.type)) = #[25, 26, 4, 4, 27, 27, 9] := ⟨_, Tryd.underlying29, rfl, by kernel_rfl, by simp⟩

theorem field_of {fs : Array Field} {ts : Array TypeId} (h : fs.map (·.type) = ts) {i : Nat} {t : TypeId} (ht : ts[i]? = some t) : ∃ f, fs[i]? = some f ∧ f.type = t := by
  rw [← h] at ht
  simp only [Array.getElem?_map, Option.map_eq_some_iff] at ht
  exact ht

theorem one_string (h : DataW.trod enc Tryd.prog w base spare held fuel 9 [v] = some x) : ∃ s, v = .string s := by
  obtain ⟨s, e, _⟩ := DataW.trod_string Tryd.underlying9 h
  simp at e
  exact ⟨s, e⟩
theorem one_u64 (h : DataW.trod enc Tryd.prog w base spare held fuel 26 [v] = some x) : ∃ n, v = .int .u64 n := by
  obtain ⟨s, e, _⟩ := DataW.trod_int Tryd.underlying26 h
  simp at e
  exact ⟨s, e⟩
theorem one_bool (h : DataW.trod enc Tryd.prog w base spare held fuel 4 [v] = some x) : ∃ n, v = .bool n := by
  obtain ⟨s, e, _⟩ := DataW.trod_bool Tryd.underlying4 h
  simp at e
  exact ⟨s, e⟩

theorem one_chg (h : DataW.trod enc Tryd.prog w base spare held fuel 25 [v] = some x) : ∃ p c, v = .pointer p ∧ ChgIn w.heap.size w p c := by
  obtain ⟨fs, hu, hz, hone, hty⟩ := fields41
  rcases open_ptr_fields Tryd.underlying25 hu (hone_of hone) (by rw [hz]; kernel_rfl) (by omega) h with ⟨e, _⟩ | ⟨b, o, n, V, Y, e, _, _, hf⟩
  · simp at e
    exact ⟨none, none, e, .inl ⟨rfl, rfl⟩⟩
  · simp at e
    have get : ∀ {i : Nat} {t : TypeId}, (#[9, 9, 9, 26, 4, 9] : Array TypeId)[i]? = some t → w.cell? ⟨b, o + i, none⟩ = some (V i) ∧ DataW.trod enc Tryd.prog w base spare held n t [V i] = some (Y i) := fun {i t} ht => by
      obtain ⟨f, h1, rfl⟩ := field_of hty ht
      exact hf i f h1
    obtain ⟨c0, t0⟩ := get (i := 0) rfl
    obtain ⟨c1, t1⟩ := get (i := 1) rfl
    obtain ⟨c2, t2⟩ := get (i := 2) rfl
    obtain ⟨c3, t3⟩ := get (i := 3) rfl
    obtain ⟨c4, t4⟩ := get (i := 4) rfl
    obtain ⟨c5, t5⟩ := get (i := 5) rfl
    obtain ⟨s0, e0⟩ := one_string t0
    obtain ⟨s1, e1⟩ := one_string t1
    obtain ⟨s2, e2⟩ := one_string t2
    obtain ⟨n3, e3⟩ := one_u64 t3
    obtain ⟨n4, e4⟩ := one_bool t4
    obtain ⟨s5, e5⟩ := one_string t5
    rw [e0] at c0; rw [e1] at c1; rw [e2] at c2; rw [e3] at c3; rw [e4] at c4; rw [e5] at c5
    exact ⟨some ⟨b, o, none⟩, some (s0, n3), e, .inr ⟨b, o, s0, s1, s2, n3, n4, s5, rfl, rfl, World.block_lt_of_cell? _ _ c0, c0, c1, c2, c3, c4, c5⟩⟩

theorem one_sch (h : DataW.trod enc Tryd.prog w base spare held fuel 27 [v] = some x) : ∃ p, v = .pointer p ∧ SchIn w.heap.size w p := by
  obtain ⟨fs, hu, hz, hone, hty⟩ := fields43
  rcases open_ptr_fields Tryd.underlying27 hu (hone_of hone) (by rw [hz]; kernel_rfl) (by omega) h with ⟨e, _⟩ | ⟨b, o, n, V, Y, e, _, _, hf⟩
  · simp at e
    exact ⟨none, e, .inl rfl⟩
  · simp at e
    have get : ∀ {i : Nat} {t : TypeId}, (#[9, 26, 26, 4, 9] : Array TypeId)[i]? = some t → w.cell? ⟨b, o + i, none⟩ = some (V i) ∧ DataW.trod enc Tryd.prog w base spare held n t [V i] = some (Y i) := fun {i t} ht => by
      obtain ⟨f, h1, rfl⟩ := field_of hty ht
      exact hf i f h1
    obtain ⟨c0, t0⟩ := get (i := 0) rfl
    obtain ⟨c1, t1⟩ := get (i := 1) rfl
    obtain ⟨c2, t2⟩ := get (i := 2) rfl
    obtain ⟨c3, t3⟩ := get (i := 3) rfl
    obtain ⟨c4, t4⟩ := get (i := 4) rfl
    obtain ⟨s0, e0⟩ := one_string t0
    obtain ⟨s1, e1⟩ := one_u64 t1
    obtain ⟨s2, e2⟩ := one_u64 t2
    obtain ⟨n3, e3⟩ := one_bool t3
    obtain ⟨n4, e4⟩ := one_string t4
    rw [e0] at c0; rw [e1] at c1; rw [e2] at c2; rw [e3] at c3; rw [e4] at c4
    exact ⟨some ⟨b, o, none⟩, e, .inr ⟨b, o, s0, s1, s2, n3, n4, rfl, World.block_lt_of_cell? _ _ c0, c0, c1, c2, c3, c4⟩⟩

/-- The seven cells of an event that can be read. -/
theorem seven_of {cs : List Value} (h : DataW.trod enc Tryd.prog w base spare held fuel 29 cs = some x) :
    ∃ (p0 : Option Addr) (t1 : Int) (b2 b3 : Bool) (p4 p5 : Option Addr) (s6 : ByteArray) (c : Option (ByteArray × Int)), cs = [.pointer p0, .int .u64 t1, .bool b2, .bool b3, .pointer p4, .pointer p5, .string s6] ∧
      ChgIn w.heap.size w p0 c ∧ SchIn w.heap.size w p4 ∧ SchIn w.heap.size w p5 := by
  obtain ⟨fs, hu, hz, hone, hty⟩ := fields29
  obtain ⟨xs, n, _, _, hlen, hxl, hf⟩ := DataW.trod_struct hu h
  rw [cells29] at hlen
  match cs, hlen with
  | [v0, v1, v2, v3, v4, v5, v6], _ =>
    have get : ∀ {i : Nat} {t : TypeId}, (#[25, 26, 4, 4, 27, 27, 9] : Array TypeId)[i]? = some t → ∃ y, DataW.trod enc Tryd.prog w base spare held n t (([v0, v1, v2, v3, v4, v5, v6].drop i).take 1) = some y := fun {i t} ht => by
      obtain ⟨f, h1, rfl⟩ := field_of hty ht
      have h2 := hf i f h1
      obtain ⟨ho, hc⟩ := hone_of hone i f h1
      rw [ho, hc] at h2
      have hlt : i < fs.size := (Array.getElem?_eq_some_iff.1 h1).1
      rw [List.getElem?_eq_getElem (by omega)] at h2
      exact ⟨_, h2⟩
    obtain ⟨y0, t0⟩ := get (i := 0) rfl
    obtain ⟨y1, t1⟩ := get (i := 1) rfl
    obtain ⟨y2, t2⟩ := get (i := 2) rfl
    obtain ⟨y3, t3⟩ := get (i := 3) rfl
    obtain ⟨y4, t4⟩ := get (i := 4) rfl
    obtain ⟨y5, t5⟩ := get (i := 5) rfl
    obtain ⟨y6, t6⟩ := get (i := 6) rfl
    obtain ⟨p0, c, e0, k0⟩ := one_chg t0
    obtain ⟨n1, e1⟩ := one_u64 t1
    obtain ⟨n2, e2⟩ := one_bool t2
    obtain ⟨n3, e3⟩ := one_bool t3
    obtain ⟨p4, e4, k4⟩ := one_sch t4
    obtain ⟨p5, e5, k5⟩ := one_sch t5
    obtain ⟨s6, e6⟩ := one_string t6
    exact ⟨p0, n1, n2, n3, p4, p5, s6, c, by rw [e0, e1, e2, e3, e4, e5, e6], k0, k4, k5⟩

/-- A slice of events that came in. -/
theorem evs_of (h : DataW.trod enc Tryd.prog w 0 spare held fuel 22 [v] = some x) :
    ∃ (ao : Option Addr) (l : List (Option (ByteArray × Int))) (cap : Nat), v = .slice ao l.length cap ∧ l.length ≤ maxLen ∧ (ao = none → l = [] ∧ cap = 0) ∧ EvsIn w.heap.size w ao l := by
  rcases open_slice Tryd.underlying22 h with ⟨e, _⟩ | ⟨a, len, cap, m, n, D, Pl, e, _, hlc, hcm, hm, _, hel⟩
  · simp at e
    exact ⟨none, [], 0, e, Nat.zero_le _, fun _ => ⟨rfl, rfl⟩, fun k c hk => by simp at hk⟩
  · simp at e
    rw [cells29] at hel
    have hmlen : len ≤ m := by rw [hm]; split <;> omega
    have hspot : 0 < len → a.spot = none := fun h0 => by
      obtain ⟨cs', hcs, htr⟩ := hel 0 (by omega)
      obtain ⟨p0, t1, b2, b3, p4, p5, s6, c, rfl, k0, k4, k5⟩ := seven_of htr
      obtain ⟨_, _, hcell⟩ := World.cells?_some hcs
      have h0 := World.cell?_spot (hcell 0 (by omega))
      simpa [Addr.add] using h0
    have hex : ∀ i, i < len → ∃ c, a.spot = none ∧ EvIn w.heap.size w a.block (a.off + i * 7) c := by
      intro i hi
      obtain ⟨cs', hcs, htr⟩ := hel i (by omega)
      obtain ⟨p0, t1, b2, b3, p4, p5, s6, c, rfl, k0, k4, k5⟩ := seven_of htr
      obtain ⟨_, _, hcell⟩ := World.cells?_some hcs
      have hsp := hspot (by omega)
      obtain ⟨b, o, sp⟩ := a
      simp only at hsp
      subst hsp
      have get : ∀ j, j < 7 → w.cell? ⟨b, o + i * 7 + j, none⟩ = [Value.pointer p0, .int .u64 t1, .bool b2, .bool b3, .pointer p4, .pointer p5, .string s6][j]? := fun j hj => by
        have := hcell j hj
        rw [add_plain, add_plain] at this
        exact this
      exact ⟨c, rfl, p0, t1, b2, b3, p4, p5, s6, World.block_lt_of_cell? w ⟨b, o + i * 7, none⟩ (get 0 (by omega)), get 0 (by omega), get 1 (by omega), get 2 (by omega), get 3 (by omega), get 4 (by omega), get 5 (by omega), get 6 (by omega), k0, k4, k5⟩
    obtain ⟨C, hC⟩ := choose_lt hex
    refine ⟨some a, (List.range len).map C, cap, by simpa using e, by simp; omega, fun h => by simp at h, fun k c hk => ?_⟩
    · have hkl : k < len := by
        have := (List.getElem?_eq_some_iff.1 hk).1
        simpa using this
      obtain ⟨hs, he⟩ := hC k hkl
      obtain rfl : C k = c := by simpa [hkl] using hk
      obtain ⟨b, o, sp⟩ := a
      simp only at hs
      subst hs
      exact ⟨b, o, rfl, he⟩
end
end Go.Proofs.Qxb6608969aDoor
