import Derived.Test.Qxb6614448aW1
import Derived.ProofKit
import Derived.Deep.Fields
import Derived.Deep.Slices
import Derived.OpenShut
namespace Go.Proofs.Qxb6614448a
open Go Go.ChangeShapes Go.WideShapes Go.ChangeAt Go.WideMaps Go.WideElems Go.RowKit Go.Deep

set_option maxRecDepth 100000

theorem own : ownKnob Try.prog.godebug = none := by kernel_rfl
theorem laidOut : laidOutB Try.prog = true := by kernel_rfl
theorem cells39 : Try.prog.cellsOf 39 = 10 := by kernel_rfl

theorem fields39 : ∃ fs, Try.prog.underlying 39 = some (.struct fs) ∧ fs.size = 10 ∧ oneCellFields Try.prog fs = true ∧ (fs.map (·.type)) = #[3, 4, 9, 9, 9, 9, 9, 9, 9, 9] := ⟨_, Try.underlying39, rfl, by kernel_rfl, by simp⟩

theorem field_of {fs : Array Field} {ts : Array TypeId} (h : fs.map (·.type) = ts) {i : Nat} {t : TypeId} (ht : ts[i]? = some t) : ∃ f, fs[i]? = some f ∧ f.type = t := by
  rw [← h] at ht
  simp only [Array.getElem?_map, Option.map_eq_some_iff] at ht
  exact ht

section
variable {H : Type} {enc : TypeId × Value → H} {w : World} {base : Nat} {spare : Nat → Bool} {held : Bool} {fuel : Nat} {x : DataW H × List MemPlace} {v : Value}

theorem one_string (h : DataW.trod enc Try.prog w base spare held fuel 9 [v] = some x) : ∃ s, v = .string s := by
  obtain ⟨s, e, _⟩ := DataW.trod_string Try.underlying9 h
  simp at e
  exact ⟨s, e⟩
theorem one_i64 (h : DataW.trod enc Try.prog w base spare held fuel 3 [v] = some x) : ∃ n, v = .int .i64 n := by
  obtain ⟨s, e, _⟩ := DataW.trod_int Try.underlying3 h
  simp at e
  exact ⟨s, e⟩
theorem one_bool (h : DataW.trod enc Try.prog w base spare held fuel 4 [v] = some x) : ∃ n, v = .bool n := by
  obtain ⟨s, e, _⟩ := DataW.trod_bool Try.underlying4 h
  simp at e
  exact ⟨s, e⟩

/-- Eight strings, as a function. -/
def fun8 (s2 s3 s4 s5 s6 s7 s8 s9 : ByteArray) (j : Nat) : ByteArray :=
  if j = 2 then s2 else if j = 3 then s3 else if j = 4 then s4 else if j = 5 then s5 else if j = 6 then s6 else if j = 7 then s7 else if j = 8 then s8 else s9

/-- The ten cells of a row that can be read. -/
theorem ten_of {cs : List Value} (h : DataW.trod enc Try.prog w base spare held fuel 39 cs = some x) :
    ∃ (s : Int) (p : Bool) (f : Nat → ByteArray), cs = [.int .i64 s, .bool p, .string (f 2), .string (f 3), .string (f 4), .string (f 5), .string (f 6), .string (f 7), .string (f 8), .string (f 9)] := by
  obtain ⟨fs, hu, hz, hone, hty⟩ := fields39
  obtain ⟨xs, n, _, _, hlen, hxl, hf⟩ := DataW.trod_struct hu h
  rw [cells39] at hlen
  match cs, hlen with
  | [v0, v1, v2, v3, v4, v5, v6, v7, v8, v9], _ =>
    have get : ∀ {i : Nat} {t : TypeId}, (#[3, 4, 9, 9, 9, 9, 9, 9, 9, 9] : Array TypeId)[i]? = some t → ∃ y, DataW.trod enc Try.prog w base spare held n t (([v0, v1, v2, v3, v4, v5, v6, v7, v8, v9].drop i).take 1) = some y := fun {i t} ht => by
      obtain ⟨f, h1, rfl⟩ := field_of hty ht
      have h2 := hf i f h1
      obtain ⟨ho, hc⟩ := hone_of hone i f h1
      rw [ho, hc] at h2
      have hlt : i < fs.size := (Array.getElem?_eq_some_iff.1 h1).1
      rw [List.getElem?_eq_getElem (by omega)] at h2
      exact ⟨_, h2⟩
    obtain ⟨y0, t0⟩ := get (i := 0) rfl
    obtain ⟨y1, t1⟩ := get (i := 1) rfl
    obtain ⟨y2, t2⟩ := get (i := 2) rfl
    obtain ⟨y3, t3⟩ := get (i := 3) rfl
    obtain ⟨y4, t4⟩ := get (i := 4) rfl
    obtain ⟨y5, t5⟩ := get (i := 5) rfl
    obtain ⟨y6, t6⟩ := get (i := 6) rfl
    obtain ⟨y7, t7⟩ := get (i := 7) rfl
    obtain ⟨y8, t8⟩ := get (i := 8) rfl
    obtain ⟨y9, t9⟩ := get (i := 9) rfl
    obtain ⟨s0, e0⟩ := one_i64 t0
    obtain ⟨s1, e1⟩ := one_bool t1
    obtain ⟨s2, e2⟩ := one_string t2
    obtain ⟨s3, e3⟩ := one_string t3
    obtain ⟨s4, e4⟩ := one_string t4
    obtain ⟨s5, e5⟩ := one_string t5
    obtain ⟨s6, e6⟩ := one_string t6
    obtain ⟨s7, e7⟩ := one_string t7
    obtain ⟨s8, e8⟩ := one_string t8
    obtain ⟨s9, e9⟩ := one_string t9
    exact ⟨s0, s1, fun8 s2 s3 s4 s5 s6 s7 s8 s9, by rw [e0, e1, e2, e3, e4, e5, e6, e7, e8, e9]; rfl⟩

/-- A slice of rows that came in. -/
theorem rows_of (h : DataW.trod enc Try.prog w 0 spare held fuel 22 [v] = some x) :
    ∃ (a : Option Addr) (n cap : Nat) (s : Nat → Int) (p : Nat → Bool) (f : Nat → Nat → ByteArray), v = .slice a n cap ∧ n ≤ maxLen ∧ RowsIn w a n s p f := by
  rcases open_slice Try.underlying22 h with ⟨e, _⟩ | ⟨a, len, cap, m, n, D, Pl, e, _, hlc, hcm, hm, _, hel⟩
  · simp at e
    exact ⟨none, 0, 0, fun _ => 0, fun _ => false, fun _ _ => ⟨#[]⟩, e, Nat.zero_le _, fun k hk => by omega⟩
  · simp at e
    rw [cells39] at hel
    have hmlen : len ≤ m := by rw [hm]; split <;> omega
    have hspot : 0 < len → a.spot = none := fun h0 => by
      obtain ⟨cs', hcs, htr⟩ := hel 0 (by omega)
      obtain ⟨s, p, f, rfl⟩ := ten_of htr
      obtain ⟨_, _, hcell⟩ := World.cells?_some hcs
      have h0 := World.cell?_spot (hcell 0 (by omega))
      simpa [Addr.add] using h0
    have hex : ∀ i, i < len → ∃ c : Int × Bool × (Nat → ByteArray), a.spot = none ∧ RowAt w a.block (a.off + i * 10) c.1 c.2.1 c.2.2 := by
      intro i hi
      obtain ⟨cs', hcs, htr⟩ := hel i (by omega)
      obtain ⟨s, p, f, rfl⟩ := ten_of htr
      obtain ⟨_, _, hcell⟩ := World.cells?_some hcs
      have hsp := hspot (by omega)
      obtain ⟨b, o, sp⟩ := a
      simp only at hsp
      subst hsp
      have hc : ∀ j, j < 10 → w.cell? ⟨b, o + i * 10 + j, none⟩ = [Value.int .i64 s, .bool p, .string (f 2), .string (f 3), .string (f 4), .string (f 5), .string (f 6), .string (f 7), .string (f 8), .string (f 9)][j]? := fun j hj => by
        have h0 := hcell j (by simpa using hj)
        rw [add_plain, add_plain] at h0
        exact h0
      exact ⟨(s, p, f), rfl, hc 0 (by omega), hc 1 (by omega), hc 2 (by omega), hc 3 (by omega), hc 4 (by omega), hc 5 (by omega), hc 6 (by omega), hc 7 (by omega), hc 8 (by omega), hc 9 (by omega)⟩
    obtain ⟨C, hC⟩ := choose_lt hex
    refine ⟨some a, len, cap, fun k => (C k).1, fun k => (C k).2.1, fun k => (C k).2.2, by simpa using e, by omega, fun k hk => ?_⟩
    obtain ⟨hs, hr⟩ := hC k hk
    obtain ⟨b, o, sp⟩ := a
    simp only at hs
    subst hs
    exact ⟨b, o, rfl, hr⟩
end
end Go.Proofs.Qxb6614448a
