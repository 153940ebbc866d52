import Derived.Test.Qxb6608969aDoorW5
namespace Go.Proofs.Qxb6608969aDoor
open Go Go.RowKit Abs

/-- An event in a box of the call's own. -/
def boxed (p0 : Option Addr) (t1 : Int) (b2 b3 : Bool) (p4 p5 : Option Addr) (s6 : ByteArray) : Obj := .cells #[.pointer p0, .int .u64 t1, .bool b2, .bool b3, .pointer p4, .pointer p5, .string s6] 29

theorem ChgIn.mono {N M : Nat} {w : World} {p : Option Addr} {c : Option (ByteArray × Int)} (h : ChgIn N w p c) (hNM : N ≤ M) : ChgIn M w p c := by
  rcases h with h | ⟨b, o, s0, s1, s2, t3, b4, s5, e1, e2, hN, r⟩
  · exact .inl h
  · exact .inr ⟨b, o, s0, s1, s2, t3, b4, s5, e1, e2, by omega, r⟩

theorem SchIn.mono {N M : Nat} {w : World} {p : Option Addr} (h : SchIn N w p) (hNM : N ≤ M) : SchIn M w p := by
  rcases h with h | ⟨b, o, s0, t1, t2, b3, s4, e1, hN, r⟩
  · exact .inl h
  · exact .inr ⟨b, o, s0, t1, t2, b3, s4, e1, by omega, r⟩

theorem EvIn.mono {N M : Nat} {w : World} {b o : Nat} {c : Option (ByteArray × Int)} (h : EvIn N w b o c) (hNM : N ≤ M) : EvIn M w b o c := by
  obtain ⟨p0, t1, b2, b3, p4, p5, s6, hN, h0, h1, h2, h3, h4, h5, h6, k0, k4, k5⟩ := h
  exact ⟨p0, t1, b2, b3, p4, p5, s6, by omega, h0, h1, h2, h3, h4, h5, h6, k0.mono hNM, k4.mono hNM, k5.mono hNM⟩

theorem EvsIn.mono {N M : Nat} {w : World} {ao : Option Addr} {l : List (Option (ByteArray × Int))} (h : EvsIn N w ao l) (hNM : N ≤ M) : EvsIn M w ao l := by
  intro k c hk
  obtain ⟨b, o, e, h1⟩ := h k c hk
  exact ⟨b, o, e, h1.mono hNM⟩

theorem EvIn_boxed {N : Nat} {w : World} {p0 : Option Addr} {t1 : Int} {b2 b3 : Bool} {p4 p5 : Option Addr} {s6 : ByteArray} {c : Option (ByteArray × Int)} (hN : N ≤ w.heap.size) (k0 : ChgIn N w p0 c) (k4 : SchIn N w p4) (k5 : SchIn N w p5) :
    EvIn (w.heap.size + 1) (w.alloc (boxed p0 t1 b2 b3 p4 p5 s6)) w.heap.size 0 c := by
  have hb : Below N w (w.alloc (boxed p0 t1 b2 b3 p4 p5 s6)) := (Below.refl _ _).alloc hN _
  refine ⟨p0, t1, b2, b3, p4, p5, s6, by omega, ?_, ?_, ?_, ?_, ?_, ?_, ?_, (k0.below hb).mono (by omega), (k4.below hb).mono (by omega), (k5.below hb).mono (by omega)⟩
  all_goals (unfold boxed; go_simp)

/-- It returns a bool; the world has the box. -/
def RBx (w1 : World) (e : Ending) (w' : World) : Prop := ∃ r : Bool, e = .returned (.bool r) ∧ w' = w1

def outs10 : Outs := [((1, 0), [(4, 16), (7, 1)]), ((2, 0), [(6, 7)])]
def outs10m : Outs := [((1, 0), [(4, 20), (7, 1)]), ((2, 0), [(6, 7)])]
def L10 : Loops := [(8, ([(0, 10), (8, 3), (7, 1), (4, 20)], outs10m))]
def facts10 (x y z : Bool) : List (List Nat × Nat) := [([6, 22, 10], 12), ([3, 2, 3, 12, 1], 2), ([3, 1, 3, 3, 12], 1)] ++ (factsElem ++ (facts0 x ++ (facts4 y ++ facts5 z)))

set_option maxRecDepth 100000 in
theorem bytesInsert_any (N : Nat) (ao : Option Addr) (la : List (Option (ByteArray × Int))) (ca : Nat) (i : Int) (p0 : Option Addr) (t1 : Int) (b2 b3 : Bool) (p4 p5 : Option Addr) (s6 : ByteArray) (c : Option (ByteArray × Int)) (w : World)
    (hN : N ≤ w.heap.size) (hla : la.length ≤ maxLen) (ha : EvsIn N w ao la) (k0 : ChgIn N w p0 c) (k4 : SchIn N w p4) (k5 : SchIn N w p5) :
    Calls Tryd.prog 10 #[.slice ao la.length ca, .agg #[.pointer p0, .int .u64 t1, .bool b2, .bool b3, .pointer p4, .pointer p5, .string s6], .int .i64 i] w (RBx (w.alloc (boxed p0 t1 b2 b3 p4 p5 s6))) := by
  have hbel : Below N w (w.alloc (boxed p0 t1 b2 b3 p4 p5 s6)) := (Below.refl _ _).alloc hN _
  obtain ⟨q0, q4, q5, b0, o0, b4, o4, b5, o5, x, y, z, hF⟩ := elem_facts (n := 399) (EvIn_boxed (t1 := t1) (b2 := b2) (b3 := b3) (s6 := s6) hN k0 k4 k5)
  have hT : ∀ c, 20 ≤ c → ∀ v, (fun c v => if c < 20 then Tk (.slice ao la.length ca) la.length 0 (.pointer (some ⟨w.heap.size, 0, none⟩)) 0 c v else v = tabE w.heap.size 0 q0 q4 q5 b0 o0 b4 o4 b5 o5 c) c v ↔ v = tabE w.heap.size 0 q0 q4 q5 b0 o0 b4 o4 b5 o5 c := fun c hc v => by
    simp only
    rw [if_neg (by omega)]
  refine calls_abs_box (n := 399) (W := (· = w.alloc (boxed p0 t1 b2 b3 p4 p5 s6))) (D := Abs.D (fun c v => if c < 20 then Tk (.slice ao la.length ca) la.length 0 (.pointer (some ⟨w.heap.size, 0, none⟩)) 0 c v else v = tabE w.heap.size 0 q0 q4 q5 b0 o0 b4 o4 b5 o5 c))
    (facts := facts10 x y z) (L := L10) (r := 6) (ok := [2, 6, 7]) (f := [(0, 10)]) (t := 29) (s := 1) (d := 4) (cp := 20) (x := .agg #[.pointer p0, .int .u64 t1, .bool b2, .bool b3, .pointer p4, .pointer p5, .string s6]) (p := .pointer (some ⟨w.heap.size, 0, none⟩))
    Tryd.func10 rfl rfl rfl (fits_D _) ?_ ?_ ?_ (by decide) rfl (by unfold boxed; go_simp) rfl rfl ?_ ?_
  · intro p hp
    rcases List.mem_append.1 hp with hp | hp
    · simp only [List.mem_cons, List.not_mem_nil, or_false] at hp
      rcases hp with rfl | rfl | rfl
      · exact f_lenSl 1 3 ao la.length ca (fun v h => h) rfl
      · exact f_gtrK 3 la.length (fun v h => h)
      · exact f_add0K 3 la.length (fun v h => h)
    · exact hF _ hT p hp
  · intro b hbm pre outs hp Q a w1 hr hw hQ
    have hall := List.all_eq_true.1 (show ((loopsOf (Tryd.f10.body.getD .skip)).all fun b => (regOf b == 8 && checkLoop 399 0 8 7 [(4, 16)] outs10 b)) = true from by kernel_rfl) b hbm
    simp only [Bool.and_eq_true, beq_iff_eq] at hall
    obtain ⟨hk, hc⟩ := hall
    rw [hk] at hp
    simp [L10] at hp
    obtain ⟨rfl, rfl⟩ := hp
    refine loop_checked (cap := ca) (sl2 := .pointer (some ⟨w.heap.size, 0, none⟩)) (n2 := 0) (ha.below hbel) hla hc (by decide) (by decide) Q a w1 (hr.turn ?_) hw ?_
    · intro p hp
      simp only [preF, List.mem_cons, List.not_mem_nil, or_false] at hp
      rcases hp with rfl | rfl | rfl | rfl
      · exact ⟨10, rfl, fun v h => h⟩
      · exact ⟨3, rfl, fun v h => h⟩
      · exact ⟨1, rfl, fun v h => h⟩
      · exact ⟨20, rfl, fun v h => h⟩
    · intro e f' hm a' w' hr' hw'
      simp only [outs10, List.mem_cons, Prod.mk.injEq, List.not_mem_nil, or_false] at hm
      rcases hm with ⟨rfl, rfl⟩ | ⟨rfl, rfl⟩
      · refine hQ (1, 0) [(4, 20), (7, 1)] (by simp [outs10m]) a' w' (hr'.turn ?_) hw'
        intro p hp
        simp only [List.mem_cons, List.not_mem_nil, or_false] at hp
        rcases hp with rfl | rfl
        · exact ⟨16, rfl, fun v h => h⟩
        · exact ⟨1, rfl, fun v h => h⟩
      · refine hQ (2, 0) [(6, 7)] (by simp [outs10m]) a' w' (hr'.turn ?_) hw'
        intro p hp
        simp only [List.mem_cons, List.not_mem_nil, or_false] at hp
        subst hp
        exact ⟨7, rfl, fun v h => h⟩
  · refine rep_start (by rw [Tryd.ntmps10]; rfl) ?_
    intro p hp
    simp only [List.mem_cons, List.not_mem_nil, or_false] at hp
    subst hp
    exact ⟨_, rfl, rfl⟩
  · cases x <;> cases y <;> cases z <;> kernel_rfl
  · intro x hx v w' hv hw'
    simp only [List.mem_cons, List.not_mem_nil, or_false] at hx
    rcases hx with rfl | rfl | rfl
    · obtain ⟨t, rfl⟩ := hv
      exact ⟨t, rfl, hw'⟩
    · obtain rfl : v = .bool true := hv
      exact ⟨true, rfl, hw'⟩
    · obtain rfl : v = .bool false := hv
      exact ⟨false, rfl, hw'⟩
end Go.Proofs.Qxb6608969aDoor
