import Derived.Test.Qxb6608969aDoorW4
namespace Go.Proofs.Qxb6608969aDoor
open Go Go.RowKit Abs

/-- All that 'loop_events' asks of a loop's text. -/
def checkLoop (n s i z : Nat) (ext : Fr) (outs : Outs) (b : Code) : Bool :=
  (loopsOf b).isEmpty && (ext.all (fun p => plainC p.2) && (plainOuts outs && (okExit n factsEnd b (preF s i z ext) outs &&
    ([true, false].all fun x => [true, false].all fun y => [true, false].all fun z' => okRound n (factsRound x y z') b (preF s i z ext) (postF s i z ext) outs))))

theorem loop_checked {N : Nat} {w : World} {n s i z : Nat} {ext : Fr} {outs : Outs} {ao : Option Addr} {l : List (Option (ByteArray × Int))} {cap : Nat} {sl2 : Value} {n2 : Int} {b : Code} (hin : EvsIn N w ao l) (hl : l.length ≤ maxLen)
    (hc : checkLoop n s i z ext outs b = true) (hsi : s ≠ i) (hiz : i ≠ z)
    (Q : Exit → Act → World → Prop) (a : Act) (w1 : World) (hr : Rep n (Abs.D (Tk (.slice ao l.length cap) l.length 0 sl2 n2)) (preF s i z ext) a) (hw : w1 = w)
    (hQ : ∀ e f', (e, f') ∈ outs → ∀ a' w', Rep n (Abs.D (Tk (.slice ao l.length cap) l.length 0 sl2 n2)) f' a' → w' = w → Q (toExit e) a' w') : (Code.loop b).wp Tryd.prog Q a w1 := by
  simp only [checkLoop, Bool.and_eq_true] at hc
  obtain ⟨h1, h2, h3, h4, h5⟩ := hc
  refine loop_events hin hl (by simpa using h1) h2 hsi hiz h3 (fun x y z' => ?_) h4 Q a w1 hr hw hQ
  simp only [List.all_eq_true] at h5
  exact h5 x (by cases x <;> simp) y (by cases y <;> simp) z' (by cases z' <;> simp)

def outs5a : Outs := [((1, 0), [(1, 16), (5, 1)]), ((2, 0), [(4, 7)])]
def outs5b : Outs := [((1, 2), []), ((2, 0), [(4, 7)])]
def L5 : Loops := [(8, ([(0, 10), (6, 3), (5, 1), (1, 16)], outs5a)), (64, ([(1, 16), (7, 3), (5, 1)], outs5b))]
def facts5m : List (List Nat × Nat) := [([6, 22, 10], 12), ([3, 2, 3, 12, 1], 2), ([3, 1, 3, 3, 12], 1), ([3, 2, 3, 1, 1], 2), ([6, 22, 16], 17), ([3, 2, 3, 17, 1], 2), ([3, 1, 3, 1, 17], 1)]

set_option maxRecDepth 100000 in
theorem bytesJoins_any (N : Nat) (ao bo : Option Addr) (la lb : List (Option (ByteArray × Int))) (ca cb : Nat) (w : World) (hla : la.length ≤ maxLen) (hlb : lb.length ≤ maxLen) (ha : EvsIn N w ao la) (hb : EvsIn N w bo lb) :
    Calls Tryd.prog 5 #[.slice ao la.length ca, .slice bo lb.length cb] w (RB w) := by
  refine calls_abs (n := 476) (W := (· = w)) (D := Abs.D (Tk (.slice ao la.length ca) la.length 0 (.slice bo lb.length cb) lb.length)) (facts := facts5m) (L := L5) (r := 4) (ok := [2, 6, 7]) (f := [(0, 10), (1, 16)])
    Tryd.func5 rfl rfl (fits_D _) ?_ ?_ ?_ rfl (by kernel_rfl) ?_
  · intro p hp
    simp only [facts5m, List.mem_cons, List.not_mem_nil, or_false] at hp
    rcases hp with rfl | rfl | rfl | rfl | rfl | rfl | rfl
    · exact f_lenSl 1 3 ao la.length ca (fun v h => h) rfl
    · exact f_gtrK 3 la.length (fun v h => h)
    · exact f_add0K 3 la.length (fun v h => h)
    · exact f_gtr
    · exact f_lenSl 7 8 bo lb.length cb (fun v h => h) rfl
    · exact f_gtrK 8 lb.length (fun v h => h)
    · exact f_addK 8 lb.length (fun v h => h)
  · intro b hbm pre outs hp Q a w1 hr hw hQ
    have hall := List.all_eq_true.1 (show ((loopsOf (Tryd.f5.body.getD .skip)).all fun b => (regOf b == 8 && checkLoop 476 0 6 5 [(1, 16)] outs5a b) || (regOf b == 64 && checkLoop 476 1 7 5 [] outs5b b)) = true from by kernel_rfl) b hbm
    simp only [Bool.or_eq_true, Bool.and_eq_true, beq_iff_eq] at hall
    rcases hall with ⟨hk, hc⟩ | ⟨hk, hc⟩
    · rw [hk] at hp
      simp [L5] at hp
      obtain ⟨rfl, rfl⟩ := hp
      refine loop_checked (cap := ca) (sl2 := .slice bo lb.length cb) (n2 := lb.length) ha hla hc (by decide) (by decide) Q a w1 (hr.turn ?_) hw hQ
      intro p hp
      simp only [preF, List.mem_cons, List.not_mem_nil, or_false] at hp
      rcases hp with rfl | rfl | rfl | rfl
      · exact ⟨10, rfl, fun v h => h⟩
      · exact ⟨3, rfl, fun v h => h⟩
      · exact ⟨1, rfl, fun v h => h⟩
      · exact ⟨16, rfl, fun v h => h⟩
    · rw [hk] at hp
      simp [L5] at hp
      obtain ⟨rfl, rfl⟩ := hp
      refine loop_checked (cap := cb) (sl2 := .slice none 0 0) (n2 := 0) hb hlb hc (by decide) (by decide) Q a w1 (hr.turn ?_) hw ?_
      · intro p hp
        simp only [preF, List.mem_cons, List.not_mem_nil, or_false] at hp
        rcases hp with rfl | rfl | rfl
        · exact ⟨16, rfl, fun v h => h⟩
        · exact ⟨3, rfl, fun v h => h⟩
        · exact ⟨1, rfl, fun v h => h⟩
      · intro e f' hm a' w' hr' hw'
        refine hQ e f' hm a' w' (conv hr' fun p hp v hv => ?_) hw'
        simp only [outs5b, List.mem_cons, Prod.mk.injEq, List.not_mem_nil, or_false] at hm
        rcases hm with ⟨_, rfl⟩ | ⟨_, rfl⟩
        · simp at hp
        · simp at hp
          subst hp
          exact hv
  · refine rep_start (by rw [Tryd.ntmps5]; rfl) ?_
    intro p hp
    simp only [List.mem_cons, List.not_mem_nil, or_false] at hp
    rcases hp with rfl | rfl
    · exact ⟨_, rfl, rfl⟩
    · exact ⟨_, rfl, rfl⟩
  · intro x hx v w' hv hw'
    simp only [List.mem_cons, List.not_mem_nil, or_false] at hx
    rcases hx with rfl | rfl | rfl
    · obtain ⟨t, rfl⟩ := hv
      exact ⟨t, rfl, hw'⟩
    · obtain rfl : v = .bool true := hv
      exact ⟨true, rfl, hw'⟩
    · obtain rfl : v = .bool false := hv
      exact ⟨false, rfl, hw'⟩
end Go.Proofs.Qxb6608969aDoor
