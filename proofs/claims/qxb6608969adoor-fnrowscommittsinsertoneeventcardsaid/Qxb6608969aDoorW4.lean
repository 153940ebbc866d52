import Derived.Test.Qxb6608969aDoorW3
namespace Go.Proofs.Qxb6608969aDoor
open Go Go.RowKit Abs

def factsRound (x y z : Bool) : List (List Nat × Nat) := [([6, 22, 10], 12), ([3, 1, 3, 14, 4], 15), ([3, 3, 3, 14, 12], 6), ([5, 22, 10, 14], 20)] ++ (factsElem ++ (facts0 x ++ (facts4 y ++ facts5 z)))
def factsEnd : List (List Nat × Nat) := [([6, 22, 10], 12), ([3, 3, 3, 14, 12], 7)]

/-- Codes whose meaning does not hang on the round. -/
def plainC (c : Nat) : Bool := c < 9 || c == 10 || c == 12 || c == 16 || c == 17
def plainOuts (outs : Outs) : Bool := outs.all fun q => q.2.all fun p => plainC p.2

def preF (s i z : Nat) (ext : Fr) : Fr := (s, 10) :: (i, 14) :: (z, 1) :: ext
def postF (s i z : Nat) (ext : Fr) : Fr := (s, 10) :: (i, 15) :: (z, 1) :: ext

def Tk (sl : Value) (n k : Int) (sl2 : Value) (n2 : Int) (c : Nat) (v : Value) : Prop := v = tabS sl n k sl2 n2 c

theorem conv {n : Nat} {D1 D2 : Nat → Value → Prop} {f : Fr} {a : Act} (h : Rep n D1 f a) (hh : ∀ p ∈ f, ∀ v, D1 p.2 v → D2 p.2 v) : Rep n D2 f a :=
  ⟨h.defers, h.size, fun t c ht => hh (t, c) (mem_of_lookup ht) _ (h.slots t c ht)⟩

theorem D_of_T {T1 T2 : Nat → Value → Prop} {c : Nat} (h : 9 ≤ c → ∀ v, T1 c v → T2 c v) (v : Value) (hv : Abs.D T1 c v) : Abs.D T2 c v := by
  match c with
  | 0 | 1 | 2 | 3 | 4 | 5 | 6 | 7 | 8 => exact hv
  | c + 9 => exact h (by omega) v hv

theorem tabS_plain {sl sl2 : Value} {n n2 k k' : Int} {c : Nat} (h : plainC c = true) (h9 : 9 ≤ c) : tabS sl n k sl2 n2 c = tabS sl n k' sl2 n2 c := by
  simp [plainC] at h
  rcases h with (((h | h) | h) | h) | h
  · omega
  all_goals (subst h; rfl)

theorem round_post {n s i z : Nat} {ext : Fr} {sl sl2 : Value} {m n2 : Int} {k : Nat} {T : Nat → Value → Prop} (hext : ext.all (fun p => plainC p.2) = true) (hsi : s ≠ i) (hiz : i ≠ z)
    (hT : ∀ c, c < 20 → ∀ v, T c v → v = tabS sl m k sl2 n2 c) {a : Act} (h : Rep n (Abs.D T) (postF s i z ext) a) : Rep n (Abs.D (Tk sl m ((k + 1 : Nat) : Int) sl2 n2)) (preF s i z ext) a := by
  refine ⟨h.defers, h.size, fun t c ht => ?_⟩
  have hs := h.slots t
  generalize a.tmps.getD t undef = u at hs ⊢
  simp only [preF, postF, List.lookup_cons] at ht hs
  by_cases h1 : t = s
  · subst h1
    simp at ht hs
    subst ht
    exact hT 10 (by omega) _ hs
  have e1 : (t == s) = false := by simpa using h1
  rw [e1] at ht hs
  by_cases h2 : t = i
  · subst h2
    simp at ht hs
    subst ht
    have := hT 15 (by omega) _ hs
    show _ = tabS sl m ((k + 1 : Nat) : Int) sl2 n2 14
    rw [this]
    simp [tabS]
  have e2 : (t == i) = false := by simpa using h2
  rw [e2] at ht hs
  have hv := hs c ht
  refine D_of_T (fun h9 v hv => ?_) _ hv
  by_cases h3 : t = z
  · subst h3
    simp at ht
    omega
  have e3 : (t == z) = false := by simpa using h3
  rw [e3] at ht
  have hp : plainC c = true := List.all_eq_true.1 hext (t, c) (mem_of_lookup ht)
  have hc : c < 20 := by simp [plainC] at hp; omega
  show v = _
  rw [hT c hc v hv]
  exact tabS_plain hp h9

/-- THE LOOP over the events, whatever stands in it that the checker can follow. -/
theorem loop_events {N : Nat} {w : World} {n s i z : Nat} {ext : Fr} {outs : Outs} {ao : Option Addr} {l : List (Option (ByteArray × Int))} {cap : Nat} {sl2 : Value} {n2 : Int} {b : Code} (hin : EvsIn N w ao l) (hl : l.length ≤ maxLen)
    (hloops : loopsOf b = []) (hext : ext.all (fun p => plainC p.2) = true) (hsi : s ≠ i) (hiz : i ≠ z) (hplain : plainOuts outs = true)
    (hok : ∀ x y z', okRound n (factsRound x y z') b (preF s i z ext) (postF s i z ext) outs = true) (hend : okExit n factsEnd b (preF s i z ext) outs = true)
    (Q : Exit → Act → World → Prop) (a : Act) (w1 : World) (hr : Rep n (Abs.D (Tk (.slice ao l.length cap) l.length 0 sl2 n2)) (preF s i z ext) a) (hw : w1 = w)
    (hQ : ∀ e f', (e, f') ∈ outs → ∀ a' w', Rep n (Abs.D (Tk (.slice ao l.length cap) l.length 0 sl2 n2)) f' a' → w' = w → Q (toExit e) a' w') : (Code.loop b).wp Tryd.prog Q a w1 := by
  have hl' := hl
  unfold maxLen at hl'
  refine loop_abs (P := Tryd.prog) (W := (· = w)) (n := n) (pre := preF s i z ext) (post := postF s i z ext) (outs := outs) hloops (Abs.D (Tk (.slice ao l.length cap) l.length 0 sl2 n2)) l.length (fun k => Abs.D (Tk (.slice ao l.length cap) l.length k sl2 n2)) ?_ ?_ Q a w1 hr hw hQ
  · intro k hk
    obtain ⟨b, o, rfl, he⟩ := hin k l[k] (by simp [hk])
    obtain ⟨p0, p4, p5, b0, o0, b4, o4, b5, o5, x, y, z', hF⟩ := elem_facts (n := n) he
    have hT1 : ∀ c, c < 20 → ∀ v, (if c < 20 then Tk (.slice (some ⟨b, o, none⟩) l.length cap) l.length k sl2 n2 c v else v = tabE b (o + k * 7) p0 p4 p5 b0 o0 b4 o4 b5 o5 c) → v = tabS (.slice (some ⟨b, o, none⟩) l.length cap) l.length k sl2 n2 c := fun c hc v h => by
      rw [if_pos hc] at h; exact h
    refine ⟨fun c v => if c < 20 then Tk (.slice (some ⟨b, o, none⟩) l.length cap) l.length k sl2 n2 c v else v = tabE b (o + k * 7) p0 p4 p5 b0 o0 b4 o4 b5 o5 c, factsRound x y z', ?_, ?_, ?_, ?_, hok x y z'⟩
    · intro p hp
      rcases List.mem_append.1 hp with hp | hp
      · simp only [List.mem_cons, List.not_mem_nil, or_false] at hp
        rcases hp with rfl | rfl | rfl | rfl
        · exact f_lenSl 1 3 _ l.length cap (fun v h => h) rfl
        · exact f_succ 5 6 k (fun v h => h) rfl (by omega) (by omega)
        · exact f_lss 5 3 k l.length (fun v h => h) (fun v h => h) (by omega)
        · exact f_index 1 5 11 b o l.length cap k (fun v h => h) (fun v h => h) rfl hk
      · exact hF _ (fun c hc v => by rw [if_neg (by omega)]) p hp
    · intro a h
      refine conv h fun p hp v hv => D_of_T (fun h9 v hv => ?_) v hv
      have hc : p.2 < 20 := by
        simp only [preF, List.mem_cons] at hp
        rcases hp with rfl | rfl | rfl | hp
        · exact (by omega : 10 < 20)
        · exact (by omega : 14 < 20)
        · exact (by omega : 1 < 20)
        · have := List.all_eq_true.1 hext p hp
          simp [plainC] at this
          omega
      show if p.2 < 20 then _ else _
      rw [if_pos hc]
      exact hv
    · intro a h
      exact round_post hext hsi hiz hT1 h
    · intro q hq a h
      refine conv h fun p hp v hv => D_of_T (fun h9 v hv => ?_) v hv
      have hpl := List.all_eq_true.1 (List.all_eq_true.1 hplain q hq) p hp
      have hc : p.2 < 20 := by simp [plainC] at hpl; omega
      show v = _
      rw [hT1 p.2 hc v hv]
      exact tabS_plain hpl h9
  · refine ⟨Tk (.slice ao l.length cap) l.length l.length sl2 n2, factsEnd, ?_, fun a h => h, ?_, hend⟩
    · intro p hp
      simp only [factsEnd, List.mem_cons, List.not_mem_nil, or_false] at hp
      rcases hp with rfl | rfl
      · exact f_lenSl 1 3 _ l.length cap (fun v h => h) rfl
      · exact f_lssNot 5 3 l.length l.length (fun v h => h) (fun v h => h) (by omega)
    · intro q hq a h
      refine conv h fun p hp v hv => D_of_T (fun h9 v hv => ?_) v hv
      have hpl := List.all_eq_true.1 (List.all_eq_true.1 hplain q hq) p hp
      show v = _
      rw [show v = tabS _ _ _ _ _ p.2 from hv]
      exact tabS_plain hpl h9
end Go.Proofs.Qxb6608969aDoor
