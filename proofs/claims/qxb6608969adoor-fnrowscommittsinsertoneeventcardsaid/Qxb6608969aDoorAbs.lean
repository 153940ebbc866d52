/-
  A SMALL CHECKER FOR CODE THAT READS, BRANCHES AND RETURNS, OVER A FRAME OF WHICH ONLY SOME SLOTS ARE KNOWN: for functions with hundreds of slots.
  A slot's content is told by a number ('code'); what the numbers mean is a relation 'D'. What each operation does at which codes is a list of FACTS, each proved once of the model. The checker runs over the function's own code (closed data, by the kernel).
-/
import Derived.WalkKit
import Derived.Deep.LoopGhost
namespace Go.Proofs.Qxb6608969aDoor.Abs
open Go

abbrev Fr := List (Nat × Nat)
abbrev Outs := List ((Nat × Nat) × Fr)
abbrev Loops := List (Nat × (Fr × Outs))

/-- The codes 0 .. 8 have a fixed meaning; the others mean what T says. -/
def D (T : Nat → Value → Prop) (c : Nat) (v : Value) : Prop :=
  match c with
  | 0 => True
  | 1 => ∃ y, v = .int .i64 y
  | 2 => ∃ t, v = .bool t
  | 3 => v = .int .i64 0
  | 4 => v = .int .i64 1
  | 5 => v = .pointer none
  | 6 => v = .bool true
  | 7 => v = .bool false
  | 8 => ∃ s, v = .string s
  | c + 9 => T (c + 9) v

def constCode : Value → Nat
  | .bool true => 6
  | .bool false => 7
  | .int .i64 n => if n = 0 then 3 else if n = 1 then 4 else 1
  | .pointer none => 5
  | _ => 0

def get (f : Fr) (t : Nat) : Nat := (f.lookup t).getD 0

def code (f : Fr) : Operand → Nat
  | .tmp t => get f t
  | .const v => constCode v
  | _ => 0

def binCode : BinOp → Nat
  | .add => 1
  | .gtr => 2
  | .lss => 3
  | .eql => 4
  | .neq => 5
  | _ => 0

def opKey (f : Fr) : Op → Option (List Nat)
  | .load t x => some [1, t, code f x]
  | .nilCheck x => some [2, code f x]
  | .binOp op t x y _ => some [3, binCode op, t, code f x, code f y]
  | .fieldAddr t x i => some [4, t, code f x, i]
  | .indexAddr t x i => some [5, t, code f x, code f i]
  | .call c => match c.callee, c.args.toList, c.argTypes.toList with
    | .builtin .len, [x], [t] => some [6, t, code f x]
    | _, _, _ => none
  | .box t x => some [8, t, code f x]
  | _ => none

def opCode (facts : List (List Nat × Nat)) (f : Fr) : Op → Option Nat
  | .move x => some (code f x)
  | .assign x => some (code f x)
  | op => (opKey f op).bind fun k => facts.lookup k

def absOps (n : Nat) (facts : List (List Nat × Nat)) : List Oper → Fr → Option Fr
  | [], f => some f
  | o :: os, f =>
    if o.guard.isSome then none else
    match o.dst with
    | none => none
    | some d => if d < n then (match opCode facts f o.op with | some c => absOps n facts os ((d, c) :: f) | none => none) else none

def seqOuts (g : Fr → Option Outs) : Outs → Option Outs
  | [] => some []
  | (e, f) :: r => if e.1 = 0 then (g f).bind fun o1 => (seqOuts g r).map (o1 ++ ·) else (seqOuts g r).map ((e, f) :: ·)

/-- The number of the first region. -/
def regOf : Code → Nat
  | .region id _ _ => id
  | .seq x _ => regOf x
  | .block _ c => regOf c
  | .scope c => regOf c
  | _ => 0

def sub (pre f : Fr) : Bool := pre.all fun p => f.lookup p.1 == some p.2

def absCode (n : Nat) (facts : List (List Nat × Nat)) (L : Loops) : Code → Fr → Option Outs
  | .skip, f => some [((0, 0), f)]
  | .region _ ops false, f => (absOps n facts ops.toList f).map fun f' => [((0, 0), f')]
  | .seq x y, f => (absCode n facts L x f).bind (seqOuts (absCode n facts L y))
  | .cond c x y, f =>
    if code f c = 6 then absCode n facts L x f else if code f c = 7 then absCode n facts L y f
    else if code f c = 2 then (absCode n facts L x f).bind fun o1 => (absCode n facts L y f).map (o1 ++ ·) else none
  | .block id c, f => (absCode n facts L c f).map fun os => os.map fun p => if p.1 = (1, id) then ((0, 0), p.2) else p
  | .exit id, f => some [((1, id), f)]
  | .ret, f => some [((2, 0), f)]
  | .loop c, f => (L.lookup (regOf c)).bind fun p => if sub p.1 f then some p.2 else none
  | _, _ => none

def loopsOf : Code → List Code
  | .seq x y => loopsOf x ++ loopsOf y
  | .cond _ x y => loopsOf x ++ loopsOf y
  | .block _ c => loopsOf c
  | .loop c => [c]
  | _ => []

def toExit : Nat × Nat → Exit
  | (0, _) => .normal
  | (1, id) => .exit id
  | (_, _) => .ret

/-! ### What it means -/
structure Rep (n : Nat) (D : Nat → Value → Prop) (f : Fr) (a : Act) : Prop where
  defers : a.defers = []
  size : a.tmps.size = n
  slots : ∀ t c, f.lookup t = some c → D c (a.tmps.getD t undef)

/-- A relation of codes and values in which 0 says nothing and the constants' codes say what they are. -/
structure Fits (D : Nat → Value → Prop) : Prop where
  top : ∀ v, D 0 v
  const : ∀ v, D (constCode v) v
  tru : ∀ v, D 6 v → v = .bool true
  fls : ∀ v, D 7 v → v = .bool false
  bool : ∀ v, D 2 v → ∃ t, v = .bool t

theorem fits_D (T : Nat → Value → Prop) : Fits (D T) where
  top := fun _ => trivial
  const := fun v => by
    unfold constCode
    split
    · rfl
    · rfl
    · split
      · rename_i h; subst h; rfl
      · split
        · rename_i h; subst h; rfl
        · exact ⟨_, rfl⟩
    · rfl
    · trivial
  tru := fun _ h => h
  fls := fun _ h => h
  bool := fun _ h => h

section
variable {P : Program} {W : World → Prop} {n : Nat} {D : Nat → Value → Prop} {facts : List (List Nat × Nat)} {L : Loops}

theorem Rep.eval (hD : Fits D) {f : Fr} {a : Act} (h : Rep n D f a) (x : Operand) : D (code f x) (a.eval x) := by
  cases x with
  | tmp t =>
    simp only [code, get, Act.eval]
    cases hl : f.lookup t with
    | none => exact hD.top _
    | some c => exact h.slots t c hl
  | const v => exact hD.const v
  | global g => exact hD.top _
  | func g => exact hD.top _

theorem Rep.put {f : Fr} {a : Act} (h : Rep n D f a) {d c : Nat} {v : Value} (hd : d < n) (hv : D c v) : Rep n D ((d, c) :: f) (a.put (some d) v) := by
  refine ⟨h.defers, by simp [Act.put, h.size], ?_⟩
  intro t c' ht
  simp only [List.lookup_cons] at ht
  by_cases htd : t = d
  · subst htd
    simp at ht
    subst ht
    simpa [Act.put, Array.getD, h.size, hd] using hv
  · have : (t == d) = false := by simpa using htd
    rw [this] at ht
    have := h.slots t c' ht
    rw [Array.getD_eq_getD_getElem?] at this ⊢
    rw [show (a.put (some d) v).tmps = a.tmps.setIfInBounds d v from rfl, Array.getElem?_setIfInBounds_ne (Ne.symm htd)]
    exact this

/-- At these codes the operation gives a value of that code. -/
def FactOk (P : Program) (W : World → Prop) (n : Nat) (D : Nat → Value → Prop) (p : List Nat × Nat) : Prop :=
  ∀ (f : Fr) (a : Act) (o : Oper) (w : World), opKey f o.op = some p.1 → Rep n D f a → W w →
    ∀ (K : Act → World → Prop) (Q : Exit → Act → World → Prop), (∀ v w', D p.2 v → W w' → K (a.put o.dst v) w') → o.wp P a w K Q

theorem mem_of_lookup {α β : Type} [BEq α] [LawfulBEq α] {l : List (α × β)} {k : α} {v : β} (h : l.lookup k = some v) : (k, v) ∈ l := by
  induction l with
  | nil => simp at h
  | cons p l ih =>
    obtain ⟨k', v'⟩ := p
    simp only [List.lookup_cons] at h
    by_cases hk : k = k'
    · subst hk
      simp at h
      subst h
      exact List.mem_cons_self ..
    · have : (k == k') = false := by simpa using hk
      rw [this] at h
      exact List.mem_cons_of_mem _ (ih h)

theorem wp_opCode (hD : Fits D) (hF : ∀ p ∈ facts, FactOk P W n D p) {f : Fr} {a : Act} {o : Oper} {w : World} {c : Nat} (hc : opCode facts f o.op = some c) (hr : Rep n D f a) (hw : W w)
    (K : Act → World → Prop) (Q : Exit → Act → World → Prop) (hK : ∀ v w', D c v → W w' → K (a.put o.dst v) w') : o.wp P a w K Q := by
  by_cases hk : ∃ k, opKey f o.op = some k ∧ facts.lookup k = some c
  · obtain ⟨k, h1, h2⟩ := hk
    exact hF (k, c) (mem_of_lookup h2) f a o w h1 hr hw K Q hK
  · have hm : ∃ x, (o.op = .move x ∨ o.op = .assign x) ∧ c = code f x := by
      cases ho : o.op with
      | move x => rw [ho] at hc; exact ⟨x, .inl rfl, by simpa [opCode] using hc.symm⟩
      | assign x => rw [ho] at hc; exact ⟨x, .inr rfl, by simpa [opCode] using hc.symm⟩
      | _ =>
        rw [ho] at hc hk
        simp only [opCode] at hc
        exact (hk (by
          cases hq : opKey f _ with
          | none => rw [hq] at hc; simp at hc
          | some k => rw [hq] at hc; exact ⟨k, rfl, by simpa using hc⟩)).elim
    obtain ⟨x, hx, rfl⟩ := hm
    have hv := hr.eval hD x
    unfold Oper.wp
    rcases hx with hx | hx <;> simp [execOp, hx, Oper.upon, hK _ _ hv hw]

theorem wp_absOps (hD : Fits D) (hF : ∀ p ∈ facts, FactOk P W n D p) {ops : Array Oper} {Q : Exit → Act → World → Prop} :
    ∀ (os : List Oper) (f f' : Fr), absOps n facts os f = some f' → ∀ (a : Act) (w : World), Rep n D f a → W w → (∀ a' w', Rep n D f' a' → W w' → Q .normal a' w') → wpList P ops Q os a w := by
  intro os
  induction os with
  | nil =>
    intro f f' h a w hr hw hQ
    simp only [absOps, Option.some.injEq] at h
    subst h
    exact wpList_nil (hQ a w hr hw)
  | cons o os ih =>
    intro f f' h a w hr hw hQ
    simp only [absOps] at h
    split at h
    · simp at h
    rename_i hg
    split at h
    · simp at h
    rename_i d hd
    split at h
    · rename_i hlt
      split at h
      · rename_i c hc
        refine wpList_plain (by simpa using hg) fun K hK => ?_
        refine wp_opCode hD hF hc hr hw K Q fun v w' hv hw' => ?_
        rw [hd]
        exact hK _ _ (ih _ _ h _ _ (hr.put hlt hv) hw' hQ)
      · simp at h
    · simp at h

/-- What a loop's proof owes. -/
def LoopOk (P : Program) (W : World → Prop) (n : Nat) (D : Nat → Value → Prop) (L : Loops) (b : Code) : Prop :=
  ∀ pre outs, L.lookup (regOf b) = some (pre, outs) → ∀ (Q : Exit → Act → World → Prop) (a : Act) (w : World), Rep n D pre a → W w →
    (∀ e f', (e, f') ∈ outs → ∀ a' w', Rep n D f' a' → W w' → Q (toExit e) a' w') → (Code.loop b).wp P Q a w

theorem Rep.sub {f pre : Fr} {a : Act} (h : Rep n D f a) (hs : sub pre f = true) : Rep n D pre a := by
  refine ⟨h.defers, h.size, fun t c ht => h.slots t c ?_⟩
  have := List.all_eq_true.1 hs (t, c) (mem_of_lookup ht)
  simpa using this

theorem seqOuts_mem {g : Fr → Option Outs} : ∀ {os outs : Outs}, seqOuts g os = some outs → ∀ e f, (e, f) ∈ os → (e.1 ≠ 0 ∧ (e, f) ∈ outs) ∨ (e.1 = 0 ∧ ∃ o1, g f = some o1 ∧ ∀ p ∈ o1, p ∈ outs) := by
  intro os
  induction os with
  | nil => intro outs _ e f h; simp at h
  | cons p os ih =>
    obtain ⟨e0, f0⟩ := p
    intro outs h e f hm
    simp only [seqOuts] at h
    split at h
    · rename_i he
      obtain ⟨o1, ho1, h⟩ := Option.bind_eq_some_iff.1 h
      obtain ⟨o2, ho2, rfl⟩ := Option.map_eq_some_iff.1 h
      rcases List.mem_cons.1 hm with hm | hm
      · obtain ⟨rfl, rfl⟩ := Prod.mk.injEq .. ▸ hm
        exact .inr ⟨he, o1, ho1, fun p hp => List.mem_append.2 (.inl hp)⟩
      · rcases ih ho2 e f hm with ⟨h1, h2⟩ | ⟨h1, o3, h2, h3⟩
        · exact .inl ⟨h1, List.mem_append.2 (.inr h2)⟩
        · exact .inr ⟨h1, o3, h2, fun p hp => List.mem_append.2 (.inr (h3 p hp))⟩
    · rename_i he
      obtain ⟨o2, ho2, rfl⟩ := Option.map_eq_some_iff.1 h
      rcases List.mem_cons.1 hm with hm | hm
      · obtain ⟨rfl, rfl⟩ := Prod.mk.injEq .. ▸ hm
        exact .inl ⟨he, List.mem_cons_self ..⟩
      · rcases ih ho2 e f hm with ⟨h1, h2⟩ | ⟨h1, o3, h2, h3⟩
        · exact .inl ⟨h1, List.mem_cons_of_mem _ h2⟩
        · exact .inr ⟨h1, o3, h2, fun p hp => List.mem_cons_of_mem _ (h3 p hp)⟩

theorem toExit_normal {e : Nat × Nat} (h : e.1 = 0) : toExit e = .normal := by
  obtain ⟨a, b⟩ := e
  simp only at h
  subst h
  rfl

theorem then_toExit {e : Nat × Nat} (h : e.1 ≠ 0) {N : Act → World → Prop} {Q : Exit → Act → World → Prop} {a : Act} {w : World} (hq : Q (toExit e) a w) : Exit.then N Q (toExit e) a w := by
  obtain ⟨x, y⟩ := e
  simp only [ne_eq] at h
  match x, h with
  | 0, h => exact (h rfl).elim
  | 1, _ => exact hq
  | x + 2, _ => exact hq

theorem wp_abs (hD : Fits D) (hF : ∀ p ∈ facts, FactOk P W n D p) : ∀ (c : Code), (∀ b ∈ loopsOf c, LoopOk P W n D L b) → ∀ (f : Fr) (outs : Outs), absCode n facts L c f = some outs →
    ∀ (Q : Exit → Act → World → Prop) (a : Act) (w : World), Rep n D f a → W w → (∀ e f', (e, f') ∈ outs → ∀ a' w', Rep n D f' a' → W w' → Q (toExit e) a' w') → c.wp P Q a w := by
  intro c
  induction c with
  | skip =>
    intro _ f outs h Q a w hr hw hQ
    simp only [absCode, Option.some.injEq] at h
    subst h
    exact wp_skip (hQ (0, 0) f (List.mem_cons_self ..) a w hr hw)
  | region id ops draw =>
    intro _ f outs h Q a w hr hw hQ
    cases draw with
    | true => simp [absCode] at h
    | false =>
      simp only [absCode] at h
      obtain ⟨f', hf', rfl⟩ := Option.map_eq_some_iff.1 h
      exact wp_region_list (wp_absOps hD hF _ _ _ hf' a w hr hw fun a' w' h1 h2 => hQ (0, 0) f' (List.mem_cons_self ..) a' w' h1 h2)
  | seq x y ihx ihy =>
    intro hL f outs h Q a w hr hw hQ
    simp only [absCode] at h
    obtain ⟨o1, ho1, h⟩ := Option.bind_eq_some_iff.1 h
    refine wp_seq (ihx (fun b hb => hL b (List.mem_append.2 (.inl hb))) f o1 ho1 _ a w hr hw ?_)
    intro e f' hm a' w' hr' hw'
    rcases seqOuts_mem h e f' hm with ⟨h1, h2⟩ | ⟨h1, o2, h2, h3⟩
    · exact then_toExit h1 (hQ e f' h2 a' w' hr' hw')
    · rw [toExit_normal h1]
      exact ihy (fun b hb => hL b (List.mem_append.2 (.inr hb))) f' o2 h2 Q a' w' hr' hw' fun e3 f3 hm3 => hQ e3 f3 (h3 _ hm3)
  | cond c x y ihx ihy =>
    intro hL f outs h Q a w hr hw hQ
    simp only [absCode] at h
    have hv := hr.eval hD c
    split at h
    · rename_i hc
      rw [hc] at hv
      exact wp_cond_true (hD.tru _ hv) (ihx (fun b hb => hL b (List.mem_append.2 (.inl hb))) f outs h Q a w hr hw hQ)
    · split at h
      · rename_i hc
        rw [hc] at hv
        exact wp_cond_false (hD.fls _ hv) (ihy (fun b hb => hL b (List.mem_append.2 (.inr hb))) f outs h Q a w hr hw hQ)
      · split at h
        · rename_i hc
          rw [hc] at hv
          obtain ⟨t, ht⟩ := hD.bool _ hv
          obtain ⟨o1, ho1, h⟩ := Option.bind_eq_some_iff.1 h
          obtain ⟨o2, ho2, rfl⟩ := Option.map_eq_some_iff.1 h
          refine wp_cond_split ht (fun _ => ?_) (fun _ => ?_)
          · exact ihx (fun b hb => hL b (List.mem_append.2 (.inl hb))) f o1 ho1 Q a w hr hw fun e f' hm => hQ e f' (List.mem_append.2 (.inl hm))
          · exact ihy (fun b hb => hL b (List.mem_append.2 (.inr hb))) f o2 ho2 Q a w hr hw fun e f' hm => hQ e f' (List.mem_append.2 (.inr hm))
        · simp at h
  | block id c ih =>
    intro hL f outs h Q a w hr hw hQ
    simp only [absCode] at h
    obtain ⟨o1, ho1, rfl⟩ := Option.map_eq_some_iff.1 h
    refine wp_block (ih hL f o1 ho1 _ a w hr hw ?_)
    intro e f' hm a' w' hr' hw'
    by_cases he : e = (1, id)
    · subst he
      have := hQ (0, 0) f' (List.mem_map.2 ⟨((1, id), f'), hm, by simp⟩) a' w' hr' hw'
      simpa [toExit, Exit.inBlock] using this
    · have := hQ e f' (List.mem_map.2 ⟨(e, f'), hm, by simp [he]⟩) a' w' hr' hw'
      obtain ⟨x, y⟩ := e
      match x with
      | 0 => exact this
      | 1 =>
        simp only [Prod.mk.injEq, true_and] at he
        simpa [toExit, Exit.inBlock, he] using this
      | x + 2 => exact this
  | loop c ih =>
    intro hL f outs h Q a w hr hw hQ
    simp only [absCode] at h
    obtain ⟨p, hp, h⟩ := Option.bind_eq_some_iff.1 h
    split at h
    · rename_i hs
      simp only [Option.some.injEq] at h
      subst h
      exact hL c (by simp [loopsOf]) p.1 p.2 hp Q a w (hr.sub hs) hw hQ
    · simp at h
  | exit id =>
    intro _ f outs h Q a w hr hw hQ
    simp only [absCode, Option.some.injEq] at h
    subst h
    exact wp_exit (hQ (1, id) f (List.mem_cons_self ..) a w hr hw)
  | ret =>
    intro _ f outs h Q a w hr hw hQ
    simp only [absCode, Option.some.injEq] at h
    subst h
    exact wp_ret (hQ (2, 0) f (List.mem_cons_self ..) a w hr hw)
  | rangeFunc _ _ _ _ _ _ => intro _ f outs h; simp [absCode] at h
  | scope _ _ => intro _ f outs h; simp [absCode] at h
  | label _ => intro _ f outs h; simp [absCode] at h
  | goto _ => intro _ f outs h; simp [absCode] at h
  | refuse _ => intro _ f outs h; simp [absCode] at h

end

/-! ### Facts, one op at a time -/
section
variable {P : Program} {W : World → Prop} {n : Nat} {D : Nat → Value → Prop}

theorem fact_load (hD : Fits D) {t x res : Nat} (h : ∀ w v, W w → D x v → ∃ r, (Instr.loadAt t v).run P w = .ok r w ∧ D res r) : FactOk P W n D ([1, t, x], res) := by
  intro f a o w hk hr hw K Q hK
  cases ho : o.op <;> rw [ho] at hk <;> simp [opKey] at hk
  case load t' x' =>
    obtain ⟨rfl, rfl⟩ := hk
    obtain ⟨r, h1, h2⟩ := h w _ hw (hr.eval hD x')
    unfold Oper.wp
    simp [execOp, ho, h1, Oper.upon, Result.andThen, hK _ _ h2 hw]
  case call c => split at hk <;> simp at hk

theorem fact_field (hD : Fits D) {t x i res : Nat} (h : ∀ w v, W w → D x v → ∃ r, (Instr.fieldAt t v i).run P w = .ok r w ∧ D res r) : FactOk P W n D ([4, t, x, i], res) := by
  intro f a o w hk hr hw K Q hK
  cases ho : o.op <;> rw [ho] at hk <;> simp [opKey] at hk
  case fieldAddr t' x' i' =>
    obtain ⟨rfl, rfl, rfl⟩ := hk
    obtain ⟨r, h1, h2⟩ := h w _ hw (hr.eval hD x')
    unfold Oper.wp
    simp [execOp, ho, h1, Oper.upon, Result.andThen, hK _ _ h2 hw]
  case call c => split at hk <;> simp at hk

theorem fact_index (hD : Fits D) {t x i res : Nat} (h : ∀ w v u, W w → D x v → D i u → ∃ r, (Instr.indexAt t v u).run P w = .ok r w ∧ D res r) : FactOk P W n D ([5, t, x, i], res) := by
  intro f a o w hk hr hw K Q hK
  cases ho : o.op <;> rw [ho] at hk <;> simp [opKey] at hk
  case indexAddr t' x' i' =>
    obtain ⟨rfl, rfl, rfl⟩ := hk
    obtain ⟨r, h1, h2⟩ := h w _ _ hw (hr.eval hD x') (hr.eval hD i')
    unfold Oper.wp
    simp [execOp, ho, h1, Oper.upon, Result.andThen, hK _ _ h2 hw]
  case call c => split at hk <;> simp at hk

theorem fact_nil (hD : Fits D) {x : Nat} (h : ∀ v, D x v → ∃ a, v = .pointer (some a)) : FactOk P W n D ([2, x], x) := by
  intro f a o w hk hr hw K Q hK
  cases ho : o.op <;> rw [ho] at hk <;> simp [opKey] at hk
  case nilCheck x' =>
    subst hk
    have hv := hr.eval hD x'
    obtain ⟨ad, h1⟩ := h _ hv
    unfold Oper.wp
    rw [h1] at hv
    simp [execOp, ho, h1, Oper.upon, hK _ _ hv hw]
  case call c => split at hk <;> simp at hk

theorem binCode_inj {a b : BinOp} (h : binCode a = binCode b) (hb : binCode b ≠ 0) : a = b := by
  cases a <;> cases b <;> simp_all [binCode]

theorem fact_bin (hD : Fits D) (op : BinOp) (hop : binCode op ≠ 0) {t x y res : Nat} (h : ∀ w v u X Y, W w → D x v → D y u → ∃ r, (eqGuard op t X Y v u).run P w = .ok () w ∧ (binOp op t v u).run P w = .ok r w ∧ D res r) :
    FactOk P W n D ([3, binCode op, t, x, y], res) := by
  intro f a o w hk hr hw K Q hK
  cases ho : o.op <;> rw [ho] at hk <;> simp [opKey] at hk
  case binOp op' t' x' y' ty =>
    obtain ⟨e, rfl, rfl, rfl⟩ := hk
    obtain rfl := binCode_inj e hop
    obtain ⟨r, h1, h2, h3⟩ := h w _ _ x' y' hw (hr.eval hD x') (hr.eval hD y')
    unfold Oper.wp
    simp [execOp, ho, h1, h2, Oper.upon, Result.andThen, hK _ _ h3 hw]
  case call c => split at hk <;> simp at hk

theorem fact_len (hD : Fits D) {t x res : Nat} (h : ∀ w v ty, W w → D x v → ∃ r, (Builtin.len_ #[t] ty #[v]).run P w = .ok r w ∧ D res r) : FactOk P W n D ([6, t, x], res) := by
  intro f a o w hk hr hw K Q hK
  cases ho : o.op <;> rw [ho] at hk <;> simp [opKey] at hk
  case call c =>
    split at hk
    · rename_i x' t' hcal hargs htys
      simp at hk
      obtain ⟨rfl, rfl⟩ := hk
      obtain ⟨r, h1, h2⟩ := h w _ o.type hw (hr.eval hD x')
      have hA : c.args = #[x'] := by rw [← Array.toArray_toList (xs := c.args), hargs]
      have hT : c.argTypes = #[t'] := by rw [← Array.toArray_toList (xs := c.argTypes), htys]
      unfold Oper.wp
      simp [execOp, ho, resolve, hcal, hA, hT, invoke, builtin, h1, Oper.upon, Result.andThen, hK _ _ h2 hw]
    · simp at hk

theorem Rep.turn {D2 : Nat → Value → Prop} {f f' : Fr} {a : Act} (h : Rep n D f a) (hh : ∀ p ∈ f', ∃ c, f.lookup p.1 = some c ∧ ∀ v, D c v → D2 p.2 v) : Rep n D2 f' a := by
  refine ⟨h.defers, h.size, fun t c ht => ?_⟩
  obtain ⟨c1, h1, h2⟩ := hh (t, c) (mem_of_lookup ht)
  exact h2 _ (h.slots t c1 h1)

/-! ### A loop that counts -/
def okRound (n : Nat) (facts : List (List Nat × Nat)) (b : Code) (pre post : Fr) (outs : Outs) : Bool :=
  match absCode n facts [] b pre with
  | none => false
  | some os => os.all fun p => if p.1.1 = 0 then sub post p.2 else outs.any fun q => decide (q.1 = p.1) && sub q.2 p.2

def okExit (n : Nat) (facts : List (List Nat × Nat)) (b : Code) (pre : Fr) (outs : Outs) : Bool :=
  match absCode n facts [] b pre with
  | none => false
  | some os => os.all fun p => decide (p.1.1 ≠ 0) && outs.any fun q => decide (q.1 = p.1) && sub q.2 p.2

theorem loop_abs {b : Code} {pre post : Fr} {outs : Outs} (hloops : loopsOf b = []) (D0 : Nat → Value → Prop) (m : Nat) (Db : Nat → Nat → Value → Prop)
    (hlt : ∀ k, k < m → ∃ (T : Nat → Value → Prop) (facts : List (List Nat × Nat)), (∀ p ∈ facts, FactOk P W n (Abs.D T) p) ∧ (∀ a, Rep n (Db k) pre a → Rep n (Abs.D T) pre a) ∧ (∀ a, Rep n (Abs.D T) post a → Rep n (Db (k + 1)) pre a) ∧
      (∀ q ∈ outs, ∀ a, Rep n (Abs.D T) q.2 a → Rep n D0 q.2 a) ∧ okRound n facts b pre post outs = true)
    (hge : ∃ (T : Nat → Value → Prop) (facts : List (List Nat × Nat)), (∀ p ∈ facts, FactOk P W n (Abs.D T) p) ∧ (∀ a, Rep n (Db m) pre a → Rep n (Abs.D T) pre a) ∧
      (∀ q ∈ outs, ∀ a, Rep n (Abs.D T) q.2 a → Rep n D0 q.2 a) ∧ okExit n facts b pre outs = true)
    (Q : Exit → Act → World → Prop) (a : Act) (w : World) (hr : Rep n (Db 0) pre a) (hw : W w)
    (hQ : ∀ e f', (e, f') ∈ outs → ∀ a' w', Rep n D0 f' a' → W w' → Q (toExit e) a' w') : (Code.loop b).wp P Q a w := by
  refine wp_loop_ghost (fun g a w => ∃ k, k ≤ m ∧ g = m - k ∧ Rep n (Db k) pre a ∧ W w) m ⟨0, Nat.zero_le _, rfl, hr, hw⟩ ?_
  rintro g a w ⟨k, hk, rfl, hr, hw⟩
  have hl : ∀ (D1 : Nat → Value → Prop), ∀ b' ∈ loopsOf b, LoopOk P W n D1 [] b' := by rw [hloops]; simp
  by_cases hkm : k < m
  · obtain ⟨T, facts, hF, h1, h2, h3, h4⟩ := hlt k hkm
    unfold okRound at h4
    split at h4
    · simp at h4
    rename_i os hos
    refine wp_abs (fits_D T) hF b (hl _) pre os hos _ a w (h1 a hr) hw ?_
    intro e f' hm a' w' hr' hw'
    have h5 := List.all_eq_true.1 h4 (e, f') hm
    by_cases he : e.1 = 0
    · rw [toExit_normal he]
      simp only [he, if_true] at h5
      exact ⟨m - (k + 1), by omega, k + 1, hkm, rfl, h2 a' (hr'.sub h5), hw'⟩
    · simp only [he, if_false] at h5
      obtain ⟨q, hq, h6⟩ := List.any_eq_true.1 h5
      simp only [Bool.and_eq_true, decide_eq_true_eq] at h6
      obtain ⟨rfl, h7⟩ := h6
      exact then_toExit he (hQ q.1 q.2 hq a' w' (h3 q hq a' (hr'.sub h7)) hw')
  · obtain rfl : k = m := by omega
    obtain ⟨T, facts, hF, h1, h3, h4⟩ := hge
    unfold okExit at h4
    split at h4
    · simp at h4
    rename_i os hos
    refine wp_abs (fits_D T) hF b (hl _) pre os hos _ a w (h1 a hr) hw ?_
    intro e f' hm a' w' hr' hw'
    have h5 := List.all_eq_true.1 h4 (e, f') hm
    simp only [Bool.and_eq_true, decide_eq_true_eq] at h5
    obtain ⟨he, h5⟩ := h5
    obtain ⟨q, hq, h6⟩ := List.any_eq_true.1 h5
    simp only [Bool.and_eq_true, decide_eq_true_eq] at h6
    obtain ⟨rfl, h7⟩ := h6
    exact then_toExit he (hQ q.1 q.2 hq a' w' (h3 q hq a' (hr'.sub h7)) hw')

/-- The frame at a function's entry. -/
theorem rep_start {args : Array Value} {m : Nat} {f : Fr} (hn : args.size + m = n) (hh : ∀ p ∈ f, ∃ v, args[p.1]? = some v ∧ D p.2 v) : Rep n D f { tmps := args ++ Array.replicate m undef, defers := [] } := by
  refine ⟨rfl, by simpa using hn, fun t c ht => ?_⟩
  obtain ⟨v, h1, h2⟩ := hh (t, c) (mem_of_lookup ht)
  have hlt : t < args.size := (Array.getElem?_eq_some_iff.1 h1).1
  rw [Array.getD_eq_getD_getElem?, Array.getElem?_append_left hlt]
  simp only at h1
  rw [h1]
  exact h2

/-! ### A whole function of one result -/
def okCall (n : Nat) (facts : List (List Nat × Nat)) (L : Loops) (b : Code) (f : Fr) (r : Nat) (ok : List Nat) : Bool :=
  match absCode n facts L b f with
  | none => false
  | some os => os.all fun p => decide (p.1.1 ≠ 1) && ok.contains (get p.2 r)

theorem calls_abs {fid : FuncId} {fn : Func} {c : Code} {args : Array Value} {w : World} {R : Ending → World → Prop} {facts : List (List Nat × Nat)} {L : Loops} {r : Nat} {ok : List Nat} {f : Fr}
    (hf : P.funcs[fid]? = some fn) (hb : fn.body = some c) (hres : fn.results = #[.tmp r]) (hD : Fits D) (hF : ∀ p ∈ facts, FactOk P W n D p) (hL : ∀ b ∈ loopsOf c, LoopOk P W n D L b)
    (hrep : Rep n D f { tmps := args ++ Array.replicate (fn.ntmps - args.size) undef, defers := [] }) (hw : W w) (hok : okCall n facts L c f r ok = true)
    (hR : ∀ x ∈ ok, ∀ v w', D x v → W w' → R (.returned v) w') : Calls P fid args w R := by
  refine calls_of_wp hf hb ?_
  unfold okCall at hok
  split at hok
  · simp at hok
  rename_i os hos
  refine wp_abs hD hF c hL f os hos _ _ w hrep hw ?_
  intro e f' hm a' w' hr' hw'
  have h5 := List.all_eq_true.1 hok (e, f') hm
  simp only [Bool.and_eq_true, decide_eq_true_eq] at h5
  obtain ⟨he, h5⟩ := h5
  have h6 : get f' r ∈ ok := by simpa using h5
  have h7 : D (get f' r) (a'.tmps.getD r undef) := hr'.eval hD (.tmp r)
  have h8 := hR _ h6 _ _ h7 hw'
  obtain ⟨x, y⟩ := e
  match x, he with
  | 0, _ => exact ⟨hr'.defers, _, results_tmp hres _ _ _, h8⟩
  | x + 2, _ => exact ⟨hr'.defers, _, results_tmp hres _ _ _, h8⟩

/-! ### A whole function of one result that boxes a parameter first -/
def boxHead : Code → Option ((Nat × Nat × Nat) × (List Oper × Code))
  | .seq (.region _ ops false) c2 =>
    match ops.toList with
    | o :: os => match o.op, o.dst, o.guard with
      | .box t (.tmp s), some d, none => some ((t, s, d), (os, c2))
      | _, _, _ => none
    | [] => none
  | _ => none

def okCallBox (n : Nat) (facts : List (List Nat × Nat)) (L : Loops) (h : List Oper × Code) (f : Fr) (r : Nat) (ok : List Nat) : Bool :=
  match absOps n facts h.1 f with
  | none => false
  | some f1 => okCall n facts L h.2 f1 r ok

theorem calls_abs_box {fid : FuncId} {fn : Func} {c : Code} {args : Array Value} {w w1 : World} {R : Ending → World → Prop} {facts : List (List Nat × Nat)} {L : Loops} {r : Nat} {ok : List Nat} {f : Fr} {t s d cp : Nat} {h : List Oper × Code} {x p : Value}
    (hf : P.funcs[fid]? = some fn) (hb : fn.body = some c) (hres : fn.results = #[.tmp r]) (hhead : boxHead c = some ((t, s, d), h)) (hD : Fits D) (hF : ∀ p ∈ facts, FactOk P W n D p) (hL : ∀ b ∈ loopsOf h.2, LoopOk P W n D L b)
    (hrep : Rep n D f { tmps := args ++ Array.replicate (fn.ntmps - args.size) undef, defers := [] }) (hd : d < n) (hx : args[s]? = some x) (hbox : (Instr.box t x).run P w = .ok p w1) (hp : D cp p) (hw : W w1) (hok : okCallBox n facts L h ((d, cp) :: f) r ok = true)
    (hR : ∀ x ∈ ok, ∀ v w', D x v → W w' → R (.returned v) w') : Calls P fid args w R := by
  refine calls_of_wp hf hb ?_
  unfold boxHead at hhead
  split at hhead
  · rename_i id ops c2
    split at hhead
    · rename_i o os hops
      split at hhead
      · rename_i t' s' d' ho hdst hg
        simp only [Option.some.injEq, Prod.mk.injEq] at hhead
        obtain ⟨⟨rfl, rfl, rfl⟩, rfl⟩ := hhead
        unfold okCallBox at hok
        split at hok
        · simp at hok
        rename_i f1 hf1
        refine wp_seq (wp_region_list ?_)
        rw [hops]
        refine wpList_plain hg fun K hK => ?_
        have hev : ({ tmps := args ++ Array.replicate (fn.ntmps - args.size) undef, defers := [] } : Act).eval (.tmp s') = x := by
          have hlt : s' < args.size := (Array.getElem?_eq_some_iff.1 hx).1
          simp only [Act.eval]
          rw [Array.getD_eq_getD_getElem?, Array.getElem?_append_left hlt, hx]
          rfl
        unfold Oper.wp
        simp only [execOp, ho, hev]
        simp only [hdst, Sem.run_bind, hbox, Result.andThen, Sem.run_pure, Oper.upon]
        refine hK _ _ (wp_absOps hD hF os _ f1 hf1 _ _ (hrep.put hd hp) hw ?_)
        intro a' w' hr' hw'
        show Code.wp P c2 _ a' w'
        unfold okCall at hok
        split at hok
        · simp at hok
        rename_i outs hos
        refine wp_abs hD hF c2 hL f1 outs hos _ _ w' hr' hw' ?_
        intro e f' hm a' w' hr' hw'
        have h5 := List.all_eq_true.1 hok (e, f') hm
        simp only [Bool.and_eq_true, decide_eq_true_eq] at h5
        obtain ⟨he, h5⟩ := h5
        have h6 : get f' r ∈ ok := by simpa using h5
        have h7 : D (get f' r) (a'.tmps.getD r undef) := hr'.eval hD (.tmp r)
        have h8 := hR _ h6 _ _ h7 hw'
        obtain ⟨x, y⟩ := e
        match x, he with
        | 0, _ => exact ⟨hr'.defers, _, results_tmp hres _ _ _, h8⟩
        | x + 2, _ => exact ⟨hr'.defers, _, results_tmp hres _ _ _, h8⟩
      · simp at hhead
    · simp at hhead
  · simp at hhead
end

end Go.Proofs.Qxb6608969aDoor.Abs
