import Derived.Test.Qxb6608969aDoorW1
import Derived.Test.Qxb6608969aDoorAbs
namespace Go.Proofs.Qxb6608969aDoor
open Go Go.RowKit Abs

/-- It returns a bool; the world is as it was. -/
def RB (w : World) (e : Ending) (w' : World) : Prop := ∃ r : Bool, e = .returned (.bool r) ∧ w' = w

/-! ### The codes: 10: the slice; 12: its length; 14: the index; 15: the next; 16, 17: the other slice and its length; 20 + f: the address of field f of the element; 30, 31, 32: its three pointers; 40 + j, 50 + j, 60 + j: the addresses of the fields behind them -/
def tabE (b o : Nat) (p0 p4 p5 : Option Addr) (b0 o0 b4 o4 b5 o5 : Nat) (c : Nat) : Value :=
  if c = 30 then .pointer p0 else if c = 31 then .pointer p4 else if c = 32 then .pointer p5
  else if c < 30 then .pointer (some ⟨b, o + (c - 20), none⟩) else if c < 50 then .pointer (some ⟨b0, o0 + (c - 40), none⟩) else if c < 60 then .pointer (some ⟨b4, o4 + (c - 50), none⟩) else .pointer (some ⟨b5, o5 + (c - 60), none⟩)
def tabS (sl : Value) (n k : Int) (sl2 : Value) (n2 : Int) (c : Nat) : Value :=
  if c = 10 then sl else if c = 12 then .int .i64 n else if c = 14 then .int .i64 k else if c = 15 then .int .i64 (k + 1) else if c = 16 then sl2 else .int .i64 n2

section
variable {w : World} {n : Nat} {T : Nat → Value → Prop}

theorem f_lenStr : FactOk Tryd.prog (· = w) n (Abs.D T) ([6, 9, 8], 1) :=
  fact_len (fits_D T) fun _ v ty e hv => by
    subst e
    obtain ⟨s, rfl⟩ := hv
    exact ⟨.int .i64 s.size, by go_simp, _, rfl⟩
theorem f_gtr : FactOk Tryd.prog (· = w) n (Abs.D T) ([3, 2, 3, 1, 1], 2) :=
  fact_bin (fits_D T) .gtr (by decide) fun _ v u X Y e hv hu => by
    subst e
    obtain ⟨x, rfl⟩ := hv
    obtain ⟨y, rfl⟩ := hu
    exact ⟨.bool (decide (y < x)), by go_simp, by go_simp, _, rfl⟩
theorem f_add : FactOk Tryd.prog (· = w) n (Abs.D T) ([3, 1, 3, 1, 1], 1) :=
  fact_bin (fits_D T) .add (by decide) fun _ v u X Y e hv hu => by
    subst e
    obtain ⟨x, rfl⟩ := hv
    obtain ⟨y, rfl⟩ := hu
    exact ⟨.int .i64 (IntKind.i64.wrap (x + y)), by go_simp, by go_simp, _, rfl⟩
/-- The same two over a code that means one int. -/
theorem f_gtrK (c : Nat) (x : Int) (hT : ∀ v, T (c + 9) v → v = .int .i64 x) : FactOk Tryd.prog (· = w) n (Abs.D T) ([3, 2, 3, c + 9, 1], 2) :=
  fact_bin (fits_D T) .gtr (by decide) fun _ v u X Y e hv hu => by
    subst e
    obtain rfl := hT v hv
    obtain ⟨y, rfl⟩ := hu
    exact ⟨.bool (decide (y < x)), by go_simp, by go_simp, _, rfl⟩
theorem f_addK (c : Nat) (x : Int) (hT : ∀ v, T (c + 9) v → v = .int .i64 x) : FactOk Tryd.prog (· = w) n (Abs.D T) ([3, 1, 3, 1, c + 9], 1) :=
  fact_bin (fits_D T) .add (by decide) fun _ v u X Y e hv hu => by
    subst e
    obtain rfl := hT u hu
    obtain ⟨y, rfl⟩ := hv
    exact ⟨.int .i64 (IntKind.i64.wrap (y + x)), by go_simp, by go_simp, _, rfl⟩
theorem f_add0K (c : Nat) (x : Int) (hT : ∀ v, T (c + 9) v → v = .int .i64 x) : FactOk Tryd.prog (· = w) n (Abs.D T) ([3, 1, 3, 3, c + 9], 1) :=
  fact_bin (fits_D T) .add (by decide) fun _ v u X Y e hv hu => by
    subst e
    obtain rfl := hT u hu
    obtain rfl : v = .int .i64 0 := hv
    exact ⟨.int .i64 (IntKind.i64.wrap (0 + x)), by go_simp, by go_simp, _, rfl⟩
theorem f_lenSl (c d : Nat) (ao : Option Addr) (m cap : Nat) (hT : ∀ v, T (c + 9) v → v = .slice ao m cap) (hT2 : T (d + 9) (.int .i64 m)) : FactOk Tryd.prog (· = w) n (Abs.D T) ([6, 22, c + 9], d + 9) :=
  fact_len (fits_D T) fun _ v ty e hv => by
    subst e
    obtain rfl := hT v hv
    exact ⟨.int .i64 m, by go_simp, hT2⟩
theorem f_lss (c d : Nat) (k m : Int) (hT : ∀ v, T (c + 9) v → v = .int .i64 k) (hT2 : ∀ v, T (d + 9) v → v = .int .i64 m) (h : k < m) : FactOk Tryd.prog (· = w) n (Abs.D T) ([3, 3, 3, c + 9, d + 9], 6) :=
  fact_bin (fits_D T) .lss (by decide) fun _ v u X Y e hv hu => by
    subst e
    obtain rfl := hT v hv
    obtain rfl := hT2 u hu
    exact ⟨.bool true, by go_simp, by go_simp, rfl⟩
theorem f_lssNot (c d : Nat) (k m : Int) (hT : ∀ v, T (c + 9) v → v = .int .i64 k) (hT2 : ∀ v, T (d + 9) v → v = .int .i64 m) (h : ¬ k < m) : FactOk Tryd.prog (· = w) n (Abs.D T) ([3, 3, 3, c + 9, d + 9], 7) :=
  fact_bin (fits_D T) .lss (by decide) fun _ v u X Y e hv hu => by
    subst e
    obtain rfl := hT v hv
    obtain rfl := hT2 u hu
    have h' : m ≤ k := by omega
    exact ⟨.bool false, by go_simp, by go_simp, rfl⟩
theorem f_succ (c d : Nat) (k : Int) (hT : ∀ v, T (c + 9) v → v = .int .i64 k) (hT2 : T (d + 9) (.int .i64 (k + 1))) (h0 : 0 ≤ k) (h1 : k < 9223372036854775807) : FactOk Tryd.prog (· = w) n (Abs.D T) ([3, 1, 3, c + 9, 4], d + 9) :=
  fact_bin (fits_D T) .add (by decide) fun _ v u X Y e hv hu => by
    subst e
    obtain rfl := hT v hv
    obtain rfl : u = .int .i64 1 := hu
    refine ⟨.int .i64 (k + 1), by go_simp, ?_, hT2⟩
    have : IntKind.i64.wrap (k + 1) = k + 1 := by rw [IntKind.wrap_i64]; omega
    go_simp
theorem f_index (c i d : Nat) (b o m cap k : Nat) (hT : ∀ v, T (c + 9) v → v = .slice (some ⟨b, o, none⟩) m cap) (hT1 : ∀ v, T (i + 9) v → v = .int .i64 k) (hT2 : T (d + 9) (.pointer (some ⟨b, o + k * 7, none⟩))) (h : k < m) :
    FactOk Tryd.prog (· = w) n (Abs.D T) ([5, 22, c + 9, i + 9], d + 9) :=
  fact_index (fits_D T) fun _ v u e hv hu => by
    subst e
    obtain rfl := hT v hv
    obtain rfl := hT1 u hu
    refine ⟨_, ?_, hT2⟩
    go_simp
theorem f_field (t c i d : Nat) (ht : t = 29 ∧ i < 7 ∨ t = 41 ∧ i < 6 ∨ t = 43 ∧ i < 5) (b o : Nat) (hT : ∀ v, T (c + 9) v → v = .pointer (some ⟨b, o, none⟩)) (hT2 : T (d + 9) (.pointer (some ⟨b, o + i, none⟩))) :
    FactOk Tryd.prog (· = w) n (Abs.D T) ([4, t, c + 9, i], d + 9) :=
  fact_field (fits_D T) fun _ v e hv => by
    subst e
    obtain rfl := hT v hv
    refine ⟨_, ?_, hT2⟩
    rcases ht with ⟨rfl, h⟩ | ⟨rfl, h⟩ | ⟨rfl, h⟩
    · match i, h with
      | 0, _ => go_simp
      | 1, _ => go_simp
      | 2, _ => go_simp
      | 3, _ => go_simp
      | 4, _ => go_simp
      | 5, _ => go_simp
      | 6, _ => go_simp
    · match i, h with
      | 0, _ => go_simp
      | 1, _ => go_simp
      | 2, _ => go_simp
      | 3, _ => go_simp
      | 4, _ => go_simp
      | 5, _ => go_simp
    · match i, h with
      | 0, _ => go_simp
      | 1, _ => go_simp
      | 2, _ => go_simp
      | 3, _ => go_simp
      | 4, _ => go_simp
theorem f_loadStr (c : Nat) (b o : Nat) (s : ByteArray) (hT : ∀ v, T (c + 9) v → v = .pointer (some ⟨b, o, none⟩)) (hc : w.cell? ⟨b, o, none⟩ = some (.string s)) : FactOk Tryd.prog (· = w) n (Abs.D T) ([1, 9, c + 9], 8) :=
  fact_load (fits_D T) fun _ v e hv => by
    subst e
    obtain rfl := hT v hv
    exact ⟨.string s, by go_simp, s, rfl⟩
theorem f_loadPtr (t : Nat) (ht : t = 25 ∨ t = 27) (c d : Nat) (b o : Nat) (p : Option Addr) (hT : ∀ v, T (c + 9) v → v = .pointer (some ⟨b, o, none⟩)) (hc : w.cell? ⟨b, o, none⟩ = some (.pointer p)) (hT2 : T (d + 9) (.pointer p)) :
    FactOk Tryd.prog (· = w) n (Abs.D T) ([1, t, c + 9], d + 9) :=
  fact_load (fits_D T) fun _ v e hv => by
    subst e
    obtain rfl := hT v hv
    rcases ht with rfl | rfl
    · exact ⟨.pointer p, by go_simp, hT2⟩
    · exact ⟨.pointer p, by go_simp, hT2⟩
theorem f_neqNil (t : Nat) (ht : t = 25 ∨ t = 27) (c : Nat) (hT : ∀ v, T (c + 9) v → v = .pointer none) : FactOk Tryd.prog (· = w) n (Abs.D T) ([3, 5, t, c + 9, 5], 7) :=
  fact_bin (fits_D T) .neq (by decide) fun _ v u X Y e hv hu => by
    subst e
    obtain rfl := hT v hv
    obtain rfl : u = .pointer none := hu
    rcases ht with rfl | rfl
    · exact ⟨.bool false, by go_simp, by go_simp, rfl⟩
    · exact ⟨.bool false, by go_simp, by go_simp, rfl⟩
theorem f_neqSome (t : Nat) (ht : t = 25 ∨ t = 27) (c : Nat) (b o : Nat) (hT : ∀ v, T (c + 9) v → v = .pointer (some ⟨b, o, none⟩)) : FactOk Tryd.prog (· = w) n (Abs.D T) ([3, 5, t, c + 9, 5], 6) :=
  fact_bin (fits_D T) .neq (by decide) fun _ v u X Y e hv hu => by
    subst e
    obtain rfl := hT v hv
    obtain rfl : u = .pointer none := hu
    rcases ht with rfl | rfl
    · exact ⟨.bool true, by go_simp, by go_simp, rfl⟩
    · exact ⟨.bool true, by go_simp, by go_simp, rfl⟩
theorem f_nil (c : Nat) (b o : Nat) (hT : ∀ v, T (c + 9) v → v = .pointer (some ⟨b, o, none⟩)) : FactOk Tryd.prog (· = w) n (Abs.D T) ([2, c + 9], c + 9) :=
  fact_nil (fits_D T) fun v hv => ⟨_, hT v hv⟩
end

/-! ### The facts of one event -/
def factsElem : List (List Nat × Nat) := [([6, 9, 8], 1), ([3, 2, 3, 1, 1], 2), ([3, 1, 3, 1, 1], 1),
  ([4, 29, 20, 0], 20), ([4, 29, 20, 4], 24), ([4, 29, 20, 5], 25), ([4, 29, 20, 6], 26), ([1, 25, 20], 30), ([1, 27, 24], 31), ([1, 27, 25], 32), ([1, 9, 26], 8)]
def facts0 : Bool → List (List Nat × Nat)
  | true => [([3, 5, 25, 30, 5], 6), ([2, 30], 30), ([4, 41, 30, 0], 40), ([4, 41, 30, 1], 41), ([4, 41, 30, 2], 42), ([4, 41, 30, 5], 45), ([1, 9, 40], 8), ([1, 9, 41], 8), ([1, 9, 42], 8), ([1, 9, 45], 8)]
  | false => [([3, 5, 25, 30, 5], 7)]
def facts4 : Bool → List (List Nat × Nat)
  | true => [([3, 5, 27, 31, 5], 6), ([2, 31], 31), ([4, 43, 31, 0], 50), ([4, 43, 31, 4], 54), ([1, 9, 50], 8), ([1, 9, 54], 8)]
  | false => [([3, 5, 27, 31, 5], 7)]
def facts5 : Bool → List (List Nat × Nat)
  | true => [([3, 5, 27, 32, 5], 6), ([2, 32], 32), ([4, 43, 32, 0], 60), ([4, 43, 32, 4], 64), ([1, 9, 60], 8), ([1, 9, 64], 8)]
  | false => [([3, 5, 27, 32, 5], 7)]
/-- What the walk is told of the element, by which of its three pointers are nil. -/
theorem elem_facts {N : Nat} {w : World} {n : Nat} {b o : Nat} {c : Option (ByteArray × Int)} (he : EvIn N w b o c) :
    ∃ (p0 p4 p5 : Option Addr) (b0 o0 b4 o4 b5 o5 : Nat) (x y z : Bool), ∀ T : Nat → Value → Prop, (∀ c, 20 ≤ c → ∀ v, T c v ↔ v = tabE b o p0 p4 p5 b0 o0 b4 o4 b5 o5 c) →
      ∀ p ∈ factsElem ++ (facts0 x ++ (facts4 y ++ facts5 z)), FactOk Tryd.prog (· = w) n (Abs.D T) p := by
  obtain ⟨p0, t1, b2, b3, p4, p5, s6, hN, h0, h1, h2, h3, h4, h5, h6, k0, k4, k5⟩ := he
  have hx : ∃ (b0 o0 : Nat) (x : Bool), ∀ T : Nat → Value → Prop, (∀ v, T 30 v → v = .pointer p0) → (∀ j, j < 10 → T (40 + j) (.pointer (some ⟨b0, o0 + j, none⟩))) → (∀ j v, j < 10 → T (40 + j) v → v = .pointer (some ⟨b0, o0 + j, none⟩)) → ∀ p ∈ facts0 x, FactOk Tryd.prog (· = w) n (Abs.D T) p := by
    rcases k0 with ⟨rfl, _⟩ | ⟨b', o', a0, a1, a2, a3, a4, a5, rfl, _, _, j0, j1, j2, j3, j4, j5⟩
    · refine ⟨0, 0, false, fun T t30 t40 t41 p hp => ?_⟩
      simp only [facts0, List.mem_cons, List.not_mem_nil, or_false] at hp
      subst hp
      exact f_neqNil 25 (.inl rfl) 21 t30
    · refine ⟨b', o', true, fun T t30 t40 t41 p hp => ?_⟩
      simp only [facts0, List.mem_cons, List.not_mem_nil, or_false] at hp
      rcases hp with rfl | rfl | rfl | rfl | rfl | rfl | rfl | rfl | rfl | rfl
      · exact f_neqSome 25 (.inl rfl) 21 _ _ t30
      · exact f_nil 21 _ _ t30
      · exact f_field 41 21 0 31 (by omega) _ _ t30 (t40 0 (by omega))
      · exact f_field 41 21 1 32 (by omega) _ _ t30 (t40 1 (by omega))
      · exact f_field 41 21 2 33 (by omega) _ _ t30 (t40 2 (by omega))
      · exact f_field 41 21 5 36 (by omega) _ _ t30 (t40 5 (by omega))
      · exact f_loadStr 31 _ _ _ (t41 0 · (by omega)) j0
      · exact f_loadStr 32 _ _ _ (t41 1 · (by omega)) j1
      · exact f_loadStr 33 _ _ _ (t41 2 · (by omega)) j2
      · exact f_loadStr 36 _ _ _ (t41 5 · (by omega)) j5
  have hy : ∃ (b0 o0 : Nat) (y : Bool), ∀ T : Nat → Value → Prop, (∀ v, T 31 v → v = .pointer p4) → (∀ j, j < 10 → T (50 + j) (.pointer (some ⟨b0, o0 + j, none⟩))) → (∀ j v, j < 10 → T (50 + j) v → v = .pointer (some ⟨b0, o0 + j, none⟩)) → ∀ p ∈ facts4 y, FactOk Tryd.prog (· = w) n (Abs.D T) p := by
    rcases k4 with rfl | ⟨b', o', a0, a1, a2, a3, a4, rfl, _, j0, j1, j2, j3, j4⟩
    · refine ⟨0, 0, false, fun T t30 t40 t41 p hp => ?_⟩
      simp only [facts4, List.mem_cons, List.not_mem_nil, or_false] at hp
      subst hp
      exact f_neqNil 27 (.inr rfl) 22 t30
    · refine ⟨b', o', true, fun T t30 t40 t41 p hp => ?_⟩
      simp only [facts4, List.mem_cons, List.not_mem_nil, or_false] at hp
      rcases hp with rfl | rfl | rfl | rfl | rfl | rfl
      · exact f_neqSome 27 (.inr rfl) 22 _ _ t30
      · exact f_nil 22 _ _ t30
      · exact f_field 43 22 0 41 (by omega) _ _ t30 (t40 0 (by omega))
      · exact f_field 43 22 4 45 (by omega) _ _ t30 (t40 4 (by omega))
      · exact f_loadStr 41 _ _ _ (t41 0 · (by omega)) j0
      · exact f_loadStr 45 _ _ _ (t41 4 · (by omega)) j4
  have hz : ∃ (b0 o0 : Nat) (z : Bool), ∀ T : Nat → Value → Prop, (∀ v, T 32 v → v = .pointer p5) → (∀ j, j < 10 → T (60 + j) (.pointer (some ⟨b0, o0 + j, none⟩))) → (∀ j v, j < 10 → T (60 + j) v → v = .pointer (some ⟨b0, o0 + j, none⟩)) → ∀ p ∈ facts5 z, FactOk Tryd.prog (· = w) n (Abs.D T) p := by
    rcases k5 with rfl | ⟨b', o', a0, a1, a2, a3, a4, rfl, _, j0, j1, j2, j3, j4⟩
    · refine ⟨0, 0, false, fun T t30 t40 t41 p hp => ?_⟩
      simp only [facts5, List.mem_cons, List.not_mem_nil, or_false] at hp
      subst hp
      exact f_neqNil 27 (.inr rfl) 23 t30
    · refine ⟨b', o', true, fun T t30 t40 t41 p hp => ?_⟩
      simp only [facts5, List.mem_cons, List.not_mem_nil, or_false] at hp
      rcases hp with rfl | rfl | rfl | rfl | rfl | rfl
      · exact f_neqSome 27 (.inr rfl) 23 _ _ t30
      · exact f_nil 23 _ _ t30
      · exact f_field 43 23 0 51 (by omega) _ _ t30 (t40 0 (by omega))
      · exact f_field 43 23 4 55 (by omega) _ _ t30 (t40 4 (by omega))
      · exact f_loadStr 51 _ _ _ (t41 0 · (by omega)) j0
      · exact f_loadStr 55 _ _ _ (t41 4 · (by omega)) j4
  obtain ⟨b0, o0, x, hx⟩ := hx
  obtain ⟨b4, o4, y, hy⟩ := hy
  obtain ⟨b5, o5, z, hz⟩ := hz
  refine ⟨p0, p4, p5, b0, o0, b4, o4, b5, o5, x, y, z, fun T hT p hp => ?_⟩
  have t2 : ∀ j v, j < 7 → (T (20 + j) v ↔ v = .pointer (some ⟨b, o + j, none⟩)) := fun j v hj => by
    rw [hT (20 + j) (by omega) v]; unfold tabE
    rw [if_neg (by omega), if_neg (by omega), if_neg (by omega), if_pos (by omega), Nat.add_sub_cancel_left]
  have t4 : ∀ j v, j < 10 → (T (40 + j) v ↔ v = .pointer (some ⟨b0, o0 + j, none⟩)) := fun j v hj => by
    rw [hT (40 + j) (by omega) v]; unfold tabE
    rw [if_neg (by omega), if_neg (by omega), if_neg (by omega), if_neg (by omega), if_pos (by omega), Nat.add_sub_cancel_left]
  have t5 : ∀ j v, j < 10 → (T (50 + j) v ↔ v = .pointer (some ⟨b4, o4 + j, none⟩)) := fun j v hj => by
    rw [hT (50 + j) (by omega) v]; unfold tabE
    rw [if_neg (by omega), if_neg (by omega), if_neg (by omega), if_neg (by omega), if_neg (by omega), if_pos (by omega), Nat.add_sub_cancel_left]
  have t6 : ∀ j v, j < 10 → (T (60 + j) v ↔ v = .pointer (some ⟨b5, o5 + j, none⟩)) := fun j v hj => by
    rw [hT (60 + j) (by omega) v]; unfold tabE
    rw [if_neg (by omega), if_neg (by omega), if_neg (by omega), if_neg (by omega), if_neg (by omega), if_neg (by omega), Nat.add_sub_cancel_left]
  have t30 : ∀ v, T 30 v ↔ v = .pointer p0 := fun v => hT 30 (by omega) v
  have t31 : ∀ v, T 31 v ↔ v = .pointer p4 := fun v => hT 31 (by omega) v
  have t32 : ∀ v, T 32 v ↔ v = .pointer p5 := fun v => hT 32 (by omega) v
  rcases List.mem_append.1 hp with hp | hp
  · simp only [factsElem, List.mem_cons, List.not_mem_nil, or_false] at hp
    rcases hp with rfl | rfl | rfl | rfl | rfl | rfl | rfl | rfl | rfl | rfl | rfl
    · exact f_lenStr
    · exact f_gtr
    · exact f_add
    · exact f_field 29 11 0 11 (by omega) b o (fun v => (t2 0 v (by omega)).1) ((t2 0 _ (by omega)).2 rfl)
    · exact f_field 29 11 4 15 (by omega) b o (fun v => (t2 0 v (by omega)).1) ((t2 4 _ (by omega)).2 rfl)
    · exact f_field 29 11 5 16 (by omega) b o (fun v => (t2 0 v (by omega)).1) ((t2 5 _ (by omega)).2 rfl)
    · exact f_field 29 11 6 17 (by omega) b o (fun v => (t2 0 v (by omega)).1) ((t2 6 _ (by omega)).2 rfl)
    · exact f_loadPtr 25 (.inl rfl) 11 21 b o p0 (fun v => (t2 0 v (by omega)).1) h0 ((t30 _).2 rfl)
    · exact f_loadPtr 27 (.inr rfl) 15 22 b (o + 4) p4 (fun v => (t2 4 v (by omega)).1) h4 ((t31 _).2 rfl)
    · exact f_loadPtr 27 (.inr rfl) 16 23 b (o + 5) p5 (fun v => (t2 5 v (by omega)).1) h5 ((t32 _).2 rfl)
    · exact f_loadStr 17 b (o + 6) s6 (fun v => (t2 6 v (by omega)).1) h6
  rcases List.mem_append.1 hp with hp | hp
  · exact hx T (fun v => (t30 v).1) (fun j hj => (t4 j _ hj).2 rfl) (fun j v hj => (t4 j v hj).1) p hp
  rcases List.mem_append.1 hp with hp | hp
  · exact hy T (fun v => (t31 v).1) (fun j hj => (t5 j _ hj).2 rfl) (fun j v hj => (t5 j v hj).1) p hp
  · exact hz T (fun v => (t32 v).1) (fun j hj => (t6 j _ hj).2 rfl) (fun j v hj => (t6 j v hj).1) p hp
end Go.Proofs.Qxb6608969aDoor
