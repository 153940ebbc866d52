import Derived.Test.Qxb6608969aDoorW12
namespace Go.Proofs.Qxb6608969aDoor
open Go Go.RowKit

/-! ### The plain law: no Go in sight -/
theorem ans_isSome (l : List (Option (ByteArray × Int))) : (ans l).isSome = (!l.isEmpty && l.all okRow) := by
  unfold ans
  cases h : l.all okRow
  · simp
  · match l, h with
    | [], _ => rfl
    | none :: r, h => simp [okRow] at h
    | some (op, ts) :: r, _ => rfl

theorem isSome_some {l : List (Option (ByteArray × Int))} {t : Int} (h : ans l = some t) : l ≠ [] ∧ l.all okRow = true := by
  have := ans_isSome l
  rw [h] at this
  simp at this
  exact ⟨this.1, by simpa using this.2⟩

theorem isSome_none {l : List (Option (ByteArray × Int))} (h : ans l = none) : l = [] ∨ l.all okRow = false := by
  have := ans_isSome l
  rw [h] at this
  cases hl : l.all okRow
  · exact .inr rfl
  · rw [hl] at this
    simp at this
    exact .inl this

theorem len_of_some {l : List (Option (ByteArray × Int))} {t : Int} (h : ans l = some t) : l.length ≠ 0 := fun e => (isSome_some h).1 (List.eq_nil_of_length_eq_zero e)

/-- A list is accepted at a cut just as its parts are. -/
theorem join_law (a b : List (Option (ByteArray × Int))) : (ans (a ++ b)).isSome = ((a.isEmpty || (ans a).isSome) && (b.isEmpty || (ans b).isSome) && !(a ++ b).isEmpty) := by
  simp only [ans_isSome]
  cases a with
  | nil => cases b <;> simp
  | cons x r => cases b <;> simp [Bool.and_assoc]

theorem join_law' (a b : List (Option (ByteArray × Int))) : (ans (a ++ b)).isSome = ((decide (a.length = 0) || (ans a).isSome) && (decide (b.length = 0) || (ans b).isSome) && decide (0 < (a ++ b).length)) := by
  rw [join_law]
  have h : ∀ l : List (Option (ByteArray × Int)), l.isEmpty = decide (l.length = 0) := fun l => by cases l <;> simp
  have h2 : (!(a ++ b).isEmpty) = decide (0 < (a ++ b).length) := by cases (a ++ b) <;> simp
  rw [h a, h b, h2]

/-- zzAnswerShape at rowsCommitTs' own answer: true. -/
theorem shape_any (N : Nat) (ao : Option Addr) (l : List (Option (ByteArray × Int))) (cap : Nat) (ts : Int) (acc : Bool) (w : World) (hin : EvsIn N w ao l) (h : (ans l = none ∧ ts = 0 ∧ acc = false) ∨ (ans l = some ts ∧ acc = true)) :
    Calls Tryd.prog 9 #[.slice ao l.length cap, .int .u64 ts, .bool acc] w (RT w) := by
  rcases h with ⟨_, rfl, rfl⟩ | ⟨h, rfl⟩
  · exact shape_no _ w
  · exact shape_yes N ao l cap ts w hin h
end Go.Proofs.Qxb6608969aDoor
