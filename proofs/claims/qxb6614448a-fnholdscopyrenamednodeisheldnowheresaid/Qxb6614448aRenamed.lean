import Derived.Test.Qxb6614448aOpen
import Derived.Test.Qxb6614448aW6
namespace Go.Proofs.Qxb6614448a
open Go Go.ChangeShapes Go.WideShapes Go.ChangeAt Go.WideMaps Go.WideElems Go.RowKit Go.Deep
open Go.ChangeMaps (open_string shut_string)

set_option maxHeartbeats 1000000 in
set_option maxRecDepth 100000 in
theorem renamed_lifted (os : Os) (started : os.Started) (H : Type) (enc : TypeId × Value → H) :
    ReturnsInHanded {} Try.checked os 4 .any (Rows.fnHoldsCopyRenamedNodeIsHeldNowhereSpec.pre6 enc Try.prog Try.f4 Rows.fnHoldsCopyRenamedNodeIsHeldNowhereRow.domain false) (Rows.fnHoldsCopyRenamedNodeIsHeldNowhereSpec.post enc Try.prog Try.f4 false true false false) := by
  refine returnsInHanded_of_change (C := Try.checked) own started (by kernel_rfl) Try.func4
    (ChangeSpec.witness6 (enc := enc) (C := Try.checked) false ⟨#[], #[.slice none 0 0, .string ⟨#[]⟩, .string ⟨#[]⟩], []⟩ 8 (by kernel_rfl) (by kernel_rfl) (by kernel_rfl) (by kernel_rfl)) ?_
  intro W base args ds gs before hval0 hW _ _
  have hval : ∀ (j : Nat) t v, Try.f4.params[j]? = some t → args[j]? = some v → Value.okWide Try.prog W .any base t v := hval0
  have hW' := hW
  obtain ⟨p, q, hA0, hV, rfl, hfz, hnd⟩ := hW
  have hA : DataW.TrodAll enc Try.prog W 0 (fun _ => true) true Try.f4.params.toList args.toList ds p := hA0
  rw [Try.params4] at hA hval
  obtain ⟨v0, v1, v2, d0, d1, d2, p0, p1, p2, rfl, rfl, rfl, h0, h1, h2⟩ := trodAll_three hA
  obtain ⟨rfl, rfl⟩ := trodVars_none hV
  obtain ⟨a0, n0, c0, rfl⟩ := okWide_slice Try.underlying22 (hval 0 22 v0 rfl rfl)
  obtain ⟨nd, rfl, rfl, rfl, wn⟩ := open_string Try.underlying9 (hval 1 9 v1 rfl rfl) h1
  obtain ⟨ot, rfl, rfl, rfl, wo⟩ := open_string Try.underlying9 (hval 2 9 v2 rfl rfl) h2
  have h0k := h0
  obtain ⟨f0, h0⟩ := h0
  obtain ⟨ao, na, ca, s, pm, f, e0, hla, ha⟩ := rows_of (by simpa [Value.cells] using h0)
  clear hA0 hval0 hA
  injection e0 with x1 x2 x3
  subst x1 x2 x3
  refine (renamed_any _ _ _ s pm f nd ot W ha).mono fun e W' ⟨he, hbl⟩ => ?_
  subst he
  have hlt : ∀ x ∈ p0, x.block < W.heap.size := fun x hx => by simpa using hW'.lt x (by simpa using hx)
  refine ⟨_, rfl, _, _, _, [], p0 ++ ([] ++ []), [], hW', ?_, ?_, ?_, hbl.frame _, fun h => by cases h⟩
  · exact trodAll_mk1 (shut_bool Try.underlying4 _)
  · exact trodAll_mk3 (Below.trod laidOut (by kernel_rfl) (of_decide_eq_true (by kernel_rfl)) h0k hbl (fun x hx => hlt x hx)) (shut_string Try.underlying9 wn) (shut_string Try.underlying9 wo)
  · rfl

theorem renamed_holds : Rows.FnHoldsCopyRenamedNodeIsHeldNowhereSaid :=
  OpenClaim.holds_of_wide 4 Try.f4 rfl rfl rfl rfl rfl rfl rfl ⟨rfl, rfl, rfl, rfl, rfl⟩ rfl rfl rfl rfl rfl (by kernel_rfl) Try.func4 (by kernel_rfl)
    (of_decide_eq_true (by kernel_rfl)) (by unfold Func.isWrapper; first | (rw [if_pos (by decide +kernel)]; kernel_rfl) | (rw [if_neg (by decide +kernel)]; exact ⟨rfl, rfl⟩))
    (fun os started H enc _ => renamed_lifted os started H enc)
end Go.Proofs.Qxb6614448a
