import Derived.Test.Qxb6614448aOpen
import Derived.Test.Qxb6614448aW8
namespace Go.Proofs.Qxb6614448a
open Go Go.ChangeShapes Go.WideShapes Go.ChangeAt Go.WideMaps Go.WideElems Go.RowKit Go.Deep
open Go.ChangeMaps (open_string shut_string)

set_option maxHeartbeats 1000000 in
set_option maxRecDepth 100000 in
theorem place_lifted (os : Os) (started : os.Started) (H : Type) (enc : TypeId × Value → H) :
    ReturnsInHanded {} Try.checked os 3 .any (Rows.fnHoldsCopyIsAnyPlaceOfTheNodeSpec.pre6 enc Try.prog Try.f3 Rows.fnHoldsCopyIsAnyPlaceOfTheNodeRow.domain false) (Rows.fnHoldsCopyIsAnyPlaceOfTheNodeSpec.post enc Try.prog Try.f3 false true false false) := by
  refine returnsInHanded_of_change (C := Try.checked) own started (by kernel_rfl) Try.func3
    (ChangeSpec.witness6 (enc := enc) (C := Try.checked) false ⟨#[], #[.slice none 0 0, .string ⟨#[]⟩, .int .i64 0, .int .i64 0, .int .i64 0], []⟩ 8 (by kernel_rfl) (by kernel_rfl) (by kernel_rfl) (by kernel_rfl)) ?_
  intro W base args ds gs before hval0 hW _ _
  have hval : ∀ (j : Nat) t v, Try.f3.params[j]? = some t → args[j]? = some v → Value.okWide Try.prog W .any base t v := hval0
  have hW' := hW
  obtain ⟨p, q, hA0, hV, rfl, hfz, hnd⟩ := hW
  have hA : DataW.TrodAll enc Try.prog W 0 (fun _ => true) true Try.f3.params.toList args.toList ds p := hA0
  rw [Try.params3] at hA hval
  obtain ⟨v0, vs, d0, ds', p0, q0, hargs, rfl, rfl, h0, hr0⟩ := trodAll_cons hA
  obtain ⟨v1, v2, v3, v4, d1, d2, d3, d4, p1, p2, p3, p4, hvs, rfl, rfl, h1, h2, h3, h4⟩ := trodAll_four (args := vs.toArray) (by simpa using hr0)
  obtain rfl : args = #[v0, v1, v2, v3, v4] := by cases args; simp_all
  obtain ⟨rfl, rfl⟩ := trodVars_none hV
  obtain ⟨a0, n0, c0, rfl⟩ := okWide_slice Try.underlying22 (hval 0 22 v0 rfl rfl)
  obtain ⟨nd, rfl, rfl, rfl, wn⟩ := open_string Try.underlying9 (hval 1 9 v1 rfl rfl) h1
  obtain ⟨cu, rfl, rfl, rfl, w2⟩ := open_int Try.underlying3 (hval 2 3 v2 rfl rfl) h2
  obtain ⟨pos, rfl, rfl, rfl, w3⟩ := open_int Try.underlying3 (hval 3 3 v3 rfl rfl) h3
  obtain ⟨fld, rfl, rfl, rfl, w4⟩ := open_int Try.underlying3 (hval 4 3 v4 rfl rfl) h4
  have h0k := h0
  obtain ⟨f0, h0⟩ := h0
  obtain ⟨ao, na, ca, s, pm, f, e0, hla, ha⟩ := rows_of (by simpa [Value.cells] using h0)
  clear hA0 hval0 hA
  injection e0 with x1 x2 x3
  subst x1 x2 x3
  refine (place_any _ _ _ s pm f nd cu pos fld W ha).mono fun e W' ⟨he, hbl⟩ => ?_
  subst he
  have hlt : ∀ x ∈ p0, x.block < W.heap.size := fun x hx => by simpa using hW'.lt x (by simpa using hx)
  refine ⟨_, rfl, _, _, _, [], p0 ++ ([] ++ ([] ++ ([] ++ []))), [], hW', ?_, ?_, ?_, hbl.frame _, fun h => by cases h⟩
  · exact trodAll_mk1 (shut_bool Try.underlying4 _)
  · exact trodAll_cons_mk (Below.trod laidOut (by kernel_rfl) (of_decide_eq_true (by kernel_rfl)) h0k hbl (fun x hx => hlt x hx)) (trodAll_mk4 (shut_string Try.underlying9 wn) (shut_int Try.underlying3 w2) (shut_int Try.underlying3 w3) (shut_int Try.underlying3 w4))
  · rfl

theorem place_holds : Rows.FnHoldsCopyIsAnyPlaceOfTheNodeSaid :=
  OpenClaim.holds_of_wide 3 Try.f3 rfl rfl rfl rfl rfl rfl rfl ⟨rfl, rfl, rfl, rfl, rfl⟩ rfl rfl rfl rfl rfl (by kernel_rfl) Try.func3 (by kernel_rfl)
    (of_decide_eq_true (by kernel_rfl)) (by unfold Func.isWrapper; first | (rw [if_pos (by decide +kernel)]; kernel_rfl) | (rw [if_neg (by decide +kernel)]; exact ⟨rfl, rfl⟩))
    (fun os started H enc _ => place_lifted os started H enc)
end Go.Proofs.Qxb6614448a
