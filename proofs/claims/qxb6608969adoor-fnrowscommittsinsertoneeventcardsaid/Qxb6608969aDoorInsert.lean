import Derived.Test.Qxb6608969aDoorJoins
import Derived.Test.Qxb6608969aDoorW14
namespace Go.Proofs.Qxb6608969aDoor
open Go.ChangeShapes Go.WideShapes Go.ChangeAt Go.WideMaps Go.WideElems Go.RowKit

set_option maxHeartbeats 1000000 in
set_option maxRecDepth 100000 in
theorem insert_lifted (os : Os) (started : os.Started) (H : Type) (enc : TypeId × Value → H) :
    ReturnsInHanded {} Tryd.checked os 4 .any (fun w args => (Rows.fnRowsCommitTsInsertOneEventSpec.pre enc Tryd.prog Tryd.f4 [] false w args ∧ laidMetH Tryd.prog laid1 w) ∧ sizedMet enc Tryd.prog Tryd.f4 (OpenSpec.ofChange Rows.fnRowsCommitTsInsertOneEventSpec) false w args)
      (Rows.fnRowsCommitTsInsertOneEventSpec.post enc Tryd.prog Tryd.f4 false true false false) := by
  refine returnsInHanded_of_change_and (C := Tryd.checked) (X := fun w _ => laidMetH Tryd.prog laid1 w) (fun _ _ _ hh h => h.of_heap hh) own started (by kernel_rfl) Tryd.func4
    (ChangeSpec.witness_shaped (enc := enc) (C := Tryd.checked) (os := os) (X := fun w _ => laidMetH Tryd.prog laid1 w) false (World.doorLaid Tryd.prog 400 os)
      #[.slice none 0 0, .agg #[.pointer none, .int .u64 0, .bool false, .bool false, .pointer none, .pointer none, .string ⟨#[]⟩], .int .i64 0] 8 rfl (World.shaped_of_RefB (by kernel_rfl) (by kernel_rfl)) (by kernel_rfl) (by kernel_rfl) (by kernel_rfl) (door_met os _)) ?_
  intro W base args ds gs before hval0 hW _ _ hL _
  have hval : ∀ (j : Nat) t v, Tryd.f4.params[j]? = some t → args[j]? = some v → Value.okWide Tryd.prog W .any base t v := hval0
  have hW' := hW
  obtain ⟨p, q, hA0, hV0, rfl, hfz, hnd⟩ := hW
  have hA : DataW.TrodAll enc Tryd.prog W 0 (fun _ => true) true Tryd.f4.params.toList args.toList ds p := hA0
  have hV : DataW.TrodVars enc Tryd.prog W (fun _ => true) [errName] gs q := hV0
  rw [Tryd.params4] at hA hval
  obtain ⟨v0, v1, v2, d0, d1, d2, p0, p1, p2, rfl, rfl, rfl, h0, h1, h2⟩ := trodAll_three hA
  obtain ⟨u, v, hv⟩ := err_of_laid hL
  obtain ⟨rfl, rfl⟩ := hV.unique (vars_read1 enc gErr tErr Tryd.underlying31 hv trivial _)
  have hg : W.cell? ⟨0, 0, none⟩ = some (.iface u v) := by simpa using World.var?_cell gErr hv 0
  obtain ⟨a0, n0, c0, rfl⟩ := okWide_slice Tryd.underlying22 (hval 0 22 v0 rfl rfl)
  obtain ⟨cs, rfl, hcs⟩ := okWide_struct Tryd.underlying29 (hval 1 29 v1 rfl rfl)
  obtain ⟨i, rfl, rfl, rfl, wi⟩ := open_int Tryd.underlying3 (hval 2 3 v2 rfl rfl) h2
  have h0k := h0
  have h1k := h1
  obtain ⟨f0, h0⟩ := h0
  obtain ⟨f1, h1⟩ := h1
  obtain ⟨ao, la, ca, e0, hla, hna, ha⟩ := evs_of (by simpa [Value.cells] using h0)
  obtain ⟨q0, t1, b2, b3, q4, q5, s6, c, e1, k0, k4, k5⟩ := seven_of (cs := cs.toList) (by simpa [Value.cells] using h1)
  obtain rfl : cs = #[.pointer q0, .int .u64 t1, .bool b2, .bool b3, .pointer q4, .pointer q5, .string s6] := by cases cs; simpa using e1
  clear hA0 hV0 hval0 hA
  injection e0 with x1 x2 x3
  subst x1 x2 x3
  refine (insert_any _ la _ q0 t1 b2 b3 q4 q5 s6 c i u v W hla hna ha k0 k4 k5 hg).mono fun e W' ⟨he, hbl⟩ => ?_
  subst he
  have hlt : ∀ x ∈ p0 ++ p1 ++ [.cell 0 0], x.block < W.heap.size := fun x hx => by simpa using hW'.lt x (by simpa using hx)
  refine ⟨_, rfl, _, _, _, [], p0 ++ (p1 ++ []), [.cell 0 0], hW', ?_, ?_, ?_, hbl.frame _, fun h => by cases h⟩
  · exact trodAll_mk1 (shut_bool Tryd.underlying4 _)
  · exact trodAll_mk3 (Below.trod laidOut (by kernel_rfl) (of_decide_eq_true (by kernel_rfl)) h0k hbl (fun x hx => hlt x (by simp [hx]))) (Below.trod laidOut (by kernel_rfl) (of_decide_eq_true (by kernel_rfl)) h1k hbl (fun x hx => hlt x (by simp [hx]))) (shut_int Tryd.underlying3 wi)
  · exact vars_read1 enc gErr tErr Tryd.underlying31 (var_below gErr hv hbl) trivial _

theorem insert_holds : Rows.FnRowsCommitTsInsertOneEventSaid :=
  OpenClaim.holds_of_wide 4 Tryd.f4 rfl rfl rfl rfl rfl rfl rfl ⟨rfl, rfl, rfl, rfl, rfl⟩ rfl rfl rfl rfl rfl (by kernel_rfl) Tryd.func4 (by kernel_rfl)
    (of_decide_eq_true (by kernel_rfl)) (by unfold Func.isWrapper; first | (rw [if_pos (by decide +kernel)]; kernel_rfl) | (rw [if_neg (by decide +kernel)]; exact ⟨rfl, rfl⟩))
    (fun os started H enc _ => insert_lifted os started H enc)

/-- THE TIED CARD. -/
theorem insert_card : Rows.FnRowsCommitTsInsertOneEventCardSaid :=
  Claim7.holds_tied_plain_at .later [] [.called] true (true, "8a221e292476a393e32f6ca7da23c35540c13f2214457160f138b3737bd5289b") false
    insert_holds (fun _ h => by cases h) (by kernel_rfl) (fun _ h => by cases h) fnRowsCommitTsInsertOneEvent_row_tie rfl ⟨rfl, rfl⟩ (by kernel_rfl) rfl
    (fun f fn hf hfn => by
      obtain rfl : f = 4 := Option.some.inj ((show Tryd.prog.funcNamed Rows.fnRowsCommitTsInsertOneEventRow.func = some 4 by kernel_rfl).symm.trans hf) |>.symm
      obtain rfl : fn = Tryd.f4 := (Option.some.inj (Tryd.func4.symm.trans hfn)).symm
      exact ⟨by kernel_rfl, fun j t ht => by
        rw [Tryd.params4] at ht
        have hm : t ∈ [22, 29, 3] := by simpa using Array.mem_of_getElem? ht
        have hall : ([22, 29, 3].all fun u => !Tryd.prog.wantsStandIn u) = true := by kernel_rfl
        exact (show Tryd.prog.wantsStandIn t = false by simpa using List.all_eq_true.1 hall t hm)⟩)
    (by kernel_rfl)
end Go.Proofs.Qxb6608969aDoor
