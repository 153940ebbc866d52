import Derived.Test.Qxb6608969aDoorRows
import Derived.Test.Qxb6608969aDoorTie
import Derived.Test.Qxb6608969aDoorCards
import Derived.Test.Qxb6608969aDoorW13
import Derived.Test.Qxb6608969aDoorOpen
import Derived.ProofKit
import Derived.LaidMore
import Derived.OpenShut
import Derived.Stop.Joined
import Derived.Stop.LaidErr
namespace Go.Proofs.Qxb6608969aDoor
open Go.ChangeShapes Go.WideShapes Go.ChangeAt Go.WideMaps Go.WideElems Go.RowKit

theorem own : ownKnob Tryd.prog.godebug = none := by kernel_rfl
theorem laidOut : laidOutB Tryd.prog = true := by kernel_rfl
/-- The one listed variable's name, off the given row. -/
def errName : String := Rows.fnRowsCommitTsJoinsAtAnyCutSpec.vars.headD ""
theorem gErr : Tryd.prog.globalNamed errName = some 0 := by kernel_rfl
theorem tErr : (Tryd.prog.globals[0]?).map (·.type) = some 31 := by kernel_rfl

/-- What the row lists. -/
def laid1 : List (String × DataW Unit) := Rows.fnRowsCommitTsJoinsAtAnyCutRow.laid

theorem door_met (os : Os) (args : Array Value) : laidMetH Tryd.prog laid1 ((World.doorLaid Tryd.prog 400 os).forCall (fun _ _ => 0) ⟨#[], args, []⟩).memory :=
  laidMetH_of_parts3 (fuel := 8) (laidMet_of_run' 8 (by kernel_rfl) (by kernel_rfl)) (by kernel_rfl) (by kernel_rfl)

/-- THE LISTED VARIABLE HOLDS AN INTERFACE VALUE THAT IS NOT NIL. -/
theorem err_of_laid {W : World} (h : laidMetH Tryd.prog laid1 W) : ∃ u v, W.var? Tryd.prog errName = some #[.iface u v] := by
  rw [MakeChecks.laidMetH_plain _ _ _ (by kernel_rfl)] at h
  obtain ⟨ps, ⟨g0, t0, cs0, f0, p0, q0, hg0, ht0, hv0, hd0, _, _⟩, _, _⟩ := h
  obtain rfl := Option.some.inj (gErr.symm.trans hg0)
  obtain rfl := Option.some.inj (tErr.symm.trans ht0)
  obtain ⟨l0⟩ := cs0
  cases f0 with
  | zero => simp [DataW.trod] at hd0
  | succ n =>
    unfold DataW.trod at hd0
    rw [Tryd.underlying31] at hd0
    simp only [Rows.laid_example_com_rowtide_rowtide_internal_storage_errNoRowChange] at hd0
    split at hd0 <;> simp_all
    exact ⟨_, _, hv0⟩

/-- A package-level variable behind a call that has turned nothing. -/
theorem var_below {W W' : World} {n : String} {cs : Array Value} {g : Nat} (hg : Tryd.prog.globalNamed n = some g) (h : W.var? Tryd.prog n = some cs) (hb : Below W.heap.size W W') : W'.var? Tryd.prog n = some cs := by
  unfold World.var? at h ⊢
  simp only [hg, Option.bind_some] at h ⊢
  have hlt : g < W.heap.size := by
    rcases Nat.lt_or_ge g W.heap.size with h' | h'
    · exact h'
    · simp [Array.getElem?_eq_none h'] at h
  rw [hb.block g hlt]
  exact h

set_option maxHeartbeats 1000000 in
set_option maxRecDepth 100000 in
theorem joins_lifted (os : Os) (started : os.Started) (H : Type) (enc : TypeId × Value → H) :
    ReturnsInHanded {} Tryd.checked os 3 .any (fun w args => (Rows.fnRowsCommitTsJoinsAtAnyCutSpec.pre enc Tryd.prog Tryd.f3 [] false w args ∧ laidMetH Tryd.prog laid1 w) ∧ sizedMet enc Tryd.prog Tryd.f3 (OpenSpec.ofChange Rows.fnRowsCommitTsJoinsAtAnyCutSpec) false w args)
      (Rows.fnRowsCommitTsJoinsAtAnyCutSpec.post enc Tryd.prog Tryd.f3 false true false false) := by
  refine returnsInHanded_of_change_and (C := Tryd.checked) (X := fun w _ => laidMetH Tryd.prog laid1 w) (fun _ _ _ hh h => h.of_heap hh) own started (by kernel_rfl) Tryd.func3
    (ChangeSpec.witness_shaped (enc := enc) (C := Tryd.checked) (os := os) (X := fun w _ => laidMetH Tryd.prog laid1 w) false (World.doorLaid Tryd.prog 400 os) #[.slice none 0 0, .slice none 0 0] 8 rfl (World.shaped_of_RefB (by kernel_rfl) (by kernel_rfl)) (by kernel_rfl) (by kernel_rfl) (by kernel_rfl) (door_met os _)) ?_
  intro W base args ds gs before hval0 hW _ _ hL _
  have hval : ∀ (j : Nat) t v, Tryd.f3.params[j]? = some t → args[j]? = some v → Value.okWide Tryd.prog W .any base t v := hval0
  have hW' := hW
  obtain ⟨p, q, hA0, hV0, rfl, hfz, hnd⟩ := hW
  have hA : DataW.TrodAll enc Tryd.prog W 0 (fun _ => true) true Tryd.f3.params.toList args.toList ds p := hA0
  have hV : DataW.TrodVars enc Tryd.prog W (fun _ => true) [errName] gs q := hV0
  rw [Tryd.params3] at hA hval
  obtain ⟨v0, v1, d0, d1, p0, p1, rfl, rfl, rfl, h0, h1⟩ := trodAll_two hA
  obtain ⟨u, v, hv⟩ := err_of_laid hL
  obtain ⟨rfl, rfl⟩ := hV.unique (vars_read1 enc gErr tErr Tryd.underlying31 hv trivial _)
  have hg : W.cell? ⟨0, 0, none⟩ = some (.iface u v) := by simpa using World.var?_cell gErr hv 0
  obtain ⟨a0, n0, c0, rfl⟩ := okWide_slice Tryd.underlying22 (hval 0 22 v0 rfl rfl)
  obtain ⟨a1, n1, c1, rfl⟩ := okWide_slice Tryd.underlying22 (hval 1 22 v1 rfl rfl)
  have h0k := h0
  have h1k := h1
  obtain ⟨f0, h0⟩ := h0
  obtain ⟨f1, h1⟩ := h1
  obtain ⟨ao, la, ca, e0, hla, hna, ha⟩ := evs_of (by simpa [Value.cells] using h0)
  obtain ⟨bo, lb, cb, e1, hlb, hnb, hb⟩ := evs_of (by simpa [Value.cells] using h1)
  clear hA0 hV0 hval0 hA
  injection e0 with x1 x2 x3
  injection e1 with y1 y2 y3
  subst x1 x2 x3 y1 y2 y3
  refine (joins_any _ _ la lb _ _ u v W hla hlb hna hnb ha hb hg).mono fun e W' ⟨he, hbl⟩ => ?_
  subst he
  have hlt : ∀ x ∈ p0 ++ p1 ++ [.cell 0 0], x.block < W.heap.size := fun x hx => by simpa using hW'.lt x (by simpa using hx)
  refine ⟨_, rfl, _, _, _, [], p0 ++ p1, [.cell 0 0], hW', ?_, ?_, ?_, hbl.frame _, fun h => by cases h⟩
  · exact trodAll_mk1 (shut_bool Tryd.underlying4 _)
  · exact trodAll_mk2 (Below.trod laidOut (by kernel_rfl) (of_decide_eq_true (by kernel_rfl)) h0k hbl (fun x hx => hlt x (by simp [hx]))) (Below.trod laidOut (by kernel_rfl) (of_decide_eq_true (by kernel_rfl)) h1k hbl (fun x hx => hlt x (by simp [hx])))
  · exact vars_read1 enc gErr tErr Tryd.underlying31 (var_below gErr hv hbl) trivial _

theorem joins_holds : Rows.FnRowsCommitTsJoinsAtAnyCutSaid :=
  OpenClaim.holds_of_wide 3 Tryd.f3 rfl rfl rfl rfl rfl rfl rfl ⟨rfl, rfl, rfl, rfl, rfl⟩ rfl rfl rfl rfl rfl (by kernel_rfl) Tryd.func3 (by kernel_rfl)
    (of_decide_eq_true (by kernel_rfl)) (by unfold Func.isWrapper; first | (rw [if_pos (by decide +kernel)]; kernel_rfl) | (rw [if_neg (by decide +kernel)]; exact ⟨rfl, rfl⟩))
    (fun os started H enc _ => joins_lifted os started H enc)

/-- THE TIED CARD. -/
theorem joins_card : Rows.FnRowsCommitTsJoinsAtAnyCutCardSaid :=
  Claim7.holds_tied_plain_at .later [] [.called] true (true, "8a221e292476a393e32f6ca7da23c35540c13f2214457160f138b3737bd5289b") false
    joins_holds (fun _ h => by cases h) (by kernel_rfl) (fun _ h => by cases h) fnRowsCommitTsJoinsAtAnyCut_row_tie rfl ⟨rfl, rfl⟩ (by kernel_rfl) rfl
    (fun f fn hf hfn => by
      obtain rfl : f = 3 := Option.some.inj ((show Tryd.prog.funcNamed Rows.fnRowsCommitTsJoinsAtAnyCutRow.func = some 3 by kernel_rfl).symm.trans hf) |>.symm
      obtain rfl : fn = Tryd.f3 := (Option.some.inj (Tryd.func3.symm.trans hfn)).symm
      exact ⟨by kernel_rfl, fun j t ht => by
        rw [Tryd.params3] at ht
        have hm : t ∈ [22, 22] := by simpa using Array.mem_of_getElem? ht
        have hall : ([22, 22].all fun u => !Tryd.prog.wantsStandIn u) = true := by kernel_rfl
        exact (show Tryd.prog.wantsStandIn t = false by simpa using List.all_eq_true.1 hall t hm)⟩)
    (by kernel_rfl)
end Go.Proofs.Qxb6608969aDoor
