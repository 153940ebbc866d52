import Derived.Test.Qxb6613740aDoorOpen
import Derived.Test.Qxb6613740aDoorW5
import Derived.Lay
namespace Go.Proofs.Qxb6613740aDoor
open Go Go.ChangeShapes Go.WideShapes Go.ChangeAt Go.WideMaps Go.WideElems Go.RowKit Go.Deep

/-- What the row lists. -/
def laid1 : List (String × DataW Unit) := Rows.fnAddrKeyOrdersAddressesAsTheirWireBytesRow.laid

theorem door_met (os : Os) (args : Array Value) : laidMetH Tryd.prog laid1 ((World.laidAll Tryd.prog os laid1).forCall (fun _ _ => 0) ⟨#[], args, []⟩).memory := by
  rw [MakeChecks.laidMetH_plain _ _ _ (by kernel_rfl)]
  exact laidMet_laidAll _ (by kernel_rfl) (by kernel_rfl)

theorem env_of_laid {W : World} (h : laidMetH Tryd.prog laid1 W) : ∃ p, W.cell? ⟨1, 0, none⟩ = some (.pointer (some p)) := by
  rw [MakeChecks.laidMetH_plain _ _ _ (by kernel_rfl)] at h
  exact z4_of (r := laid1.tail) h

def zero4 : Value := .agg #[.int .u8 0, .int .u8 0, .int .u8 0, .int .u8 0]

set_option maxHeartbeats 1000000 in
set_option maxRecDepth 100000 in
theorem orders_lifted (os : Os) (started : os.Started) (H : Type) (enc : TypeId × Value → H) :
    ReturnsInHanded {} Tryd.checked os 4 .any (fun w args => (Rows.fnAddrKeyOrdersAddressesAsTheirWireBytesSpec.pre enc Tryd.prog Tryd.f4 [] false w args ∧ laidMetH Tryd.prog laid1 w) ∧ sizedMet enc Tryd.prog Tryd.f4 (OpenSpec.ofChange Rows.fnAddrKeyOrdersAddressesAsTheirWireBytesSpec) false w args)
      (Rows.fnAddrKeyOrdersAddressesAsTheirWireBytesSpec.post enc Tryd.prog Tryd.f4 false true false false) := by
  refine returnsInHanded_of_change_and (C := Tryd.checked) (X := fun w _ => laidMetH Tryd.prog laid1 w) (fun _ _ _ hh h => h.of_heap hh) own started (by kernel_rfl) Tryd.func4
    (ChangeSpec.witness_shaped (enc := enc) (C := Tryd.checked) (os := os) (X := fun w _ => laidMetH Tryd.prog laid1 w) false (World.laidAll Tryd.prog os laid1) #[zero4, .int .u16 0, zero4, .int .u16 0] 8 (World.laidAll_os _ _ _) (World.shaped_of_ZipB (by kernel_rfl) (by kernel_rfl)) (by kernel_rfl) (by kernel_rfl) (by kernel_rfl) (door_met os _)) ?_
  intro W base args ds gs before hval0 hW _ _ hL _
  have hval : ∀ (j : Nat) t v, Tryd.f4.params[j]? = some t → args[j]? = some v → Value.okWide Tryd.prog W .any base t v := hval0
  have hW' := hW
  obtain ⟨p, q, hA0, hV0, rfl, hfz, hnd⟩ := hW
  have hA : DataW.TrodAll enc Tryd.prog W 0 (fun _ => true) true Tryd.f4.params.toList args.toList ds p := hA0
  have hV : DataW.TrodVars enc Tryd.prog W (fun _ => true) [] gs q := hV0
  rw [Tryd.params4] at hA hval
  obtain ⟨v0, v1, v2, v3, d0, d1, d2, d3, p0, p1, p2, p3, rfl, rfl, rfl, h0, h1, h2, h3⟩ := trodAll_four hA
  obtain ⟨rfl, rfl⟩ := trodVars_none hV
  obtain ⟨pz, hz⟩ := env_of_laid hL
  obtain ⟨s, rfl, rfl, rfl, ws⟩ := open_int Tryd.underlying32 (hval 1 32 v1 rfl rfl) h1
  obtain ⟨t, rfl, rfl, rfl, wt⟩ := open_int Tryd.underlying32 (hval 3 32 v3 rfl rfl) h3
  have h0k := h0
  have h2k := h2
  obtain ⟨f0, h0⟩ := h0
  obtain ⟨f2, h2⟩ := h2
  obtain ⟨a, rfl, ra⟩ := arr_of (hval 0 39 v0 rfl rfl) h0
  obtain ⟨b, rfl, rb⟩ := arr_of (hval 2 39 v2 rfl rfl) h2
  have bs := bounds_u16 ws
  have bt := bounds_u16 wt
  clear hA0 hV0 hval0 hA
  refine (orders_any a b s t pz W ra rb ⟨bs.1, by omega⟩ ⟨bt.1, by omega⟩ hz).mono fun e W' ⟨he, hbl⟩ => ?_
  subst he
  have hlt : ∀ x ∈ p0 ++ ([] ++ (p2 ++ [])), x.block < W.heap.size := fun x hx => by simpa using hW'.lt x (by simpa using hx)
  refine ⟨_, rfl, _, _, _, [], p0 ++ ([] ++ (p2 ++ [])), [], hW', ?_, ?_, ?_, hbl.frame _, fun h => by cases h⟩
  · exact trodAll_mk1 (shut_bool Tryd.underlying4 _)
  · exact trodAll_mk4 (Below.trod laidOut (by kernel_rfl) (of_decide_eq_true (by kernel_rfl)) h0k hbl (fun x hx => hlt x (by simp [hx]))) (shut_int Tryd.underlying32 ws) (Below.trod laidOut (by kernel_rfl) (of_decide_eq_true (by kernel_rfl)) h2k hbl (fun x hx => hlt x (by simp [hx]))) (shut_int Tryd.underlying32 wt)
  · rfl

theorem orders_holds : Rows.FnAddrKeyOrdersAddressesAsTheirWireBytesSaid :=
  OpenClaim.holds_of_wide 4 Tryd.f4 rfl rfl rfl rfl rfl rfl rfl ⟨rfl, rfl, rfl, rfl, rfl⟩ rfl rfl rfl rfl rfl (by kernel_rfl) Tryd.func4 (by kernel_rfl)
    (of_decide_eq_true (by kernel_rfl)) (by unfold Func.isWrapper; first | (rw [if_pos (by decide +kernel)]; kernel_rfl) | (rw [if_neg (by decide +kernel)]; exact ⟨rfl, rfl⟩))
    (fun os started H enc _ => orders_lifted os started H enc)

/-- THE TIED CARD. -/
theorem orders_card : Rows.FnAddrKeyOrdersAddressesAsTheirWireBytesCardSaid :=
  Claim7.holds_tied_plain_at .later [] [.called, .zero] true (true, "0e81bab25121613c6aff9837599013f6ce19cf163bf341fc41749c2e45c0f861") false
    orders_holds (fun _ h => by cases h) (by kernel_rfl) (fun _ h => by cases h) fnAddrKeyOrdersAddressesAsTheirWireBytes_row_tie rfl ⟨rfl, rfl⟩ (by kernel_rfl) rfl
    (fun f fn hf hfn => by
      obtain rfl : f = 4 := Option.some.inj ((show Tryd.prog.funcNamed Rows.fnAddrKeyOrdersAddressesAsTheirWireBytesRow.func = some 4 by kernel_rfl).symm.trans hf) |>.symm
      obtain rfl : fn = Tryd.f4 := (Option.some.inj (Tryd.func4.symm.trans hfn)).symm
      exact ⟨by kernel_rfl, fun j t ht => by
        rw [Tryd.params4] at ht
        have hm : t ∈ [39, 32, 39, 32] := by simpa using Array.mem_of_getElem? ht
        have hall : ([39, 32, 39, 32].all fun u => !Tryd.prog.wantsStandIn u) = true := by kernel_rfl
        exact (show Tryd.prog.wantsStandIn t = false by simpa using List.all_eq_true.1 hall t hm)⟩)
    (by kernel_rfl)
end Go.Proofs.Qxb6613740aDoor
