import Derived.Test.Qxb6613740aDoorOpen
import Derived.Test.Qxb6613740aDoorW11
import Derived.Lay
namespace Go.Proofs.Qxb6613740aDoor
open Go Go.ChangeShapes Go.WideShapes Go.ChangeAt Go.WideMaps Go.WideElems Go.RowKit Go.Deep

set_option maxRecDepth 100000

theorem g3 : Tryd.prog.globalNamed (nm 1) = some 3 := by kernel_rfl
theorem g3t : (Tryd.prog.globals[3]?).map (·.type) = some 29 := by kernel_rfl

/-- z6noz points somewhere. -/
theorem z6_of {r : List (String × DataW Unit)} {W : World} (h : laidMet Tryd.prog ((nm 1, Rows.laid_net_netip_z6noz) :: r) W) : ∃ p, W.cell? ⟨3, 0, none⟩ = some (.pointer (some p)) := by
  obtain ⟨ps, ⟨g0, t0, cs0, f0, p0, q0, hg0, ht0, hv0, hd0, _, _⟩, _, _⟩ := h
  obtain rfl := Option.some.inj (g3.symm.trans hg0)
  obtain rfl := Option.some.inj (g3t.symm.trans ht0)
  obtain ⟨y0, n, e, hl, hy⟩ := trod_struct1 Tryd.underlying29 hd0
  obtain ⟨l⟩ := cs0
  rw [cells29] at hl
  match l, hl with
  | [c], _ =>
    have hy' : DataW.trod (fun _ => ()) Tryd.prog W 0 (fun _ => true) false n 27 [c] = some y0 := by simpa [cells27] using hy
    rcases DataW.trod_pointer Tryd.underlying27 hy' with ⟨_, e2⟩ | ⟨a, cs', y, m, _, e1, _⟩
    · subst e2
      injection e with e _
      injection e with e
      simp at e
    · injection e1 with e1
      subst e1
      exact ⟨a, by simpa using World.var?_cell g3 hv0 0⟩

section
variable {H : Type} {enc : TypeId × Value → H} {w : World} {base : Nat} {spare : Nat → Bool} {held : Bool} {fuel : Nat} {x : DataW H × List MemPlace} {v : Value}

/-- A slice of bytes that came in. -/
theorem bytes_of (h : DataW.trod enc Tryd.prog w 0 spare held fuel 22 [v] = some x) :
    ∃ (a : Option Addr) (d : Nat → Int) (n cap : Nat), v = .slice a n cap ∧ n ≤ maxLen ∧ (a = none → n = 0 ∧ cap = 0) ∧ (∀ y, a = some y → In22 w y d n) ∧ ∀ j, 0 ≤ d j ∧ d j < 256 := by
  rcases open_slice Tryd.underlying22 h with ⟨e, _⟩ | ⟨a, len, cap, m, n, D, Pl, e, _, hlc, hcm, hm, _, hel⟩
  · simp at e
    exact ⟨none, fun _ => 0, 0, 0, e, Nat.zero_le _, fun _ => ⟨rfl, rfl⟩, fun y hy => by simp at hy, fun _ => by simp⟩
  · simp at e
    rw [cells5] at hel
    have hmlen : len ≤ m := by rw [hm]; split <;> omega
    have hspot : 0 < len → a.spot = none := fun h0 => by
      obtain ⟨cs', hcs, htr⟩ := hel 0 (by omega)
      obtain ⟨c, rfl, _, hwf⟩ := DataW.trod_int Tryd.underlying5 htr
      obtain ⟨_, _, hcell⟩ := World.cells?_some hcs
      have h0 := World.cell?_spot (hcell 0 (by omega))
      simpa [Addr.add] using h0
    have hex : ∀ i, i < len → ∃ c : Int, (a.spot = none ∧ a.block < w.heap.size ∧ w.cell? ⟨a.block, a.off + i, none⟩ = some (.int .u8 c)) ∧ 0 ≤ c ∧ c < 256 := by
      intro i hi
      obtain ⟨cs', hcs, htr⟩ := hel i (by omega)
      obtain ⟨c, rfl, _, hwf⟩ := DataW.trod_int Tryd.underlying5 htr
      have hbd := bounds_u8 hwf
      obtain ⟨_, _, hcell⟩ := World.cells?_some hcs
      have h0 := hcell 0 (by omega)
      have hsp := hspot (by omega)
      obtain ⟨b, o, sp⟩ := a
      simp only at hsp
      subst hsp
      rw [add_plain, add_plain] at h0
      simp only [Nat.mul_one, Nat.add_zero, List.getElem?_cons_zero] at h0
      exact ⟨c, ⟨rfl, World.block_lt_of_cell? w ⟨b, o + i, none⟩ h0, h0⟩, hbd.1, by omega⟩
    obtain ⟨C, hC⟩ := choose_lt hex
    refine ⟨some a, fun j => if j < len then C j else 0, len, cap, by simpa using e, by omega, fun h => by simp at h, fun y hy j hj => ?_, fun j => ?_⟩
    · injection hy with hy
      subst hy
      simp only [if_pos hj]
      exact (hC j hj).1
    · by_cases hj : j < len
      · simp only [if_pos hj]; exact (hC j hj).2
      · simp only [if_neg hj]; omega
end

/-- What the row lists. -/
def laid3 : List (String × DataW Unit) := Rows.fnAddrKeyIsTheSixWireBytesThatReadAddrReadRow.laid

theorem door_met3 (os : Os) (args : Array Value) : laidMetH Tryd.prog laid3 ((World.laidAll Tryd.prog os laid3).forCall (fun _ _ => 0) ⟨#[], args, []⟩).memory := by
  rw [MakeChecks.laidMetH_plain _ _ _ (by kernel_rfl)]
  exact laidMet_laidAll _ (by kernel_rfl) (by kernel_rfl)

theorem env_of_laid3 {W : World} (h : laidMetH Tryd.prog laid3 W) : ∃ p q, W.cell? ⟨1, 0, none⟩ = some (.pointer (some p)) ∧ W.cell? ⟨3, 0, none⟩ = some (.pointer (some q)) := by
  rw [MakeChecks.laidMetH_plain _ _ _ (by kernel_rfl)] at h
  have hL : laidMet Tryd.prog ((nm 0, Rows.laid_net_netip_z4) :: (nm 1, Rows.laid_net_netip_z6noz) :: laid3.tail.tail) W := h
  obtain ⟨p, hp⟩ := z4_of hL
  obtain ⟨q, hq⟩ := z6_of hL.tail
  exact ⟨p, q, hp, hq⟩

set_option maxHeartbeats 1000000 in
theorem wire_lifted (os : Os) (started : os.Started) (H : Type) (enc : TypeId × Value → H) :
    ReturnsInHanded {} Tryd.checked os 3 .any (fun w args => (Rows.fnAddrKeyIsTheSixWireBytesThatReadAddrReadSpec.pre enc Tryd.prog Tryd.f3 [] false w args ∧ laidMetH Tryd.prog laid3 w) ∧ sizedMet enc Tryd.prog Tryd.f3 (OpenSpec.ofChange Rows.fnAddrKeyIsTheSixWireBytesThatReadAddrReadSpec) false w args)
      (Rows.fnAddrKeyIsTheSixWireBytesThatReadAddrReadSpec.post enc Tryd.prog Tryd.f3 false true false false) := by
  refine returnsInHanded_of_change_and (C := Tryd.checked) (X := fun w _ => laidMetH Tryd.prog laid3 w) (fun _ _ _ hh h => h.of_heap hh) own started (by kernel_rfl) Tryd.func3
    (ChangeSpec.witness_shaped (enc := enc) (C := Tryd.checked) (os := os) (X := fun w _ => laidMetH Tryd.prog laid3 w) false (World.laidAll Tryd.prog os laid3) #[.slice none 0 0] 8 (World.laidAll_os _ _ _) (World.shaped_of_ZipB (by kernel_rfl) (by kernel_rfl)) (by kernel_rfl) (by kernel_rfl) (by kernel_rfl) (door_met3 os _)) ?_
  intro W base args ds gs before hval0 hW _ _ hL _
  have hval : ∀ (j : Nat) t v, Tryd.f3.params[j]? = some t → args[j]? = some v → Value.okWide Tryd.prog W .any base t v := hval0
  have hW' := hW
  obtain ⟨p, q, hA0, hV0, rfl, hfz, hnd⟩ := hW
  have hA : DataW.TrodAll enc Tryd.prog W 0 (fun _ => true) true Tryd.f3.params.toList args.toList ds p := hA0
  have hV : DataW.TrodVars enc Tryd.prog W (fun _ => true) [] gs q := hV0
  rw [Tryd.params3] at hA hval
  obtain ⟨v0, d0, rfl, rfl, h0⟩ := trodAll_one hA
  obtain ⟨rfl, rfl⟩ := trodVars_none hV
  obtain ⟨pz, qz, hz, hz6⟩ := env_of_laid3 hL
  obtain ⟨a0, n0, c0, rfl⟩ := okWide_slice Tryd.underlying22 (hval 0 22 v0 rfl rfl)
  have h0k := h0
  obtain ⟨f0, h0⟩ := h0
  obtain ⟨ao, da, na, ca, e0, hla, hna, ha, ra⟩ := bytes_of (by simpa [Value.cells] using h0)
  clear hA0 hV0 hval0 hA
  injection e0 with x1 x2 x3
  subst x1 x2 x3
  refine (six_any _ da _ _ pz qz W hna hla ha ra hz hz6).mono fun e W' ⟨he, hbl⟩ => ?_
  subst he
  have hlt : ∀ x ∈ p, x.block < W.heap.size := fun x hx => by simpa using hW'.lt x (by simpa using hx)
  refine ⟨_, rfl, _, _, _, [], p, [], hW', ?_, ?_, ?_, hbl.frame _, fun h => by cases h⟩
  · exact trodAll_mk1 (shut_bool Tryd.underlying4 _)
  · exact trodAll_mk1 (Below.trod laidOut (by kernel_rfl) (of_decide_eq_true (by kernel_rfl)) h0k hbl (fun x hx => hlt x hx))
  · rfl

theorem wire_holds : Rows.FnAddrKeyIsTheSixWireBytesThatReadAddrReadSaid :=
  OpenClaim.holds_of_wide 3 Tryd.f3 rfl rfl rfl rfl rfl rfl rfl ⟨rfl, rfl, rfl, rfl, rfl⟩ rfl rfl rfl rfl rfl (by kernel_rfl) Tryd.func3 (by kernel_rfl)
    (of_decide_eq_true (by kernel_rfl)) (by unfold Func.isWrapper; first | (rw [if_pos (by decide +kernel)]; kernel_rfl) | (rw [if_neg (by decide +kernel)]; exact ⟨rfl, rfl⟩))
    (fun os started H enc _ => wire_lifted os started H enc)

/-- THE TIED CARD. -/
theorem wire_card : Rows.FnAddrKeyIsTheSixWireBytesThatReadAddrReadCardSaid :=
  Claim7.holds_tied_plain_at .later [] [.called, .called, .zero] true (true, "0e81bab25121613c6aff9837599013f6ce19cf163bf341fc41749c2e45c0f861") false
    wire_holds (fun _ h => by cases h) (by kernel_rfl) (fun _ h => by cases h) fnAddrKeyIsTheSixWireBytesThatReadAddrRead_row_tie rfl ⟨rfl, rfl⟩ (by kernel_rfl) rfl
    (fun f fn hf hfn => by
      obtain rfl : f = 3 := Option.some.inj ((show Tryd.prog.funcNamed Rows.fnAddrKeyIsTheSixWireBytesThatReadAddrReadRow.func = some 3 by kernel_rfl).symm.trans hf) |>.symm
      obtain rfl : fn = Tryd.f3 := (Option.some.inj (Tryd.func3.symm.trans hfn)).symm
      exact ⟨by kernel_rfl, fun j t ht => by
        rw [Tryd.params3] at ht
        have hm : t ∈ [22] := by simpa using Array.mem_of_getElem? ht
        have hall : ([22].all fun u => !Tryd.prog.wantsStandIn u) = true := by kernel_rfl
        exact (show Tryd.prog.wantsStandIn t = false by simpa using List.all_eq_true.1 hall t hm)⟩)
    (by kernel_rfl)
end Go.Proofs.Qxb6613740aDoor
