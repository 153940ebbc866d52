import Derived.Test.Qxb6609082aDoorW1
import Derived.Deep.RegionLaw
import Derived.Deep.RegionHeld3
import Derived.Laws.CopyOwn
namespace Go.Proofs.Qxb6609082aDoor
open Go Go.RowKit

/-- copy as one step of a region that draws its order: all is read, then all is written. -/
theorem step_copy_cells {P : Program} {ops : Array Oper} {o : Oper} {a : Act} {w : World} {K : Act → World → Prop} {Q : Exit → Act → World → Prop} {E : Prop} (hgd : o.guard = none) (d s : Operand) (dT sT : TypeId)
    (ho : o.op = .call { callee := .builtin .copy, args := #[d, s], argTypes := #[dT, sT] }) (elem : TypeId) (hu : P.underlying dT = some (.slice elem)) (hsz : (P.info? elem).map (·.size) = some 1)
    (b off dLen dCap : Nat) (ad : Addr) (sLen sCap : Nat) (hd : a.eval d = .slice (some ⟨b, off, none⟩) dLen dCap) (hs : a.eval s = .slice (some ad) sLen sCap)
    (cs : List Value) (hn : cs.length = Nat.min sLen dLen)
    (hsrc : ∀ j v, cs[j]? = some v → w.cell? (ad.add j) = some v) (hc : ∀ j, j < cs.length → (w.cell? ⟨b, off + j, none⟩).isSome = true) (hf : ∀ j, j < cs.length → w.frozen? ⟨b, off + j, none⟩ = false) (h1 : ∀ v ∈ cs, v.oneCell' = true)
    (h : K (a.put o.dst (goInt cs.length)) (w.setCells b off cs)) :
    if Region.wanted o (yielded ops a.tmps) = true then Oper.wp P o a w K Q else E := by
  have hw : Region.wanted o (yielded ops a.tmps) = true := by simp [Region.wanted, hgd]
  rw [if_pos hw]
  have hrun := run_copy_cells (P := P) w dT sT o.type elem b off dLen dCap ad sLen sCap cs hu hsz hn hsrc hc hf h1
  unfold Oper.wp
  simp [execOp, ho, resolve, invoke, builtin, hd, hs, hrun, Result.andThen]
  exact h

theorem size5 : (Tryd.prog.info? 5).map (·.size) = some 1 := by kernel_rfl

/-- k bytes from i on. -/
def bytesAt (d : Nat → Int) (i k : Nat) : List Value := (List.range k).map fun j => .int .u8 (d (i + j))
theorem bytesAt_length (d : Nat → Int) (i k : Nat) : (bytesAt d i k).length = k := by simp [bytesAt]
theorem bytesAt_get (d : Nat → Int) (i k j : Nat) (v : Value) (h : (bytesAt d i k)[j]? = some v) : j < k ∧ v = .int .u8 (d (i + j)) := by
  simp only [bytesAt, List.getElem?_map, Option.map_eq_some_iff] at h
  obtain ⟨x, hx, rfl⟩ := h
  by_cases hj : j < k
  · rw [List.getElem?_range hj] at hx
    obtain rfl := Option.some.inj hx
    exact ⟨hj, rfl⟩
  · rw [List.getElem?_eq_none (by simp; omega)] at hx
    simp at hx
theorem bytesAt_one (d : Nat → Int) (i k : Nat) : ∀ v ∈ bytesAt d i k, v.oneCell' = true := by
  intro v hv
  simp only [bytesAt, List.mem_map] at hv
  obtain ⟨j, _, rfl⟩ := hv
  rfl

/-- (*bytes.Reader).Read: k bytes go over. -/
def Some44 (br bp op : Nat) (sa : Option Addr) (d : Nat → Int) (n i k : Nat) (w : World) (e : Ending) (w' : World) : Prop :=
  e = .returned (.tuple #[.int .i64 k, .nilIface]) ∧ Kept [br, bp] w w' ∧ BR br sa n (i + k) w' ∧ (∀ j, j < k → w'.cell? ⟨bp, op + j, none⟩ = some (.int .u8 (d (i + j)))) ∧
  (∀ o, (o < op ∨ op + k ≤ o) → w'.cell? ⟨bp, o, none⟩ = w.cell? ⟨bp, o, none⟩) ∧ (∀ o, w'.frozen? ⟨bp, o, none⟩ = w.frozen? ⟨bp, o, none⟩)

set_option maxHeartbeats 1000000 in
theorem readA_some (br bd bp op : Nat) (d : Nat → Int) (n i k m c : Nat) (w : World) (h : BR br (some ⟨bd, 0, none⟩) n i w) (hi : i < n) (hn : n ≤ 131072) (hm : m ≤ 4096) (hk : k = Nat.min (n - i) m)
    (hd : ∀ j, j < n → w.cell? ⟨bd, j, none⟩ = some (.int .u8 (d j))) (hp : Room bp op m w) (hdb : bd ≠ br) (hpb : bp ≠ br) :
    Calls Tryd.prog 44 #[.pointer (some ⟨br, 0, none⟩), .slice (some ⟨bp, op, none⟩) m c] w (Some44 br bp op (some ⟨bd, 0, none⟩) d n i k w) := by
  obtain ⟨c0, c1, ⟨v2, c2⟩, fr, lt⟩ := h
  obtain ⟨pc, pf, plt⟩ := hp
  have hk1 : k ≤ n - i := by rw [hk]; exact Nat.min_le_left _ _
  have hk2 : k ≤ m := by rw [hk]; exact Nat.min_le_right _ _
  have hin : (i : Int) < n := by omega
  have hle : i ≤ n := by omega
  have hne : ¬ n = i := by omega
  have hfr := fr 2
  have hfr1 := fr 1
  have HL : Hid ((bytesAt d i k).length = Nat.min (n - i) m) := (bytesAt_length _ _ _).trans hk
  clear hk
  have HS : Hid (∀ (nq : Nat) (j : Nat) (v : Value), (bytesAt d i k)[j]? = some v → ((w.drewN nq).setCell ⟨br, 2, none⟩ (.int .i64 (-1))).drew.cell? ((⟨bd, i, none⟩ : Addr).add j) = some v) := by
    intro nq j v hj
    obtain ⟨hjk, rfl⟩ := bytesAt_get _ _ _ _ _ hj
    have h3 : i + j < n := by omega
    have := hd _ h3
    have hz : ((⟨bd, i, none⟩ : Addr).add j) = ⟨bd, i + j, none⟩ := by
      simp only [Addr.add]
      split
      · rename_i h0; simp_all
      · rfl
    rw [hz]
    go_simp
  have HC : Hid (∀ (nq : Nat) (j : Nat), j < (bytesAt d i k).length → (((w.drewN nq).setCell ⟨br, 2, none⟩ (.int .i64 (-1))).drew.cell? ⟨bp, op + j, none⟩).isSome = true) := by
    intro nq j hj
    rw [bytesAt_length] at hj
    obtain ⟨u, hu⟩ := pc j (by omega)
    go_simp
  have HF : Hid (∀ (nq : Nat) (j : Nat), j < (bytesAt d i k).length → ((w.drewN nq).setCell ⟨br, 2, none⟩ (.int .i64 (-1))).drew.frozen? ⟨bp, op + j, none⟩ = false) := by
    intro nq j hj
    have := pf (op + j)
    go_simp
  have hlen := bytesAt_length d i k
  have hadd : IntKind.i64.wrap ((i : Int) + k) = ((i + k : Nat) : Int) := by
    rw [IntWalk.i64_in] <;> omega
  have E1 : ∀ (nq : Nat), (((w.drewN nq).setCell ⟨br, 2, none⟩ (.int .i64 (-1))).drew.setCells bp op (bytesAt d i k)).cell? ⟨br, 1, none⟩ = some (.int .i64 i) := by
    intro nq
    rw [World.cell?_setCells_out _ _ _ _ _ (fun e => absurd e.symm hpb)]
    go_simp
  have E2 : ∀ (nq : Nat), (((w.drewN nq).setCell ⟨br, 2, none⟩ (.int .i64 (-1))).drew.setCells bp op (bytesAt d i k)).frozen? ⟨br, 1, none⟩ = false := by
    intro nq
    rw [World.frozen?_setCells]
    go_simp
  have E : Hid (∀ (nq : Nat), Some44 br bp op (some ⟨bd, 0, none⟩) d n i k w (.returned (.tuple #[.int .i64 k, .nilIface])) ((((w.drewN nq).setCell ⟨br, 2, none⟩ (.int .i64 (-1))).drew.setCells bp op (bytesAt d i k)).setCell ⟨br, 1, none⟩ (.int .i64 ((i + k : Nat) : Int)))) := by
    intro nq
    have o0 : ∀ o, (((w.drewN nq).setCell ⟨br, 2, none⟩ (.int .i64 (-1))).drew.setCells bp op (bytesAt d i k)).cell? ⟨br, o, none⟩ = ((w.drewN nq).setCell ⟨br, 2, none⟩ (.int .i64 (-1))).drew.cell? ⟨br, o, none⟩ := fun o => World.cell?_setCells_out _ _ _ _ _ (fun e => absurd e.symm hpb)
    have o1 : ∀ o (W : World) (u : Value), (W.setCell ⟨br, 1, none⟩ u).cell? ⟨bp, o, none⟩ = W.cell? ⟨bp, o, none⟩ := fun o W u => World.cell?_setCell_other _ _ _ _ (fun e => hpb (by injection e with e1 _ _; exact e1.symm))
    refine ⟨rfl, ?_, ⟨?_, ?_, ⟨.int .i64 (-1), ?_⟩, ?_, ?_⟩, ?_, ?_, ?_⟩
    · exact (Kept.setCells (by simp) _ _ (((Kept.refl _ _).drewN nq).setCell (p := ⟨br, 2, none⟩) (by simp) _).drew).setCell (p := ⟨br, 1, none⟩) (by simp) _
    · have := o0 0; go_simp
    · exact World.cell?_setCell_same _ _ _ (E1 nq)
    · have := o0 2; go_simp
    · intro o
      have := fr o
      rw [World.frozen?_setCell, World.frozen?_setCells]
      go_simp
    · have := ((Kept.setCells (b := bp) (S := [br, bp]) (by simp) (bytesAt d i k) op (((Kept.refl _ w).drewN nq).setCell (p := ⟨br, 2, none⟩) (by simp) (.int .i64 (-1))).drew).setCell (p := ⟨br, 1, none⟩) (by simp) (.int .i64 ((i + k : Nat) : Int))).size
      omega
    · intro j hj
      rw [o1]
      have := World.cell?_setCells_in bp (bytesAt d i k) op (((w.drewN nq).setCell ⟨br, 2, none⟩ (.int .i64 (-1))).drew) (HC.out nq) j (by omega)
      rw [this]
      simp [bytesAt]
    · intro o ho
      rw [o1, World.cell?_setCells_out _ _ _ _ _ (fun _ _ => by simp only [hlen]; exact ho)]
      have : ∀ u, w.cell? ⟨bp, o, none⟩ = u → ((w.drewN nq).setCell ⟨br, 2, none⟩ (.int .i64 (-1))).drew.cell? ⟨bp, o, none⟩ = u := by
        intro u hu
        go_simp
      exact this _ rfl
    · intro o
      rw [World.frozen?_setCell, World.frozen?_setCells]
      go_simp
  clear hd pc pf
  go_enter Tryd.func44, Tryd.ntmps44
  go_wp2
  go_quiet (fail)
  go_wp2
  go_region_law (refine step_copy_cells rfl (.tmp 20) (.tmp 29) 22 22 rfl 5 Tryd.underlying22 size5 bp op m c ⟨bd, i, none⟩ (n - i) (n - i) (by simp [Act.eval, Act.put]) (by simp [Act.eval, Act.put]) (bytesAt d i k) HL.out (HS.out _) (HC.out _) (HF.out _) (bytesAt_one _ _ _) ?_)
  all_goals (go_wp2; go_ret2; exact E.out _)
end Go.Proofs.Qxb6609082aDoor
