import Derived.Test.Qxb6608969aDoorW10
import Derived.Deep.QuietTactic
import Derived.BigQuiet
namespace Go.Proofs.Qxb6608969aDoor
open Go Go.RowKit

/-- A row change. -/
def okRow : Option (ByteArray × Int) → Bool
  | none => false
  | some (op, _) => !(op.toList == [100, 100, 108])
/-- What rowsCommitTs answers: the first timestamp, or none. -/
def ans (l : List (Option (ByteArray × Int))) : Option Int :=
  if l.all okRow then (match l with | some (_, ts) :: _ => some ts | _ => none) else none

/-- rowsCommitTs' answer. -/
def RTs (l : List (Option (ByteArray × Int))) (w : World) (e : Ending) (w' : World) : Prop :=
  ∃ (ts : Int) (er : Value), e = .returned (.tuple #[.int .u64 ts, er]) ∧ Below w.heap.size w w' ∧ ((ans l = none ∧ ts = 0 ∧ ∃ u v, er = .iface u v) ∨ (ans l = some ts ∧ er = .nilIface))

theorem ans_bad {l : List (Option (ByteArray × Int))} {k : Nat} {c : Option (ByteArray × Int)} (h : l[k]? = some c) (hc : okRow c = false) : ans l = none := by
  unfold ans
  rw [if_neg]
  intro ha
  have := List.all_eq_true.1 ha c (List.mem_of_getElem? h)
  rw [hc] at this
  simp at this

theorem ans_good {l : List (Option (ByteArray × Int))} {op : ByteArray} {ts : Int} (h : l[0]? = some (some (op, ts))) (ha : ∀ (j : Nat) c, l[j]? = some c → okRow c = true) : ans l = some ts := by
  unfold ans
  rw [if_pos]
  · match l, h with
    | x :: r, h => simp at h; subst h; rfl
  · refine List.all_eq_true.2 fun c hc => ?_
    obtain ⟨j, hj⟩ := List.mem_iff_getElem?.1 hc
    exact ha j c hj

set_option maxHeartbeats 1000000 in
theorem rows_any (so : Option Addr) (l : List (Option (ByteArray × Int))) (m : Nat) (u : TypeId) (v : Value) (w : World) (hl : l.length ≤ 1048576) (hout : EvsOut w.heap.size w so l) (hg : w.cell? ⟨0, 0, none⟩ = some (.iface u v)) :
    Calls Tryd.prog 13 #[.slice so l.length m] w (RTs l w) := by
  have hg0 : 0 < w.heap.size := World.block_lt_of_cell? _ _ hg
  go_enter Tryd.func13, Tryd.ntmps13
  go_wp2
  go_loopw [8] (fun i wr => ∃ k : Nat, k ≤ l.length ∧ i = .int .i64 k ∧ Below w.heap.size w wr ∧ Hid (∀ j c, j < k → l[j]? = some c → okRow c = true)) (fun i _ => l.length - (intOf i).toNat)
  case atStart => exact ⟨0, Nat.zero_le _, rfl, Below.refl _ _, fun j c h => by omega⟩
  case round =>
    obtain ⟨k, hk, rfl, hbe, hall⟩ := hrel
    have hgr := (hbe.cell (p := ⟨0, 0, none⟩) hg0).trans hg
    have hne0 : (0 : Nat) ≠ wr.heap.size := by have := hbe.size; omega
    have hga : ∀ A : Obj, (wr.alloc A).cell? ⟨0, 0, none⟩ = some (.iface u v) := fun A => (World.cell?_alloc_old _ _ _ hne0).trans hgr
    by_cases hlt : k < l.length
    · have hgk : l[k]? = some l[k] := by simp [hlt]
      obtain ⟨b, rfl, hbM, p0, t1, b2, b3, p4, p5, s6, g0, g1, g2, g3, g4, g5, g6, k0⟩ := hout k l[k] hgk
      have f0 := (hbe.cell (p := ⟨b, k * 7, none⟩) hbM).trans g0
      have f1 := (hbe.cell (p := ⟨b, k * 7 + 1, none⟩) hbM).trans g1
      have f2 := (hbe.cell (p := ⟨b, k * 7 + 2, none⟩) hbM).trans g2
      have f3 := (hbe.cell (p := ⟨b, k * 7 + 3, none⟩) hbM).trans g3
      have f4 := (hbe.cell (p := ⟨b, k * 7 + 4, none⟩) hbM).trans g4
      have f5 := (hbe.cell (p := ⟨b, k * 7 + 5, none⟩) hbM).trans g5
      have f6 := (hbe.cell (p := ⟨b, k * 7 + 6, none⟩) hbM).trans g6
      have HG : Hid (l[k]? = some l[k]) := hgk
      clear g0 g1 g2 g3 g4 g5 g6 hout hg hgk
      rcases k0 with ⟨rfl, hc⟩ | ⟨pb, op, ts, rfl, hc, ⟨_, hpb⟩, c0, c3⟩
      · have HC : Hid (l[k] = none) := hc
        clear hc
        go_wp2
        go_quiet (fail)
        go_wp2
        go_ret2
        refine ⟨0, .iface u v, rfl, ?_, .inl ⟨ans_bad HG.out (by rw [HC.out]; rfl), rfl, u, v, rfl⟩⟩
        have : ∀ (A : Obj) (nq : Nat), Below w.heap.size w ((wr.alloc A).drewN nq) := fun A nq => (hbe.alloc hbe.size A).trans ⟨rfl, rfl, rfl, Nat.le_refl _, fun _ _ => rfl⟩
        exact this _ _
      · have e0 := (hbe.cell (p := ⟨pb, 0, none⟩) hpb).trans c0
        have hnp : pb ≠ wr.heap.size := by have := hbe.size; omega
        have e0' : ∀ A : Obj, (wr.alloc A).cell? ⟨pb, 0, none⟩ = some (.string op) := fun A => (World.cell?_alloc_old _ _ _ hnp).trans e0
        have HC : Hid (l[k] = some (op, ts)) := hc
        clear hc c0 c3 e0
        cases hdb : (op.toList == [100, 100, 108])
        · go_wp2
          go_roundw
          case rel =>
            refine ⟨k + 1, by omega, by go_num, hbe.alloc hbe.size _, fun j c hj hc => ?_⟩
            by_cases e : j = k
            · subst e
              obtain rfl : l[j] = c := by have := HG.out; rw [hc] at this; exact (Option.some.inj this).symm
              rw [HC.out]
              simp [okRow, hdb]
            · exact hall j c (by omega) hc
          case measure => simp [intOf]; omega
        · go_wp2
          go_ret2
          refine ⟨0, .iface 58 (.pointer (some ⟨wr.heap.size + 1, 0, none⟩)), rfl, ?_, .inl ⟨ans_bad HG.out (by rw [HC.out]; simp [okRow, hdb]), rfl, _, _, rfl⟩⟩
          exact (hbe.alloc hbe.size _).alloc (Nat.le_trans hbe.size (by simp)) _
    · obtain rfl : k = l.length := by omega
      by_cases h0 : l.length = 0
      · have h0' : (l.length : Int) = 0 := by omega
        go_wp2
        go_quiet (fail)
        go_wp2
        go_ret2
        have hl0 : l = [] := List.eq_nil_of_length_eq_zero h0
        exact ⟨0, .iface u v, rfl, hbe.trans ⟨rfl, rfl, rfl, Nat.le_refl _, fun _ _ => rfl⟩, .inl ⟨by rw [hl0]; rfl, rfl, u, v, rfl⟩⟩
      · have hg00 : l[0]? = some l[0] := by simp
        obtain ⟨b, rfl, hbM, p0, t1, b2, b3, p4, p5, s6, g0, g1, g2, g3, g4, g5, g6, k0⟩ := hout 0 l[0] hg00
        have f0 := (hbe.cell (p := ⟨b, 0, none⟩) hbM).trans (by simpa using g0)
        have hok := hall.out 0 l[0] (by omega) hg00
        have hall' : ∀ (j : Nat) c, l[j]? = some c → okRow c = true := fun j c hj => hall.out j c (List.getElem?_eq_some_iff.1 hj).1 hj
        rcases k0 with ⟨rfl, hc⟩ | ⟨pb, op, ts, rfl, hc, ⟨_, hpb⟩, c0, c3⟩
        · rw [hc] at hok; simp [okRow] at hok
        · have e3 := (hbe.cell (p := ⟨pb, 3, none⟩) hpb).trans c3
          have HA : Hid (ans l = some ts) := ans_good (by rw [hg00, hc]) hall'
          have h0' : ¬ (l.length : Int) = 0 := by omega
          have h0p : (0 : Int) < l.length := by omega
          clear hall hall' hok hc hout hg hg00 g0 g1 g2 g3 g4 g5 g6 c0 c3
          go_wp2
          go_ret2
          exact ⟨ts, .nilIface, rfl, hbe, .inr ⟨HA.out, rfl⟩⟩
end Go.Proofs.Qxb6608969aDoor
