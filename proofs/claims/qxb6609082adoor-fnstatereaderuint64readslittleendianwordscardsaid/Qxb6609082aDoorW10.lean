import Derived.Test.Qxb6609082aDoorW9
namespace Go.Proofs.Qxb6609082aDoor
open Go Go.RowKit

/-- n zero bytes. -/
def madeB (n : Nat) : Obj := .cells (madeCells #[.int .u8 0] n) 5

theorem info5 : (Tryd.prog.info? 5).map (fun i => (i.zero, i.size, i.bytes)) = some (some (.int .u8 0), 1, 1) := by kernel_rfl

theorem run_make22 (n : Nat) (h : n ≤ 1048576) (w : World) : (Instr.makeSlice 22 (.int .i64 (n : Int)) (.int .i64 (n : Int))).run Tryd.prog w = .ok (.slice (some ⟨w.heap.size, 0, none⟩) n n) (w.alloc (madeB n)) := by
  obtain ⟨i, hi, hz0, hz1, hz2⟩ := info_parts info5
  have hr := run_make (P := Tryd.prog) w 22 5 i _ Tryd.underlying22 hi hz0 .i64 .i64 n n (by omega) (Int.le_refl _) (by rw [hz2]; omega) (by omega)
  rw [hz1] at hr
  simpa [madeB, Value.cells] using hr

theorem madeB_cell (w : World) (n o : Nat) (h : o < n) : (w.alloc (madeB n)).cell? ⟨w.heap.size, o, none⟩ = some (.int .u8 0) := by
  have hs := size_madeCells #[.int .u8 0] n
  have hg : (madeCells #[.int .u8 0] n)[o]? = some (.int .u8 0) := by
    have := toList_madeCells_one (.int .u8 0) n
    rw [← Array.getElem?_toList, this]
    simp [h]
  unfold madeB
  generalize madeCells #[.int .u8 0] n = cs at hs hg ⊢
  have hlt : o < cs.size := by omega
  have hge : cs[o] = .int .u8 0 := by simpa [hlt] using hg
  go_simp
theorem madeB_frozen (w : World) (n o : Nat) : (w.alloc (madeB n)).frozen? ⟨w.heap.size, o, none⟩ = false := by
  unfold madeB
  go_simp

theorem run_ta (b : Nat) (w : World) : (Instr.typeAssert (.iface 36 (.pointer (some ⟨b, 0, none⟩))) 51 34 true).run Tryd.prog w = .ok (.tuple #[.pointer none, .bool false]) w := by kernel_rfl

/-- What came in: n bytes. -/
structure Src (sa : Option Addr) (d : Nat → Int) (n : Nat) (w : World) : Prop where
  dat : n = 0 ∨ ∃ bd, sa = some ⟨bd, 0, none⟩ ∧ bd < w.heap.size ∧ ∀ j, j < n → w.cell? ⟨bd, j, none⟩ = some (.int .u8 (d j))
  lt : ∀ bd, sa = some ⟨bd, 0, none⟩ → bd < w.heap.size

def offs : Int := 14695981039346656037

/-- ZZnewStateReader's answer. -/
def R7 (sa : Option Addr) (d : Nat → Int) (n : Nat) (w : World) (e : Ending) (w' : World) : Prop :=
  ∃ bs bb bf br bh, e = .returned (.pointer (some ⟨bs, 0, none⟩)) ∧ Below w.heap.size w w' ∧ SR bs bb bf br bh sa d n 0 offs w' ∧ w.heap.size ≤ bs ∧ w.heap.size ≤ bb ∧ w.heap.size ≤ bf ∧ w.heap.size ≤ br ∧ w.heap.size ≤ bh

theorem new_world {sa : Option Addr} {d : Nat → Int} {n : Nat} {w : World} (h : Src sa d n w) (hw : 3 < w.heap.size) :
    R7 sa d n w (.returned (.pointer (some ⟨w.heap.size + 1 + 1 + 1 + 1, 0, none⟩)))
      (((((w.alloc (.cells #[.slice sa n n, .int .i64 0, .int .i64 (-1)] 54)).alloc (.cells #[.slice (some ⟨w.heap.size + 1 + 1, 0, none⟩) 4096 4096, .iface 36 (.pointer (some ⟨w.heap.size, 0, none⟩)), .int .i64 0, .int .i64 0, .nilIface, .int .i64 (-1), .int .i64 (-1)] 63)).alloc
        (madeB 4096)).alloc (.cells #[.int .u64 14695981039346656037] 55)).alloc
        (.cells #[.pointer (some ⟨w.heap.size + 1, 0, none⟩), .iface 56 (.pointer (some ⟨w.heap.size + 1 + 1 + 1, 0, none⟩)), .int .u8 0, .slice none 0 0, .slice none 0 0, .nilIface] 48)) := by
  have hcm : ∀ (V : World) (A B : Obj) (o : Nat), o < 4096 → V.heap.size = w.heap.size + 1 + 1 → (((V.alloc (madeB 4096)).alloc A).alloc B).cell? ⟨w.heap.size + 1 + 1, o, none⟩ = some (.int .u8 0) := by
    intro V A B o ho hV
    rw [World.cell?_alloc_old _ _ _ (by simp <;> omega), World.cell?_alloc_old _ _ _ (by simp <;> omega)]
    have := madeB_cell V 4096 o ho
    rwa [hV] at this
  have hfm : ∀ (V : World) (A B : Obj) (o : Nat), V.heap.size = w.heap.size + 1 + 1 → (((V.alloc (madeB 4096)).alloc A).alloc B).frozen? ⟨w.heap.size + 1 + 1, o, none⟩ = false := by
    intro V A B o hV
    have := madeB_frozen V 4096 o
    rw [hV] at this
    have k : Kept [] (V.alloc (madeB 4096)) (((V.alloc (madeB 4096)).alloc A).alloc B) := ((Kept.refl _ _).alloc _).alloc _
    rw [k.frozen (p := ⟨w.heap.size + 1 + 1, o, none⟩) (by simp <;> omega) (by simp)]
    exact this
  have hold : ∀ (A B C D F : Obj), Below w.heap.size w (((((w.alloc A).alloc B).alloc C).alloc D).alloc F) := fun A B C D F => (((((Below.refl _ w).alloc (Nat.le_refl _) A).alloc (by simp) B).alloc (by simp <;> omega) C).alloc (by simp <;> omega) D).alloc (by simp <;> omega) F
  refine ⟨w.heap.size + 1 + 1 + 1 + 1, w.heap.size + 1, w.heap.size + 1 + 1, w.heap.size, w.heap.size + 1 + 1 + 1, rfl, hold _ _ _ _ _, ?_, by omega, by omega, by omega, by omega, by omega⟩
  refine ⟨?_, ?_, .inl ⟨by omega, ?_, 0, 0, ⟨?_, ?_, by omega, by omega, by omega, fun j hj => by omega, ⟨fun j hj => ⟨_, hcm _ _ _ _ (by omega) (by simp)⟩, fun j => hfm _ _ _ _ (by simp), by simp <;> omega⟩, by omega, by omega, by omega, ?_⟩⟩, ?_, ?_, ?_, by simp, by simp <;> omega, by omega, ?_, by omega, ?_⟩
  · go_simp
  · go_simp
  · go_simp
  · refine ⟨?_, ?_, ?_, ?_, ?_, ⟨.int .i64 (-1), ?_⟩, ⟨.int .i64 (-1), ?_⟩, fun o => ?_, by simp <;> omega⟩ <;> go_simp
  · refine ⟨?_, ?_, ⟨.int .i64 (-1), ?_⟩, fun o => ?_, by simp <;> omega⟩ <;> go_simp
  · rcases h.dat with h0 | ⟨bd, e, hl, hc⟩
    · exact .inl h0
    · exact .inr ⟨bd, e, Nat.lt_of_lt_of_le hl (hold _ _ _ _ _).size, by omega, by omega, by omega, fun j hj => ((hold _ _ _ _ _).cell (p := ⟨bd, j, none⟩) hl).trans (hc j hj)⟩
  · go_simp; rfl
  · go_simp
  · go_simp
  · intro bd e
    have := h.lt bd e
    omega
  · exact ⟨by simp <;> omega, by simp <;> omega, by simp <;> omega, fun bd e => Nat.lt_of_lt_of_le (h.lt bd e) (hold _ _ _ _ _).size⟩

set_option maxHeartbeats 1000000 in
theorem new_any (sa : Option Addr) (d : Nat → Int) (n : Nat) (w : World) (h : Src sa d n w) (hw : 3 < w.heap.size) : Calls Tryd.prog 7 #[.slice sa n n] w (R7 sa d n w) := by
  have hmk : ∀ W, (Instr.makeSlice 22 (.int .i64 4096) (.int .i64 4096)).run Tryd.prog W = .ok (.slice (some ⟨W.heap.size, 0, none⟩) 4096 4096) (W.alloc (madeB 4096)) := fun W => run_make22 4096 (by omega) W
  have hta := run_ta
  go_enter Tryd.func7, Tryd.ntmps7
  go_wp2
  go_ret
  show R7 sa d n w (.returned (.pointer (some ⟨w.heap.size + 1 + 1 + 1 + 1, 0, none⟩))) _
  exact new_world h hw
end Go.Proofs.Qxb6609082aDoor
