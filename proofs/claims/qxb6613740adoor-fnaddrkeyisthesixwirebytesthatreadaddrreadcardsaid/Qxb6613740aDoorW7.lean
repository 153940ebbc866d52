import Derived.Test.Qxb6613740aDoorW6
namespace Go.Proofs.Qxb6613740aDoor
open Go Go.RowKit
attribute [local go_sem ↓] Go.wp_at_zero Go.wp_at_succ

theorem isU_zero (p : Addr) (w : World) (hz : w.cell? ⟨1, 0, none⟩ = some (.pointer (some p))) : Calls Tryd.prog 33 #[addr 0 p] w (RV (.bool true) w) := by
  have hz1 : ∀ A, (w.alloc A).drew.cell? ⟨1, 0, none⟩ = some (.pointer (some p)) := (cell_two hz).1
  have hq := eql31_same 281470681743360 p
  unfold addr
  go_enter Tryd.func33, Tryd.ntmps33
  go_wp2_with fail
  go_region_with
    (first | (go_at_call 49; refine (unspec4 p _ (hz1 _)).mono ?_; rintro e w' ⟨rfl, rfl⟩))
  all_goals (go_wp2; go_ret; refine ⟨rfl, ?_⟩)
  all_goals (repeat (first | exact Below.refl _ _ | apply Below.drew | apply below_drewN | (refine Below.alloc ?_ (by simp <;> omega) _)))

theorem isU_other (x : Int) (p q : Addr) (w : World) (h0 : 0 < x) (hz : w.cell? ⟨1, 0, none⟩ = some (.pointer (some p))) (hz3 : w.cell? ⟨3, 0, none⟩ = some (.pointer (some q))) : Calls Tryd.prog 33 #[addr x p] w (RV (.bool false) w) := by
  have hz1 : ∀ A, (w.alloc A).drew.cell? ⟨1, 0, none⟩ = some (.pointer (some p)) := (cell_two hz).1
  have e1 := fun W => eql31_other (281470681743360 + x) 281470681743360 p p W (by omega)
  have e2 := fun W => eql31_other (281470681743360 + x) 0 p q W (by omega)
  have hc : ∀ A B C D, ((((w.alloc A).alloc B).alloc C).alloc D).drew.cell? ⟨3, 0, none⟩ = some (.pointer (some q)) := fun A B C D => (cell_two ((cell_two hz3).2 A B)).2 C D
  unfold addr
  go_enter Tryd.func33, Tryd.ntmps33
  go_wp2_with fail
  go_region_with
    (first | (go_at_call 49; refine (unspec4 p _ (hz1 _)).mono ?_; rintro e w' ⟨rfl, rfl⟩) | (go_at_call 50; refine (unspec6 q _ (hc _ _ _ _)).mono ?_; rintro e w' ⟨rfl, rfl⟩))
  all_goals (go_wp2; go_ret; refine ⟨rfl, ?_⟩)
  all_goals (repeat (first | exact Below.refl _ _ | apply Below.drew | apply below_drewN | (refine Below.alloc ?_ (by simp <;> omega) _)))
end Go.Proofs.Qxb6613740aDoor
