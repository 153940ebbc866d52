import Derived.Test.Qxb6613740aDoorW1
import Derived.LaidEqlPtr
namespace Go.Proofs.Qxb6613740aDoor
open Go Go.RowKit

/-- PutUint32's answer: the four bytes of x in block b. -/
def R52 (b : Nat) (x : Int) (w : World) (e : Ending) (w' : World) : Prop :=
  e = .returned (.tuple #[]) ∧ w' = (((w.setCell ⟨b, 0, none⟩ (.int .u8 (x / 16777216))).setCell ⟨b, 1, none⟩ (.int .u8 (x / 65536 % 256))).setCell ⟨b, 2, none⟩ (.int .u8 (x / 256 % 256))).setCell ⟨b, 3, none⟩ (.int .u8 (x % 256))

set_option maxHeartbeats 2000000 in
theorem put32 (b : Nat) (x : Int) (w : World) (h0 : 0 ≤ x) (h1 : x < 4294967296) (hc : ∀ j, j < 4 → ∃ v, w.cell? ⟨b, j, none⟩ = some v) (hf : ∀ j, w.frozen? ⟨b, j, none⟩ = false) :
    Calls Tryd.prog 52 #[.slice (some ⟨b, 0, none⟩) 4 4, .int .u32 x] w (R52 b x w) := by
  obtain ⟨v0, c0⟩ := hc 0 (by omega)
  obtain ⟨v1, c1⟩ := hc 1 (by omega)
  obtain ⟨v2, c2⟩ := hc 2 (by omega)
  obtain ⟨v3, c3⟩ := hc 3 (by omega)
  clear hc
  go_enter Tryd.func52, Tryd.ntmps52
  go_wp2
  go_returns
  exact ⟨rfl, rfl⟩

theorem conv32 (x : Int) (h0 : 0 ≤ x) (h1 : x < 4294967296) : IntKind.u32.wrap (281470681743360 + x) = x ∧ (281470681743360 + x) % 4294967296 = x := by
  rw [IntKind.wrap_u32]
  omega

theorem eqPtr (d : Nat) (p : Addr) (w : World) : (Op.equalIn (d + 1) 27 (.pointer (some p)) (.pointer (some p))).run Tryd.prog w = .ok true w := by
  obtain ⟨j, hj⟩ : ∃ j, Tryd.prog.info? 161 = some j := Option.isSome_iff_exists.1 (by kernel_rfl)
  simp [Op.equalIn, run_underlying Tryd.underlying27, sizeOf, typeInfo, hj, run_sameAddr_same]

theorem eql29 (p : Addr) (w : World) : (binOp .eql 29 (.agg #[.pointer (some p)]) (.agg #[.pointer (some p)])).run Tryd.prog w = .ok (.bool true) w := by
  have h1 : Tryd.prog.fieldsOf 29 = #[{ name := "value", type := 27, offset := 0, embedded := false, tag := "", pkgPath := "unique", byteOffset := 0 }] := by kernel_rfl
  have hs : Tryd.prog.stoodInHeld 29 = false := by kernel_rfl
  rw [run_eql_struct, run_equalIn_agg _ _ _ _ _ (by rw [h1]; exact Tryd.underlying29) hs, h1]
  have hp := eqPtr
  go_simp

end Go.Proofs.Qxb6613740aDoor
