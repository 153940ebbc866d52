import Derived.Test.Qxb6613740aDoorW3
namespace Go.Proofs.Qxb6613740aDoor
open Go Go.RowKit
attribute [local go_sem ↓] Go.wp_at_zero Go.wp_at_succ

/-- AddrFrom4's answer, her two blocks written out. -/
def R26 (a b c d : Int) (p : Addr) (w : World) (e : Ending) (w' : World) : Prop :=
  e = .returned (.agg #[.int .u64 0, .int .u64 (281470681743360 + num4 a b c d), .pointer (some p)]) ∧ w' = (w.alloc (.cells #[.int .u8 a, .int .u8 b, .int .u8 c, .int .u8 d] 39)).alloc (.cells #[.int .u64 0, .int .u64 (281470681743360 + num4 a b c d), .pointer (some p)] 31)

set_option maxHeartbeats 2000000 in
theorem from4x (a b c d : Int) (p : Addr) (w : World) (ha : 0 ≤ a ∧ a < 256) (hb : 0 ≤ b ∧ b < 256) (hc : 0 ≤ c ∧ c < 256) (hd : 0 ≤ d ∧ d < 256) (hz : w.cell? ⟨1, 0, none⟩ = some (.pointer (some p))) :
    Calls Tryd.prog 26 #[.agg #[.int .u8 a, .int .u8 b, .int .u8 c, .int .u8 d]] w (R26 a b c d p w) := by
  obtain ⟨hz1, hz2⟩ := cell_two hz
  have hor := or_num a b c d ha hb hc hd
  go_enter Tryd.func26, Tryd.ntmps26
  go_wp2
  go_returns
  exact ⟨rfl, rfl⟩

/-- AddrPortFrom's answer, her two blocks written out. -/
def R25 (x pt : Int) (p : Addr) (w : World) (e : Ending) (w' : World) : Prop :=
  e = .returned (.agg #[.int .u64 0, .int .u64 (281470681743360 + x), .pointer (some p), .int .u16 pt]) ∧ w' = (w.alloc (.cells #[.int .u64 0, .int .u64 (281470681743360 + x), .pointer (some p)] 31)).alloc (.cells #[.int .u64 0, .int .u64 (281470681743360 + x), .pointer (some p), .int .u16 pt] 34)

theorem apFromx (x pt : Int) (p : Addr) (w : World) : Calls Tryd.prog 25 #[.agg #[.int .u64 0, .int .u64 (281470681743360 + x), .pointer (some p)], .int .u16 pt] w (R25 x pt p w) := by
  go_enter Tryd.func25, Tryd.ntmps25
  go_wp2
  go_returns
  exact ⟨rfl, rfl⟩

theorem or16 (b0 b1 : Int) (h0 : 0 ≤ b0 ∧ b0 < 256) (h1 : 0 ≤ b1 ∧ b1 < 256) : bits BinOp.or IntKind.u16 b1 (b0 * 256) = b0 * 256 + b1 := by
  rw [u16_or8 b1 (b0 * 256) h1.1 h1.2 (by omega) (by omega) (by omega)]
  omega

set_option maxHeartbeats 8000000 in
set_option maxRecDepth 100000 in
theorem be16 (bp off n c : Nat) (b0 b1 : Int) (w : World) (hn : 2 ≤ n) (h0 : 0 ≤ b0 ∧ b0 < 256) (h1 : 0 ≤ b1 ∧ b1 < 256) (c0 : w.cell? ⟨bp, off, none⟩ = some (.int .u8 b0)) (c1 : w.cell? ⟨bp, off + 1, none⟩ = some (.int .u8 b1)) :
    Calls Tryd.prog 31 #[.agg #[], .slice (some ⟨bp, off, none⟩) n c] w (R36 (.int .u16 (b0 * 256 + b1)) w) := by
  have p0 := (cell_two c0).1; have p1 := (cell_two c1).1
  have hor := or16 b0 b1 h0 h1
  have hn1 : (1 : Int) < (n : Int) := by omega
  have hn0 : (0 : Int) < (n : Int) := by omega
  go_enter Tryd.func31, Tryd.ntmps31
  go_wp2
  go_quiet (fail)
  go_wp2
  go_ret
  exact ⟨_, rfl, rfl⟩

/-- IPv4Unspecified's answer. -/
def R49 (p : Addr) (w : World) (e : Ending) (w' : World) : Prop :=
  e = .returned (.agg #[.int .u64 0, .int .u64 281470681743360, .pointer (some p)]) ∧
    w' = ((w.alloc (.cells #[.int .u64 0, .int .u64 281470681743360, .pointer (some p)] 31)).alloc (.cells #[.int .u8 0, .int .u8 0, .int .u8 0, .int .u8 0] 39)).alloc (.cells #[.int .u64 0, .int .u64 281470681743360, .pointer (some p)] 31)

theorem unspec4 (p : Addr) (w : World) (hz : w.cell? ⟨1, 0, none⟩ = some (.pointer (some p))) : Calls Tryd.prog 49 #[] w (R49 p w) := by
  obtain ⟨hz1, hz2⟩ := cell_two hz
  have hn : num4 0 0 0 0 = 0 := by decide
  go_enter Tryd.func49, Tryd.ntmps49
  go_wp2_with fail
  refine (from4x 0 0 0 0 p _ (by omega) (by omega) (by omega) (by omega) (hz1 _)).mono ?_
  rintro e w1 ⟨rfl, rfl⟩
  rw [hn]
  go_wp2_with fail
  go_returns
  exact ⟨rfl, rfl⟩

/-- IPv6Unspecified's answer. -/
def R50 (q : Addr) (w : World) (e : Ending) (w' : World) : Prop :=
  e = .returned (.agg #[.int .u64 0, .int .u64 0, .pointer (some q)]) ∧ w' = w.alloc (.cells #[.int .u64 0, .int .u64 0, .pointer (some q)] 31)

theorem unspec6 (q : Addr) (w : World) (hz : w.cell? ⟨3, 0, none⟩ = some (.pointer (some q))) : Calls Tryd.prog 50 #[] w (R50 q w) := by
  obtain ⟨hz1, hz2⟩ := cell_two hz
  go_enter Tryd.func50, Tryd.ntmps50
  go_wp2_with fail
  go_returns
  exact ⟨rfl, rfl⟩

theorem fields31 : some (TypeDesc.struct (Tryd.prog.fieldsOf 31)) = Tryd.prog.underlying 31 := by kernel_rfl

theorem eql31_same (l : Int) (p : Addr) (w : World) : (binOp .eql 31 (.agg #[.int .u64 0, .int .u64 l, .pointer (some p)]) (.agg #[.int .u64 0, .int .u64 l, .pointer (some p)])).run Tryd.prog w = .ok (.bool true) w := by
  have hs : Tryd.prog.stoodInHeld 31 = false := by kernel_rfl
  have hu := TypeDesc.struct.inj (Option.some.inj (fields31.trans Tryd.underlying31))
  rw [run_eql_struct, run_equalIn_agg _ _ _ _ _ (by rw [hu]; exact Tryd.underlying31) hs, hu]
  have hp := eqPtr
  go_simp

theorem eql31_other (l m : Int) (p q : Addr) (w : World) (h : l ≠ m) : (binOp .eql 31 (.agg #[.int .u64 0, .int .u64 l, .pointer (some p)]) (.agg #[.int .u64 0, .int .u64 m, .pointer (some q)])).run Tryd.prog w = .ok (.bool false) w := by
  have hs : Tryd.prog.stoodInHeld 31 = false := by kernel_rfl
  have hu := TypeDesc.struct.inj (Option.some.inj (fields31.trans Tryd.underlying31))
  rw [run_eql_struct, run_equalIn_agg _ _ _ _ _ (by rw [hu]; exact Tryd.underlying31) hs, hu]
  have hb : (l == m) = false := by simpa using h
  go_simp
end Go.Proofs.Qxb6613740aDoor
