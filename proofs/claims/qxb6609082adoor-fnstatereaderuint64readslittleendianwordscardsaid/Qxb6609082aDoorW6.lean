import Derived.Test.Qxb6609082aDoorW5
import Derived.Lib.SliceRun
import Derived.BigFrame
namespace Go.Proofs.Qxb6609082aDoor
open Go Go.RowKit
attribute [local go_sem ↓] Go.wp_at_zero Go.wp_at_succ

set_option maxHeartbeats 1000000 in
theorem full_any (bb bf br bp : Nat) (sa : Option Addr) (d : Nat → Int) (n pos r q : Nat) (ae : Addr) (u3 : TypeId) (v3 : Value) (w : World) (h : Rd bb bf br sa d n pos r q w) (hn : n ≤ 131072)
    (g1 : bp ≠ bb) (g2 : bp ≠ bf) (g3 : bp ≠ br) (g4 : ∀ bd, sa = some ⟨bd, 0, none⟩ → bd ≠ bp) (hp : Room bp 0 8 w) (hg : w.cell? ⟨2, 0, none⟩ = some (.iface 69 (.pointer (some ae)))) (hu : w.cell? ⟨3, 0, none⟩ = some (.iface u3 v3))
    (hgs : ∀ x, x ≤ 3 → x ≠ bb ∧ x ≠ bf ∧ x ≠ br ∧ x ≠ bp) (hgl : 3 < w.heap.size) :
    Calls Tryd.prog 21 #[.iface 34 (.pointer (some ⟨bb, 0, none⟩)), .slice (some ⟨bp, 0, none⟩) 8 8] w (Full bb bf br bp sa d n pos w) := by
  go_enter Tryd.func21, Tryd.ntmps21
  go_wp2_with fail
  refine (atLeast_any bb bf br bp sa d n pos r q ae u3 v3 w h hn g1 g2 g3 g4 hp hg hu hgs hgl).mono ?_
  rintro e w' ⟨k, er, rfl, hL, hr⟩
  go_wp2_with fail
  go_ret2
  exact ⟨k, er, rfl, hL, hr⟩

/-- One byte into the hash. -/
def fnvStep (h c : Int) : Int := IntKind.u64.wrap (bits BinOp.xor IntKind.u64 h (IntKind.u64.wrap c) * 1099511628211)
/-- The first k bytes into the hash. -/
def fnvN (b : Nat → Int) (h0 : Int) : Nat → Int
  | 0 => h0
  | k + 1 => fnvStep (fnvN b h0 k) (b k)

theorem fnvN_add (b : Nat → Int) (h0 : Int) (i : Nat) : ∀ k, fnvN (fun j => b (i + j)) (fnvN b h0 i) k = fnvN b h0 (i + k)
  | 0 => rfl
  | k + 1 => by
    show fnvStep (fnvN (fun j => b (i + j)) (fnvN b h0 i) k) (b (i + k)) = fnvStep (fnvN b h0 (i + k)) (b (i + k))
    rw [fnvN_add b h0 i k]

/-- Write's answer. -/
def R50 (bh : Nat) (b : Nat → Int) (h0 : Int) (w : World) (e : Ending) (w' : World) : Prop :=
  e = .returned (.tuple #[.int .i64 8, .nilIface]) ∧ w' = w.setCell ⟨bh, 0, none⟩ (.int .u64 (fnvN b h0 8))

set_option maxHeartbeats 1000000 in
theorem write_any (bh bp : Nat) (b : Nat → Int) (h0 : Int) (w : World) (hc : w.cell? ⟨bh, 0, none⟩ = some (.int .u64 h0)) (hf : w.frozen? ⟨bh, 0, none⟩ = false) (hp : ∀ j, j < 8 → w.cell? ⟨bp, j, none⟩ = some (.int .u8 (b j))) :
    Calls Tryd.prog 50 #[.pointer (some ⟨bh, 0, none⟩), .slice (some ⟨bp, 0, none⟩) 8 8] w (R50 bh b h0 w) := by
  have HP : Hid (∀ j, j < 8 → w.cell? ⟨bp, j, none⟩ = some (.int .u8 (b j))) := hp
  clear hp
  go_enter Tryd.func50, Tryd.ntmps50
  go_wp2_with fail
  go_loopw [6, 8, 14] (fun s6 s8 s14 wr => ∃ k : Nat, k ≤ 8 ∧ s14 = .int .i64 k ∧ s6 = .int .u64 (fnvN b h0 k) ∧ wr = w) (fun _ _ s14 _ => 8 - (intOf s14).toNat)
  case atStart => exact ⟨0, by omega, rfl, rfl, rfl⟩
  case round =>
    obtain ⟨k, hk, rfl, rfl, rfl⟩ := hrel
    by_cases hlt : k < 8
    · have hlti : (k : Int) < 8 := by omega
      have hpk := HP.out k hlt
      go_wp2_with fail
      go_roundw
      case rel => exact ⟨k + 1, by omega, by go_num, rfl, trivial⟩
      case measure => simp [intOf]; omega
    · obtain rfl : k = 8 := by omega
      go_wp2_with fail
      go_ret2
      exact ⟨rfl, rfl⟩

/-- The byte at t; none behind the end. -/
def pad (d : Nat → Int) (n t : Nat) : Int := if t < n then d t else 0

/-- The state reader behind i reads of eight bytes, and what she has hashed. -/
structure SR (bs bb bf br bh : Nat) (sa : Option Addr) (d : Nat → Int) (n i : Nat) (h : Int) (w : World) : Prop where
  c0 : w.cell? ⟨bs, 0, none⟩ = some (.pointer (some ⟨bb, 0, none⟩))
  c1 : w.cell? ⟨bs, 1, none⟩ = some (.iface 56 (.pointer (some ⟨bh, 0, none⟩)))
  err : (8 * i ≤ n ∧ w.cell? ⟨bs, 5, none⟩ = some .nilIface ∧ ∃ r q, Rd bb bf br sa d n (8 * i) r q w) ∨ (n < 8 * i ∧ ∃ t x, w.cell? ⟨bs, 5, none⟩ = some (.iface t x))
  hc : w.cell? ⟨bh, 0, none⟩ = some (.int .u64 h)
  fs : w.frozen? ⟨bs, 5, none⟩ = false
  fh : w.frozen? ⟨bh, 0, none⟩ = false
  ls : bs < w.heap.size
  lh : bh < w.heap.size
  own : bs ≠ bb ∧ bs ≠ bf ∧ bs ≠ br ∧ bs ≠ bh ∧ bh ≠ bb ∧ bh ≠ bf ∧ bh ≠ br
  dn : ∀ bd, sa = some ⟨bd, 0, none⟩ → bd ≠ bs ∧ bd ≠ bh
  lo : 3 < bs ∧ 3 < bb ∧ 3 < bf ∧ 3 < br ∧ 3 < bh
  lb : bb < w.heap.size ∧ bf < w.heap.size ∧ br < w.heap.size ∧ ∀ bd, sa = some ⟨bd, 0, none⟩ → bd < w.heap.size

theorem SR.keep {bs bb bf br bh : Nat} {sa : Option Addr} {d : Nat → Int} {n i : Nat} {h : Int} {w w' : World} {S : List Nat} (s : SR bs bb bf br bh sa d n i h w) (k : Kept S w w') (h0 : bs ∉ S) (h1 : bb ∉ S) (h2 : bf ∉ S) (h3 : br ∉ S) (h4 : bh ∉ S)
    (h5 : ∀ bd, sa = some ⟨bd, 0, none⟩ → bd ∉ S) : SR bs bb bf br bh sa d n i h w' where
  c0 := (k.cell (p := ⟨bs, 0, none⟩) s.ls h0).trans s.c0
  c1 := (k.cell (p := ⟨bs, 1, none⟩) s.ls h0).trans s.c1
  err := by
    rcases s.err with ⟨a, b, r, q, c⟩ | ⟨a, t, x, b⟩
    · exact .inl ⟨a, (k.cell (p := ⟨bs, 5, none⟩) s.ls h0).trans b, r, q, c.keep k h1 h2 h3 h5⟩
    · exact .inr ⟨a, t, x, (k.cell (p := ⟨bs, 5, none⟩) s.ls h0).trans b⟩
  hc := (k.cell (p := ⟨bh, 0, none⟩) s.lh h4).trans s.hc
  fs := (k.frozen (p := ⟨bs, 5, none⟩) s.ls h0).trans s.fs
  fh := (k.frozen (p := ⟨bh, 0, none⟩) s.lh h4).trans s.fh
  ls := Nat.lt_of_lt_of_le s.ls k.size
  lh := Nat.lt_of_lt_of_le s.lh k.size
  own := s.own
  dn := s.dn
  lo := s.lo
  lb := ⟨Nat.lt_of_lt_of_le s.lb.1 k.size, Nat.lt_of_lt_of_le s.lb.2.1 k.size, Nat.lt_of_lt_of_le s.lb.2.2.1 k.size, fun bd e => Nat.lt_of_lt_of_le (s.lb.2.2.2 bd e) k.size⟩

/-- The hash behind one more read. -/
def fnvI (d : Nat → Int) (n i : Nat) (h : Int) : Int := if 8 * i ≤ n then fnvN (fun j => pad d n (8 * i + j)) h 8 else h

/-- read's answer. -/
def R18 (bs bb bf br bh bp : Nat) (sa : Option Addr) (d : Nat → Int) (n i : Nat) (h : Int) (w : World) (e : Ending) (w' : World) : Prop :=
  e = .returned (.tuple #[]) ∧ Kept [bs, bb, bf, br, bh, bp] w w' ∧ SR bs bb bf br bh sa d n (i + 1) (fnvI d n i h) w' ∧ ∀ j, j < 8 → w'.cell? ⟨bp, j, none⟩ = some (.int .u8 (pad d n (8 * i + j)))

theorem zero5 (w : World) : (zeroValue 5).run Tryd.prog w = .ok (.int .u8 0) w := by kernel_rfl

theorem readS_bad (bs bb bf br bh bp : Nat) (sa : Option Addr) (d : Nat → Int) (n i : Nat) (h : Int) (w : World) (s : SR bs bb bf br bh sa d n i h w) (hi : n < 8 * i) (hp : ∀ j, j < 8 → w.cell? ⟨bp, j, none⟩ = some (.int .u8 0))
    (hpf : ∀ j, w.frozen? ⟨bp, j, none⟩ = false) (g0 : bp ≠ bs) (g1 : bp ≠ bb) (g2 : bp ≠ bf) (g3 : bp ≠ br) (g4 : bp ≠ bh) (g5 : ∀ bd, sa = some ⟨bd, 0, none⟩ → bd ≠ bp) :
    Calls Tryd.prog 18 #[.pointer (some ⟨bs, 0, none⟩), .slice (some ⟨bp, 0, none⟩) 8 8] w (R18 bs bb bf br bh bp sa d n i h w) := by
  have hs : ∃ t x, w.cell? ⟨bs, 5, none⟩ = some (.iface t x) := by
    rcases s.err with ⟨a, _⟩ | ⟨_, b⟩
    · omega
    · exact b
  obtain ⟨t, x, he⟩ := id hs
  have hcl : ∀ ty, (Builtin.clear_ #[22] ty #[.slice (some ⟨bp, 0, none⟩) 8 8]).run Tryd.prog w = .ok (.tuple #[]) (w.setCells bp 0 (List.replicate 8 (.int .u8 0))) :=
    fun ty => Lib.run_clear_slice w 22 5 ty (.int .u8 0) Tryd.underlying22 zero5 rfl rfl bp 0 8 8 (by omega) (fun j hj => by rw [Nat.zero_add, hp j hj]; rfl) (fun j _ => hpf _)
  have K : Kept [bp] w (w.setCells bp 0 (List.replicate 8 (.int .u8 0))) := Kept.setCells (by simp) _ _ (Kept.refl _ _)
  have s' := s.keep K (by simpa using fun e => g0 e.symm) (by simpa using fun e => g1 e.symm) (by simpa using fun e => g2 e.symm) (by simpa using fun e => g3 e.symm) (by simpa using fun e => g4 e.symm) (fun bd e => by simpa using g5 bd e)
  have E : Hid (R18 bs bb bf br bh bp sa d n i h w (.returned (.tuple #[])) (w.setCells bp 0 (List.replicate 8 (.int .u8 0)))) := by
    refine ⟨rfl, K.mono (by simp), ?_, fun j hj => ?_⟩
    · rw [show fnvI d n i h = h by unfold fnvI; rw [if_neg (by omega)]]
      have e2 : (n < 8 * (i + 1) ∧ ∃ t x, (w.setCells bp 0 (List.replicate 8 (.int .u8 0))).cell? ⟨bs, 5, none⟩ = some (.iface t x)) := by
        refine ⟨by omega, ?_⟩
        rcases s'.err with ⟨a, _⟩ | ⟨_, b⟩
        · omega
        · exact b
      exact ⟨s'.c0, s'.c1, .inr e2, s'.hc, s'.fs, s'.fh, s'.ls, s'.lh, s'.own, s'.dn, s'.lo, s'.lb⟩
    · have := World.cell?_setCells_in bp (List.replicate 8 (Value.int .u8 0)) 0 w (fun j hj => by rw [Nat.zero_add, hp j (by simpa using hj)]; rfl) j (by simpa using hj)
      rw [Nat.zero_add] at this
      rw [this]
      have : pad d n (8 * i + j) = 0 := by unfold pad; rw [if_neg (by omega)]
      rw [this, List.getElem_replicate]
  clear hp hpf hs s s' K
  go_enter Tryd.func18, Tryd.ntmps18
  go_wp2_with (simp only [hcl])
  go_returns
  exact E.out
end Go.Proofs.Qxb6609082aDoor
