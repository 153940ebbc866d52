import Derived.Test.Qxb6609082aDoorW13
import Derived.OwnWalk
import Derived.Lib.EndianBits
import Derived.Deep.AppendLies
namespace Go.Proofs.Qxb6609082aDoor
open Go Go.RowKit

/-- The bytes of h, the greatest first. -/
def be8 (h : Int) : List Value := [.int .u8 (h / 72057594037927936), .int .u8 (h / 281474976710656 % 256), .int .u8 (h / 1099511627776 % 256), .int .u8 (h / 4294967296 % 256), .int .u8 (h / 16777216 % 256), .int .u8 (h / 65536 % 256), .int .u8 (h / 256 % 256), .int .u8 (h % 256)]

/-- The answer: a slice of the eight bytes. -/
def R51 (h : Int) (w : World) (e : Ending) (w' : World) : Prop :=
  ∃ g cap, e = .returned (.slice (some ⟨g, 0, none⟩) 8 cap) ∧ Below w.heap.size w w' ∧ ∀ j u, (be8 h)[j]? = some u → w'.cell? ⟨g, j, none⟩ = some u

set_option maxHeartbeats 2000000 in
theorem be_append (h : Int) (w : World) (h0 : 0 ≤ h) (h1 : h < 18446744073709551616) : Calls Tryd.prog 51 #[.slice none 0 0, .int .u64 h] w (R51 h w) := by
  obtain ⟨i0, hi, hz0, hz1, hz2⟩ := info_parts (show (Tryd.prog.info? 5).map (fun i => (i.zero, i.size, i.bytes)) = some (some (.int .u8 0), 1, 1) by kernel_rfl)
  go_enter Tryd.func51, Tryd.ntmps51
  go_wp2_with (at_builtin; refine wpList_append_own _ rfl _ _ 22 rfl w.heap.size 5 i0 (.int .u8 0) 1 1 Tryd.underlying22 hi hz0 hz1 hz2 rfl (by decide) _ 0 [] rfl (World.ownsRow_nil _ _ _ _) _ 8 8 (be8 h) rfl rfl ?c1 ?c2 ?c3 ?c4 ?c5 ?_)
  case c1 => exact World.news_of_block (heap_alloc_new w _)
  case c2 => intro u hu; simp [be8] at hu; rcases hu with rfl | rfl | rfl | rfl | rfl | rfl | rfl | rfl <;> rfl
  case c3 => unfold maxLen; omega
  case c4 => omega
  case c5 => simp
  intro v1 w1 hown hg _
  obtain ⟨g, cap, rfl, hb, hlt⟩ := hown.form (by decide)
  have hc := hown.cells (g := g) rfl
  have B1 : Below w.heap.size w w1 := ((Below.refl _ w).alloc (Nat.le_refl _) _).trans ⟨hg.os, hg.tape, hg.output, hg.size, fun k hk => hg.block k (by simp; omega) (by simp [Value.ownBlock])⟩
  have E : Hid (R51 h w (.returned (.slice (some ⟨g, 0, none⟩) 8 cap)) w1) := ⟨g, cap, rfl, B1, fun j u hu => by have := hc j u hu; rwa [Go.WideShapes.add_plain, Nat.zero_add] at this⟩
  clear hc B1 hown hg
  go_wp2
  go_ret
  exact E.out

theorem fnv_sum (bh : Nat) (h : Int) (w : World) (h0 : 0 ≤ h) (h1 : h < 18446744073709551616) (hc : w.cell? ⟨bh, 0, none⟩ = some (.int .u64 h)) : Calls Tryd.prog 48 #[.pointer (some ⟨bh, 0, none⟩), .slice none 0 0] w (R51 h w) := by
  go_enter Tryd.func48, Tryd.ntmps48
  go_wp2_with fail
  refine (be_append h w h0 h1).mono ?_
  rintro e w1 ⟨g, cap, rfl, hb, hj⟩
  go_wp2_with fail
  go_ret
  exact ⟨g, cap, rfl, hb, hj⟩

theorem zzsum (bs bh : Nat) (h : Int) (w : World) (h0 : 0 ≤ h) (h1 : h < 18446744073709551616) (c1 : w.cell? ⟨bs, 1, none⟩ = some (.iface 56 (.pointer (some ⟨bh, 0, none⟩)))) (hc : w.cell? ⟨bh, 0, none⟩ = some (.int .u64 h)) :
    Calls Tryd.prog 10 #[.pointer (some ⟨bs, 0, none⟩)] w (R51 h w) := by
  go_enter Tryd.func10, Tryd.ntmps10
  go_wp2_with fail
  refine (fnv_sum bh h w h0 h1 hc).mono ?_
  rintro e w1 ⟨g, cap, rfl, hb, hj⟩
  go_wp2_with fail
  go_ret
  exact ⟨g, cap, rfl, hb, hj⟩

/-- The number that the first i bytes spell. -/
def beP (h : Int) (i : Nat) : Int := h / 2 ^ (64 - 8 * i)

theorem be_step (h : Int) (h0 : 0 ≤ h) (h1 : h < 18446744073709551616) (i : Nat) (hi : i < 8) : ∃ c, (be8 h)[i]? = some (.int .u8 c) ∧ bits .or .u64 (IntKind.u64.wrap (beP h i * 256)) (IntKind.u64.wrap c) = beP h (i + 1) := by
  have key : ∀ x c : Int, 0 ≤ x → x < 72057594037927936 → 0 ≤ c → c < 256 → bits .or .u64 (IntKind.u64.wrap (x * 256)) (IntKind.u64.wrap c) = x * 256 + c := fun x c x0 x1 c0 c1 => by
    rw [u64_wrap_id _ (by omega) (by omega), u64_wrap_id _ (by omega) (by omega)]
    exact bits_join .u64 64 (by decide) wraps_u64 8 (x * 256) c (by omega) (by omega) (by omega) c0 c1 (by omega)
  have e : i = 0 ∨ i = 1 ∨ i = 2 ∨ i = 3 ∨ i = 4 ∨ i = 5 ∨ i = 6 ∨ i = 7 := by omega
  rcases e with rfl | rfl | rfl | rfl | rfl | rfl | rfl | rfl <;> refine ⟨_, rfl, ?_⟩ <;> simp only [beP, Nat.reduceMul, Nat.reduceSub, Nat.reduceAdd, Int.reducePow] <;> rw [key _ _ (by omega) (by omega) (by omega) (by omega)] <;> omega

theorem beP0 (h : Int) (h0 : 0 ≤ h) (h1 : h < 18446744073709551616) : beP h 0 = 0 := by
  simp only [beP, Nat.reduceMul, Nat.reduceSub, Int.reducePow]
  omega
theorem beP8 (h : Int) : beP h 8 = h := by simp [beP]

/-- It returns x; the world is as it was. -/
def RU (x : Int) (w : World) (e : Ending) (w' : World) : Prop := e = .returned (.int .u64 x) ∧ w' = w

theorem be_read (h : Int) (w : World) (g cap : Nat) (h0 : 0 ≤ h) (h1 : h < 18446744073709551616) (hc : ∀ j u, (be8 h)[j]? = some u → w.cell? ⟨g, j, none⟩ = some u) : Calls Tryd.prog 11 #[.slice (some ⟨g, 0, none⟩) 8 cap] w (RU h w) := by
  have HC : Hid (∀ j u, (be8 h)[j]? = some u → w.cell? ⟨g, j, none⟩ = some u) := hc
  clear hc
  go_enter Tryd.func11, Tryd.ntmps11
  go_wp2_with fail
  go_loopw [3, 4] (fun s3 s4 wr => ∃ k : Nat, k ≤ 8 ∧ s4 = .int .i64 k ∧ s3 = .int .u64 (beP h k) ∧ wr = w) (fun _ s4 _ => 8 - (intOf s4).toNat)
  case atStart => exact ⟨0, by omega, rfl, by rw [beP0 h h0 h1], rfl⟩
  case round =>
    obtain ⟨k, hk, rfl, rfl, rfl⟩ := hrel
    by_cases hlt : k < 8
    · have hlti : (k : Int) < 8 := by omega
      obtain ⟨c, hcc, hor⟩ := be_step h h0 h1 k hlt
      have hpk := HC.out k _ hcc
      go_wp2_with fail
      go_roundw
      case rel => exact ⟨k + 1, by omega, by go_num, rfl, trivial⟩
      case measure => simp [intOf]; omega
    · obtain rfl : k = 8 := by omega
      go_wp2_with fail
      go_ret
      exact ⟨by rw [beP8]; rfl, rfl⟩
end Go.Proofs.Qxb6609082aDoor
