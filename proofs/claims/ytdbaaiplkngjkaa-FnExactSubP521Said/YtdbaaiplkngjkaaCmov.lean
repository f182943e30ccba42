/-
  The conditional move of a word: what a call does.
-/
import Derived.Test.YtdbaaiplkngjkaaProg
import Derived.Laws.Bits64
import Derived.Laws.Bits64b
import Derived.WalkKit
import Derived.Outline
namespace Go.Proofs.Ytdbaaiplkngjkaa
open Go Go.RowKit

theorem full_and {x : Nat} (hx : x < 18446744073709551616) : 18446744073709551615 &&& x = x := by
  rw [Nat.and_comm]; exact (Nat.and_two_pow_sub_one_eq_mod x 64).trans (Nat.mod_eq_of_lt hx)

theorem b_and_zero {y : Nat} (hy : y < 18446744073709551616) : bits .and .u64 0 (y : Int) = 0 := by
  have := bits_and_u64_nat 0 y (by omega) hy
  simpa using this

theorem b_and_full {x : Nat} (hx : x < 18446744073709551616) : bits .and .u64 18446744073709551615 (x : Int) = x := by
  have := bits_and_u64_nat 18446744073709551615 x (by omega) hx
  rw [full_and hx] at this
  exact this

theorem b_xor0 : bits .xor .u64 IntKind.u64.max 0 = 18446744073709551615 := by decide +kernel
theorem b_xor1 : bits .xor .u64 IntKind.u64.max 18446744073709551615 = 0 := by decide +kernel

theorem b_or_left {x : Nat} (hx : x < 18446744073709551616) : bits .or .u64 0 (x : Int) = x := by
  have := bits_or_u64_nat 0 x (by omega) hx
  simpa using this

theorem b_or_right {x : Nat} (hx : x < 18446744073709551616) : bits .or .u64 (x : Int) 0 = x := by
  have := bits_or_u64_nat x 0 hx (by omega)
  simpa using this

set_option maxHeartbeats 400000 in
theorem cmov0 (p : Addr) (x y : Nat) (w : World) (v : Value) (hx : x < 18446744073709551616) (hy : y < 18446744073709551616) (hc : w.cell? p = some v) (hf : w.frozen? p = false) :
    Calls Try.prog 18 #[.pointer (some p), .int .u64 0, .int .u64 (x : Int), .int .u64 (y : Int)] w fun e w' =>
      e = .returned (.tuple #[]) ∧ w' = w.setCell p (.int .u64 (x : Int)) := by
  go_enter Try.func18, Try.ntmps18
  go_wp2
  go_end0
  exact ⟨rfl, by rw [b_and_zero hy, b_xor0, b_and_full hx, b_or_left hx]⟩

set_option maxHeartbeats 400000 in
theorem cmov1 (p : Addr) (x y : Nat) (w : World) (v : Value) (hx : x < 18446744073709551616) (hy : y < 18446744073709551616) (hc : w.cell? p = some v) (hf : w.frozen? p = false) :
    Calls Try.prog 18 #[.pointer (some p), .int .u64 1, .int .u64 (x : Int), .int .u64 (y : Int)] w fun e w' =>
      e = .returned (.tuple #[]) ∧ w' = w.setCell p (.int .u64 (y : Int)) := by
  go_enter Try.func18, Try.ntmps18
  go_wp2
  go_end0
  refine ⟨rfl, ?_⟩
  rw [b_and_full hy, b_xor1, b_and_zero hx, b_or_right hy]

theorem cmov_any (p : Addr) (c x y : Nat) (w : World) (v : Value) (h1 : c ≤ 1) (hx : x < 18446744073709551616) (hy : y < 18446744073709551616) (hc : w.cell? p = some v) (hf : w.frozen? p = false) :
    Calls Try.prog 18 #[.pointer (some p), .int .u64 (c : Int), .int .u64 (x : Int), .int .u64 (y : Int)] w fun e w' =>
      e = .returned (.tuple #[]) ∧ w' = w.setCell p (.int .u64 ((if c = 0 then x else y : Nat) : Int)) := by
  have : c = 0 ∨ c = 1 := by omega
  rcases this with rfl | rfl
  · exact cmov0 p x y w v hx hy hc hf
  · exact cmov1 p x y w v hx hy hc hf


set_option maxHeartbeats 400000 in
theorem zzmove (c x y : Nat) (w : World) (h1 : c ≤ 1) (hx : x < 18446744073709551616) (hy : y < 18446744073709551616) :
    Calls Try.prog 13 #[.int .u64 (c : Int), .int .u64 (x : Int), .int .u64 (y : Int)] w fun e w' =>
      e = .returned (.int .u64 ((if c = 0 then x else y : Nat) : Int)) ∧ Grown w w' := by
  go_enter Try.func13, Try.ntmps13
  go_wp2_with fail
  refine (cmov_any _ c x y _ (.int .u64 0) h1 hx hy (by simp) (by simp)).mono ?_
  rintro e w' ⟨rfl, rfl⟩
  go_wp2_with fail
  all_goals (go_ret; exact ⟨rfl, (Grown.refl _).alloc _ _⟩)

end Go.Proofs.Ytdbaaiplkngjkaa
