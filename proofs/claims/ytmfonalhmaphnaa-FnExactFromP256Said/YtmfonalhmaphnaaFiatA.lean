/-
  What the engine is told of this program, and that it is so.
-/
import Derived.Test.YtmfonalhmaphnaaCmov
import Derived.Test.YtmfonalhmaphnaaEngF
import Derived.Test.YtmfonalhmaphnaaEngE
import Derived.Test.YtmfonalhmaphnaaMulW
import Derived.KernelRfl
namespace Go.Proofs.Ytmfonalhmaphnaa
open Go Go.RowKit

def cfg : Cfg :=
  { word := [22, 41], byte := [],
    arr := [(31, 4), (23, 4), (32, 4)],
    add64 := 15, sub64 := 16, mul64 := some 14, cmov := some 17 }

theorem info_of {P : Program} {t s : Nat} {z : Option Value} (h : (P.info? t).map (fun i => (i.size, i.zero)) = some (s, z)) : ∃ i, P.info? t = some i ∧ i.size = s ∧ i.zero = z := by
  cases hi : P.info? t with
  | none => rw [hi] at h; cases h
  | some i => rw [hi] at h; simp at h; exact ⟨i, rfl, h.1, h.2⟩

theorem size_of {P : Program} {t s : Nat} (h : (P.info? t).map (fun i => i.size) = some s) : ∃ i, P.info? t = some i ∧ i.size = s := by
  cases hi : P.info? t with
  | none => rw [hi] at h; cases h
  | some i => rw [hi] at h; simp at h; exact ⟨i, rfl, h⟩

theorem infoW : (Try.prog.info? 22).map (fun i => (i.size, i.zero)) = some (1, some (.int .u64 0)) := by kernel_rfl
theorem infoU : (Try.prog.info? 41).map (fun i => (i.size, i.zero)) = some (1, some (.int .u64 0)) := by kernel_rfl
theorem sizeW : (Try.prog.info? 22).map (fun i => i.size) = some 1 := by kernel_rfl

theorem add64_0 (x y : Nat) (w : World) : (callFunc 15 #[.int .u64 (x : Int), .int .u64 (y : Int), .int .u64 ((0 : Nat) : Int)]).run Try.prog w =
    .ok (.value (.tuple #[.int .u64 (((x + y + 0) % 18446744073709551616 : Nat) : Int), .int .u64 (((x + y + 0) / 18446744073709551616 : Nat) : Int)])) w := by kernel_rfl
theorem add64_1 (x y : Nat) (w : World) : (callFunc 15 #[.int .u64 (x : Int), .int .u64 (y : Int), .int .u64 ((1 : Nat) : Int)]).run Try.prog w =
    .ok (.value (.tuple #[.int .u64 (((x + y + 1) % 18446744073709551616 : Nat) : Int), .int .u64 (((x + y + 1) / 18446744073709551616 : Nat) : Int)])) w := by kernel_rfl
theorem sub64_0 (x y : Nat) (w : World) : (callFunc 16 #[.int .u64 (x : Int), .int .u64 (y : Int), .int .u64 ((0 : Nat) : Int)]).run Try.prog w =
    .ok (.value (.tuple #[.int .u64 (((x + 18446744073709551616 - y - 0) % 18446744073709551616 : Nat) : Int), .int .u64 ((if x < y + 0 then 1 else 0 : Nat) : Int)])) w := by kernel_rfl
theorem sub64_1 (x y : Nat) (w : World) : (callFunc 16 #[.int .u64 (x : Int), .int .u64 (y : Int), .int .u64 ((1 : Nat) : Int)]).run Try.prog w =
    .ok (.value (.tuple #[.int .u64 (((x + 18446744073709551616 - y - 1) % 18446744073709551616 : Nat) : Int), .int .u64 ((if x < y + 1 then 1 else 0 : Nat) : Int)])) w := by kernel_rfl

theorem cfg_ok : cfg.Ok Try.prog where
  word := by
    intro t ht
    simp only [cfg, List.mem_cons, List.not_mem_nil, or_false] at ht
    rcases ht with rfl | rfl
    · exact ⟨Try.underlying22, info_of infoW⟩
    · exact ⟨Try.underlying41, info_of infoU⟩
  byte := by
    intro t ht
    cases ht
  arr := by
    intro t n ht
    simp only [cfg, List.mem_cons, List.not_mem_nil, or_false, Prod.mk.injEq] at ht
    rcases ht with ⟨rfl, rfl⟩ | ⟨rfl, rfl⟩ | ⟨rfl, rfl⟩
    · obtain ⟨i, h1, h2⟩ := size_of sizeW; exact ⟨_, i, Try.underlying31, h1, h2⟩
    · obtain ⟨i, h1, h2⟩ := size_of sizeW; exact ⟨_, i, Try.underlying23, h1, h2⟩
    · obtain ⟨i, h1, h2⟩ := size_of sizeW; exact ⟨_, i, Try.underlying32, h1, h2⟩
  add64 := by
    intro x y c w hc
    have : c = 0 ∨ c = 1 := by omega
    rcases this with rfl | rfl
    · exact add64_0 x y w
    · exact add64_1 x y w
  sub64 := by
    intro x y c w hc
    have : c = 0 ∨ c = 1 := by omega
    rcases this with rfl | rfl
    · exact sub64_0 x y w
    · exact sub64_1 x y w
  mulRun := by intro g hg args w; cases hg; exact Try.call14 args w
  mul64 := by intro g hg x y w hx hy; cases hg; exact mul64_any x y hx hy w
  cmovRun := by intro g hg args w; cases hg; exact Try.call17 args w
  cmov := by intro g hg p c x y w v h1 h2 h3 h4 h5; cases hg; exact cmov_any p c x y w v h1 h2 h3 h4 h5

theorem mixed : Try.prog.follows .mixedOrders = true := by kernel_rfl

end Go.Proofs.Ytmfonalhmaphnaa
