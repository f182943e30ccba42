/-
  What the engine is told of this program, and that it is so.
-/
import Derived.Test.YtdbaaiplkngjkaaCmov
import Derived.Test.YtdbaaiplkngjkaaEngF
import Derived.Test.YtdbaaiplkngjkaaEngE
import Derived.KernelRfl
namespace Go.Proofs.Ytdbaaiplkngjkaa
open Go Go.RowKit

def cfg : Cfg :=
  { word := [22, 37], byte := [5],
    arr := [(38, 9), (25, 9)],
    add64 := 22, sub64 := 21, mul64 := none, cmov := some 18 }

theorem info_of {P : Program} {t s : Nat} {z : Option Value} (h : (P.info? t).map (fun i => (i.size, i.zero)) = some (s, z)) : ∃ i, P.info? t = some i ∧ i.size = s ∧ i.zero = z := by
  cases hi : P.info? t with
  | none => rw [hi] at h; cases h
  | some i => rw [hi] at h; simp at h; exact ⟨i, rfl, h.1, h.2⟩

theorem size_of {P : Program} {t s : Nat} (h : (P.info? t).map (fun i => i.size) = some s) : ∃ i, P.info? t = some i ∧ i.size = s := by
  cases hi : P.info? t with
  | none => rw [hi] at h; cases h
  | some i => rw [hi] at h; simp at h; exact ⟨i, rfl, h⟩

theorem infoW : (Try.prog.info? 22).map (fun i => (i.size, i.zero)) = some (1, some (.int .u64 0)) := by kernel_rfl
theorem infoU : (Try.prog.info? 37).map (fun i => (i.size, i.zero)) = some (1, some (.int .u64 0)) := by kernel_rfl
theorem infoY : (Try.prog.info? 5).map (fun i => (i.size, i.zero)) = some (1, some (.int .u8 0)) := by kernel_rfl
theorem sizeW : (Try.prog.info? 22).map (fun i => i.size) = some 1 := by kernel_rfl
theorem sizeY : (Try.prog.info? 5).map (fun i => i.size) = some 1 := by kernel_rfl

theorem add64_0 (x y : Nat) (w : World) : (callFunc 22 #[.int .u64 (x : Int), .int .u64 (y : Int), .int .u64 ((0 : Nat) : Int)]).run Try.prog w =
    .ok (.value (.tuple #[.int .u64 (((x + y + 0) % 18446744073709551616 : Nat) : Int), .int .u64 (((x + y + 0) / 18446744073709551616 : Nat) : Int)])) w := by kernel_rfl
theorem add64_1 (x y : Nat) (w : World) : (callFunc 22 #[.int .u64 (x : Int), .int .u64 (y : Int), .int .u64 ((1 : Nat) : Int)]).run Try.prog w =
    .ok (.value (.tuple #[.int .u64 (((x + y + 1) % 18446744073709551616 : Nat) : Int), .int .u64 (((x + y + 1) / 18446744073709551616 : Nat) : Int)])) w := by kernel_rfl
theorem sub64_0 (x y : Nat) (w : World) : (callFunc 21 #[.int .u64 (x : Int), .int .u64 (y : Int), .int .u64 ((0 : Nat) : Int)]).run Try.prog w =
    .ok (.value (.tuple #[.int .u64 (((x + 18446744073709551616 - y - 0) % 18446744073709551616 : Nat) : Int), .int .u64 ((if x < y + 0 then 1 else 0 : Nat) : Int)])) w := by kernel_rfl
theorem sub64_1 (x y : Nat) (w : World) : (callFunc 21 #[.int .u64 (x : Int), .int .u64 (y : Int), .int .u64 ((1 : Nat) : Int)]).run Try.prog w =
    .ok (.value (.tuple #[.int .u64 (((x + 18446744073709551616 - y - 1) % 18446744073709551616 : Nat) : Int), .int .u64 ((if x < y + 1 then 1 else 0 : Nat) : Int)])) w := by kernel_rfl

theorem cfg_ok : cfg.Ok Try.prog where
  word := by
    intro t ht
    simp only [cfg, List.mem_cons, List.not_mem_nil, or_false] at ht
    rcases ht with rfl | rfl
    · exact ⟨Try.underlying22, info_of infoW⟩
    · exact ⟨Try.underlying37, info_of infoU⟩
  byte := by
    intro t ht
    simp only [cfg, List.mem_cons, List.not_mem_nil, or_false] at ht
    subst ht
    exact ⟨Try.underlying5, info_of infoY⟩
  arr := by
    intro t n ht
    simp only [cfg, List.mem_cons, List.not_mem_nil, or_false, Prod.mk.injEq] at ht
    rcases ht with ⟨rfl, rfl⟩ | ⟨rfl, rfl⟩
    · obtain ⟨i, h1, h2⟩ := size_of sizeW; exact ⟨_, i, Try.underlying38, h1, h2⟩
    · obtain ⟨i, h1, h2⟩ := size_of sizeW; exact ⟨_, i, Try.underlying25, h1, h2⟩
  add64 := by
    intro x y c w hc
    have : c = 0 ∨ c = 1 := by omega
    rcases this with rfl | rfl
    · exact add64_0 x y w
    · exact add64_1 x y w
  sub64 := by
    intro x y c w hc
    have : c = 0 ∨ c = 1 := by omega
    rcases this with rfl | rfl
    · exact sub64_0 x y w
    · exact sub64_1 x y w
  mulRun := by intro g hg; cases hg
  mul64 := by intro g hg; cases hg
  cmovRun := by intro g hg args w; cases hg; exact Try.call18 args w
  cmov := by intro g hg p c x y w v h1 h2 h3 h4 h5; cases hg; exact cmov_any p c x y w v h1 h2 h3 h4 h5

theorem mixed : Try.prog.follows .mixedOrders = true := by kernel_rfl

end Go.Proofs.Ytdbaaiplkngjkaa
