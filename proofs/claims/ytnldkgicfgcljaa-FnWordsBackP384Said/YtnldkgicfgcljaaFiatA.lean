/-
  What the engine is told of this program, and that it is so.
-/
import Derived.Test.YtnldkgicfgcljaaCmov
import Derived.Test.YtnldkgicfgcljaaEngF
import Derived.Test.YtnldkgicfgcljaaEngE
import Derived.KernelRfl
namespace Go.Proofs.Ytnldkgicfgcljaa
open Go Go.RowKit

def cfg : Cfg :=
  { word := [22, 43], byte := [5],
    arr := [(44, 6), (25, 6), (32, 48)],
    add64 := 31, sub64 := 30, mul64 := none, cmov := some 25 }

theorem info_of {P : Program} {t s : Nat} {z : Option Value} (h : (P.info? t).map (fun i => (i.size, i.zero)) = some (s, z)) : ∃ i, P.info? t = some i ∧ i.size = s ∧ i.zero = z := by
  cases hi : P.info? t with
  | none => rw [hi] at h; cases h
  | some i => rw [hi] at h; simp at h; exact ⟨i, rfl, h.1, h.2⟩

theorem size_of {P : Program} {t s : Nat} (h : (P.info? t).map (fun i => i.size) = some s) : ∃ i, P.info? t = some i ∧ i.size = s := by
  cases hi : P.info? t with
  | none => rw [hi] at h; cases h
  | some i => rw [hi] at h; simp at h; exact ⟨i, rfl, h⟩

theorem infoW : (Try.prog.info? 22).map (fun i => (i.size, i.zero)) = some (1, some (.int .u64 0)) := by kernel_rfl
theorem infoU : (Try.prog.info? 43).map (fun i => (i.size, i.zero)) = some (1, some (.int .u64 0)) := by kernel_rfl
theorem infoY : (Try.prog.info? 5).map (fun i => (i.size, i.zero)) = some (1, some (.int .u8 0)) := by kernel_rfl
theorem sizeW : (Try.prog.info? 22).map (fun i => i.size) = some 1 := by kernel_rfl
theorem sizeY : (Try.prog.info? 5).map (fun i => i.size) = some 1 := by kernel_rfl

theorem add64_0 (x y : Nat) (w : World) : (callFunc 31 #[.int .u64 (x : Int), .int .u64 (y : Int), .int .u64 ((0 : Nat) : Int)]).run Try.prog w =
    .ok (.value (.tuple #[.int .u64 (((x + y + 0) % 18446744073709551616 : Nat) : Int), .int .u64 (((x + y + 0) / 18446744073709551616 : Nat) : Int)])) w := by kernel_rfl
theorem add64_1 (x y : Nat) (w : World) : (callFunc 31 #[.int .u64 (x : Int), .int .u64 (y : Int), .int .u64 ((1 : Nat) : Int)]).run Try.prog w =
    .ok (.value (.tuple #[.int .u64 (((x + y + 1) % 18446744073709551616 : Nat) : Int), .int .u64 (((x + y + 1) / 18446744073709551616 : Nat) : Int)])) w := by kernel_rfl
theorem sub64_0 (x y : Nat) (w : World) : (callFunc 30 #[.int .u64 (x : Int), .int .u64 (y : Int), .int .u64 ((0 : Nat) : Int)]).run Try.prog w =
    .ok (.value (.tuple #[.int .u64 (((x + 18446744073709551616 - y - 0) % 18446744073709551616 : Nat) : Int), .int .u64 ((if x < y + 0 then 1 else 0 : Nat) : Int)])) w := by kernel_rfl
theorem sub64_1 (x y : Nat) (w : World) : (callFunc 30 #[.int .u64 (x : Int), .int .u64 (y : Int), .int .u64 ((1 : Nat) : Int)]).run Try.prog w =
    .ok (.value (.tuple #[.int .u64 (((x + 18446744073709551616 - y - 1) % 18446744073709551616 : Nat) : Int), .int .u64 ((if x < y + 1 then 1 else 0 : Nat) : Int)])) w := by kernel_rfl

theorem cfg_ok : cfg.Ok Try.prog where
  word := by
    intro t ht
    simp only [cfg, List.mem_cons, List.not_mem_nil, or_false] at ht
    rcases ht with rfl | rfl
    · exact ⟨Try.underlying22, info_of infoW⟩
    · exact ⟨Try.underlying43, info_of infoU⟩
  byte := by
    intro t ht
    simp only [cfg, List.mem_cons, List.not_mem_nil, or_false] at ht
    subst ht
    exact ⟨Try.underlying5, info_of infoY⟩
  arr := by
    intro t n ht
    simp only [cfg, List.mem_cons, List.not_mem_nil, or_false, Prod.mk.injEq] at ht
    rcases ht with ⟨rfl, rfl⟩ | ⟨rfl, rfl⟩ | ⟨rfl, rfl⟩
    · obtain ⟨i, h1, h2⟩ := size_of sizeW; exact ⟨_, i, Try.underlying44, h1, h2⟩
    · obtain ⟨i, h1, h2⟩ := size_of sizeW; exact ⟨_, i, Try.underlying25, h1, h2⟩
    · obtain ⟨i, h1, h2⟩ := size_of sizeY; exact ⟨_, i, Try.underlying32, h1, h2⟩
  add64 := by
    intro x y c w hc
    have : c = 0 ∨ c = 1 := by omega
    rcases this with rfl | rfl
    · exact add64_0 x y w
    · exact add64_1 x y w
  sub64 := by
    intro x y c w hc
    have : c = 0 ∨ c = 1 := by omega
    rcases this with rfl | rfl
    · exact sub64_0 x y w
    · exact sub64_1 x y w
  mulRun := by intro g hg; cases hg
  mul64 := by intro g hg; cases hg
  cmovRun := by intro g hg args w; cases hg; exact Try.call25 args w
  cmov := by intro g hg p c x y w v h1 h2 h3 h4 h5; cases hg; exact cmov_any p c x y w v h1 h2 h3 h4 h5

theorem mixed : Try.prog.follows .mixedOrders = true := by kernel_rfl

end Go.Proofs.Ytnldkgicfgcljaa
