/-
  Small laws on blocks and rows.
-/
import Derived.Test.YtdbaaiplkngjkaaEngH
import Derived.Below
namespace Go.Proofs.Ytdbaaiplkngjkaa
open Go Go.RowKit

theorem ha_same (w : World) (o : Obj) {k : Nat} (h : k = w.heap.size) : (w.alloc o).heap[k]? = some o := by
  subst h; show (w.heap.push o)[w.heap.size]? = _; simp

theorem ha_lt (w : World) (o : Obj) {k : Nat} (h : k < w.heap.size) : (w.alloc o).heap[k]? = w.heap[k]? := Below.heap_alloc w o k h

theorem hd_eq (w : World) (k : Nat) : w.drew.heap[k]? = w.heap[k]? := rfl

theorem Stays.below {B : Nat} {w W w' : World} {bs : List Nat} (h : Below B w W) (hs : Stays W w' bs) (hb : ∀ b ∈ bs, B ≤ b) (hB : B ≤ W.heap.size) : Below B w w' :=
  ⟨hs.os.trans h.os, hs.tape.trans h.tape, hs.output.trans h.output, Nat.le_trans h.size hs.size, fun k hk => (hs.block k (Nat.lt_of_lt_of_le hk hB) (fun hm => Nat.lt_irrefl _ (Nat.lt_of_lt_of_le hk (hb k hm)))).trans (h.block k hk)⟩

theorem cell_of_heap {w : World} {B : Nat} {c : Array Value} {t : TypeId} {f : Nat × Nat} (h : w.heap[B]? = some (.cells c t f)) (j : Nat) : w.cell? ⟨B, j, none⟩ = c[j]? := by simp [World.cell?, h]

theorem frozen_of_heap {w : World} {B : Nat} {c : Array Value} {t : TypeId} (h : w.heap[B]? = some (.cells c t (0, 0))) (j : Nat) : w.frozen? ⟨B, j, none⟩ = false := by simp [World.frozen?, h]

theorem lenW {l : List Nat} (h : l.length = 9) : ∃ r0 r1 r2 r3 r4 r5 r6 r7 r8, l = [r0, r1, r2, r3, r4, r5, r6, r7, r8] := by
  match l, h with
  | [r0, r1, r2, r3, r4, r5, r6, r7, r8], _ => exact ⟨r0, r1, r2, r3, r4, r5, r6, r7, r8, rfl⟩

end Go.Proofs.Ytdbaaiplkngjkaa
