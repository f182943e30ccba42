/-
  The reference's plus and lessen: what a call does.
-/
import Derived.Test.YtdbaaiplkngjkaaSpecB
import Derived.Test.YtdbaaiplkngjkaaMem
import Derived.KernelRfl
namespace Go.Proofs.Ytdbaaiplkngjkaa
open Go Go.RowKit

/-- A new row of words: what plus and lessen hand back. -/
def Made (Q : List Nat → Nat → Prop) (w : World) (e : Ending) (w' : World) : Prop :=
  ∃ zs c, Q zs c ∧ c ≤ 1 ∧ zs.length = 9 ∧ Wd zs ∧ e = .returned (.tuple #[.slice (some ⟨w.heap.size, 0, none⟩) 9 9, .bool (decide (c = 1))]) ∧
    w'.heap[w.heap.size]? = some (.cells (rowOf false zs) 22 (0, 0)) ∧ Below w.heap.size w w'

theorem mk_run (w : World) : (Instr.makeSlice 27 (.int .i64 9) (.int .i64 9)).run Try.prog w =
    .ok (.slice (some ⟨w.heap.size, 0, none⟩) 9 9) (w.alloc (.cells #[.int .u64 0, .int .u64 0, .int .u64 0, .int .u64 0, .int .u64 0, .int .u64 0, .int .u64 0, .int .u64 0, .int .u64 0] 22)) := by kernel_rfl

theorem row_get {w : World} {B : Nat} {l : List Nat} {t : TypeId} (h : w.heap[B]? = some (.cells (rowOf false l) t (0, 0))) : Ws w B l := by
  intro i hi
  rw [cell_of_heap h]
  simp [rowOf, hi]

theorem row_set {w : World} {B : Nat} {l : List Nat} {t : TypeId} (h : w.heap[B]? = some (.cells (rowOf false l) t (0, 0))) (k z : Nat) :
    (w.setCell ⟨B, k, none⟩ (.int .u64 (z : Int))).heap[B]? = some (.cells (rowOf false (l.set k z)) t (0, 0)) := by
  rw [heap_setCell_same w B k _ _ _ _ h]
  congr 2
  apply Array.ext'
  simp [rowOf, List.map_set]

theorem Wd.set {l : List Nat} (h : Wd l) {k z : Nat} (hz : z < 18446744073709551616) : Wd (l.set k z) := by
  intro i
  by_cases hk : k = i
  · subst hk
    by_cases hl : k < l.length
    · simp [hl]; exact hz
    · simp [hl]
  · have := h i
    simpa [List.getElem?_set_ne hk] using this

theorem take_set_succ (l : List Nat) (k z : Nat) (h : k < l.length) : (l.set k z).take (k + 1) = l.take k ++ [z] := by
  rw [take_succ _ _ (by simpa using h), List.take_set_of_le (Nat.le_refl k)]
  simp [h]

def PlusR (xs ys : List Nat) (zs : List Nat) (k c : Nat) : Prop := num (zs.take k) + pw k * c = num (xs.take k) + num (ys.take k)

theorem plus_step {xs ys zs : List Nat} {k c z c' : Nat} (h : PlusR xs ys zs k c) (hx : k < xs.length) (hy : k < ys.length) (hz : k < zs.length) (hr : z + 18446744073709551616 * c' = xs.getD k 0 + ys.getD k 0 + c) :
    PlusR xs ys (zs.set k z) (k + 1) c' := by
  unfold PlusR at *
  rw [num_take_succ _ _ hx, num_take_succ _ _ hy, take_set_succ _ _ _ hz, num_append]
  simp only [num, List.length_take, Nat.min_eq_left (Nat.le_of_lt hz), Nat.mul_zero, Nat.add_zero, pw]
  exact add_round h hr

def LessR (xs ys : List Nat) (zs : List Nat) (k c : Nat) : Prop := num (zs.take k) + num (ys.take k) = num (xs.take k) + pw k * c

theorem less_step {xs ys zs : List Nat} {k c z c' : Nat} (h : LessR xs ys zs k c) (hx : k < xs.length) (hy : k < ys.length) (hz : k < zs.length) (hr : z + ys.getD k 0 + c = xs.getD k 0 + 18446744073709551616 * c') :
    LessR xs ys (zs.set k z) (k + 1) c' := by
  unfold LessR at *
  rw [num_take_succ _ _ hx, num_take_succ _ _ hy, take_set_succ _ _ _ hz, num_append]
  simp only [num, List.length_take, Nat.min_eq_left (Nat.le_of_lt hz), Nat.mul_zero, Nat.add_zero, pw]
  exact sub_round h hr

theorem plus_way {x y c : Nat} (hx : x < 18446744073709551616) (hy : y < 18446744073709551616) (hc : c ≤ 1) (c' : Nat)
    (h : (c' = 1 ∧ (¬ (c : Int) ≤ IntKind.u64.wrap ((x : Int) + c) ∨ IntKind.u64.wrap ((x : Int) + c) < c ∨ IntKind.u64.wrap (IntKind.u64.wrap ((x : Int) + c) + y) < IntKind.u64.wrap ((x : Int) + c))) ∨
      (c' = 0 ∧ (c : Int) ≤ IntKind.u64.wrap ((x : Int) + c) ∧ IntKind.u64.wrap ((x : Int) + c) ≤ IntKind.u64.wrap (IntKind.u64.wrap ((x : Int) + c) + y))) :
    ∃ z : Nat, z < 18446744073709551616 ∧ IntKind.u64.wrap (IntKind.u64.wrap ((x : Int) + c) + y) = (z : Int) ∧ z + 18446744073709551616 * c' = x + y + c := by
  simp only [IntKind.wrap_u64] at h ⊢
  refine ⟨((x + c) % 18446744073709551616 + y) % 18446744073709551616, by omega, by omega, by omega⟩

theorem less_way1 {x y c : Nat} (hx : x < 18446744073709551616) (hy : y < 18446744073709551616) (hc : c ≤ 1) (h0 : c ≤ x) (h : x < c ∨ (x : Int) - c < y) :
    ∃ z : Nat, z < 18446744073709551616 ∧ IntKind.u64.wrap ((x : Int) - c - y) = (z : Int) ∧ z + y + c = x + 18446744073709551616 * 1 := by
  simp only [IntKind.wrap_u64]
  refine ⟨x + 18446744073709551616 - c - y, by omega, by omega, by omega⟩

theorem less_way2 {x y c : Nat} (hx : x < 18446744073709551616) (h : ¬ x < c ∧ (y : Int) ≤ (x : Int) - c) :
    ∃ z : Nat, z < 18446744073709551616 ∧ ((x : Int) - c - y) = (z : Int) ∧ z + y + c = x + 18446744073709551616 * 0 := by
  refine ⟨x - c - y, by omega, by omega, by omega⟩

theorem less_way3 {x y c : Nat} (hx : x < 18446744073709551616) (hy : y < 18446744073709551616) (hc : c ≤ 1) (h0 : ¬ c ≤ x) :
    ∃ z : Nat, z < 18446744073709551616 ∧ IntKind.u64.wrap (IntKind.u64.wrap ((x : Int) - c) - y) = (z : Int) ∧ z + y + c = x + 18446744073709551616 * 1 := by
  simp only [IntKind.wrap_u64]
  refine ⟨x + 18446744073709551616 - c - y, by omega, by omega, by omega⟩

def Rel3 (R : List Nat → Nat → Nat → Prop) (w : World) (v i : Value) (wr : World) : Prop :=
  ∃ (k c : Nat) (l : List Nat), k ≤ 9 ∧ i = .int .i64 (k : Int) ∧ v = .int .u64 (c : Int) ∧ c ≤ 1 ∧ l.length = 9 ∧ Wd l ∧ R l k c ∧ wr.heap[w.heap.size]? = some (.cells (rowOf false l) 22 (0, 0)) ∧ Below w.heap.size w wr

theorem ret_pair (v : Value) (c : Nat) : Ending.returned (.tuple #[v, .bool ((c : Int) == 1)]) = .returned (.tuple #[v, .bool (decide (c = 1))]) := by
  have : ((c : Int) == 1) = decide (c = 1) := by
    rw [Bool.eq_iff_iff]; simp; omega
  rw [this]

theorem PlusR.done {xs ys l : List Nat} {c : Nat} (h : PlusR xs ys l 9 c) (h1 : xs.length = 9) (h2 : ys.length = 9) (h3 : l.length = 9) : num l + pw 9 * c = num xs + num ys := by
  unfold PlusR at h
  rw [List.take_of_length_le (by omega), List.take_of_length_le (by omega), List.take_of_length_le (by omega)] at h
  exact h

theorem LessR.done {xs ys l : List Nat} {c : Nat} (h : LessR xs ys l 9 c) (h1 : xs.length = 9) (h2 : ys.length = 9) (h3 : l.length = 9) : num l + num ys = num xs + pw 9 * c := by
  unfold LessR at h
  rw [List.take_of_length_le (by omega), List.take_of_length_le (by omega), List.take_of_length_le (by omega)] at h
  exact h

set_option maxHeartbeats 1000000 in
theorem plus_any (w : World) (b1 b2 c1 c2 : Nat) (xs ys : List Nat) (hl : Hid (xs.length = 9 ∧ ys.length = 9)) (wx : Wd xs) (wy : Wd ys) (hx : Ws w b1 xs) (hy : Ws w b2 ys) (h1 : b1 < w.heap.size) (h2 : b2 < w.heap.size) :
    Calls Try.prog 16 #[.slice (some ⟨b1, 0, none⟩) 9 c1, .slice (some ⟨b2, 0, none⟩) 9 c2] w
      (Made (fun zs c => num zs + pw 9 * c = num xs + num ys) w) := by
  have hmk := mk_run
  go_enter Try.func16, Try.ntmps16
  go_wp2
  clear hmk
  go_loopw [7, 8] (fun v i wr => Rel3 (PlusR xs ys) w v i wr) (fun _ i _ => (9 - (intOf i).toNat))
  case atStart => 
    refine ⟨0, 0, [0, 0, 0, 0, 0, 0, 0, 0, 0], by omega, rfl, rfl, by omega, rfl, Wd.of_mem (by simp), by simp [PlusR, num], ha_same _ _ rfl, (Below.refl _ _).alloc (Nat.le_refl _) _⟩
  case round =>
    obtain ⟨k, c, l, hk, rfl, rfl, hc, hlen, hwd, hR, hrow, hbel⟩ := hrel
    by_cases hk1 : k < 9
    · have hcx : wr.cell? ⟨b1, k, none⟩ = some (.int .u64 ((xs.getD k 0 : Nat) : Int)) := by rw [hbel.cell (p := ⟨b1, k, none⟩) h1]; exact hx k (by rw [hl.out.1]; exact hk1)
      have hcy : wr.cell? ⟨b2, k, none⟩ = some (.int .u64 ((ys.getD k 0 : Nat) : Int)) := by rw [hbel.cell (p := ⟨b2, k, none⟩) h2]; exact hy k (by rw [hl.out.2]; exact hk1)
      have hcz := row_get hrow k (by rw [hlen]; exact hk1)
      have hfz := frozen_of_heap hrow k
      have hxw := wx k
      have hyw := wy k
      have hst := Lib.hid (fun z c' => plus_step (z := z) (c' := c') hR (by rw [hl.out.1]; exact hk1) (by rw [hl.out.2]; exact hk1) (by rw [hlen]; exact hk1))
      have hrow' := Lib.hid (fun z => row_set hrow k z)
      have hlen' := Lib.hid hlen
      clear hlen hrow hR hx hy
      generalize xs.getD k 0 = x at hcx hxw hst
      generalize ys.getD k 0 = y at hcy hyw hst
      generalize l.getD k 0 = z0 at hcz
      go_wp2
      all_goals
        first
          | (obtain ⟨z, hz, ez, hs⟩ := plus_way hxw hyw hc 0 (.inr ⟨rfl, ‹_ ∧ _›⟩); rw [ez]; exact ⟨⟨k + 1, 0, l.set k z, by omega, by go_num, rfl, by omega, by simp [hlen'.out], hwd.set hz, hst.out z 0 hs, hrow'.out z, hbel.setCell (Nat.le_refl _) _⟩, by simp [intOf]; omega⟩)
          | (obtain ⟨z, hz, ez, hs⟩ := plus_way hxw hyw hc 1 (.inl ⟨rfl, by first | exact .inl ‹_› | exact .inr ‹_ ∨ _› | exact ‹_ ∨ _›⟩); rw [ez]; exact ⟨⟨k + 1, 1, l.set k z, by omega, by go_num, rfl, by omega, by simp [hlen'.out], hwd.set hz, hst.out z 1 hs, hrow'.out z, hbel.setCell (Nat.le_refl _) _⟩, by simp [intOf]; omega⟩)
    · obtain rfl : k = 9 := by omega
      have hR' := Lib.hid hR
      have hrow' := Lib.hid hrow
      have hlen' := Lib.hid hlen
      clear hR hrow hlen hx hy hk hk1
      go_wp2
      go_ret2
      exact ⟨l, c, hR'.out.done hl.out.1 hl.out.2 hlen'.out, hc, hlen'.out, hwd, ret_pair _ c, hrow'.out, hbel⟩

set_option maxHeartbeats 1000000 in
theorem lessen_any (w : World) (b1 b2 c1 c2 : Nat) (xs ys : List Nat) (hl : Hid (xs.length = 9 ∧ ys.length = 9)) (wx : Wd xs) (wy : Wd ys) (hx : Ws w b1 xs) (hy : Ws w b2 ys) (h1 : b1 < w.heap.size) (h2 : b2 < w.heap.size) :
    Calls Try.prog 15 #[.slice (some ⟨b1, 0, none⟩) 9 c1, .slice (some ⟨b2, 0, none⟩) 9 c2] w
      (Made (fun zs c => num zs + num ys = num xs + pw 9 * c) w) := by
  have hmk := mk_run
  go_enter Try.func15, Try.ntmps15
  go_wp2
  clear hmk
  go_loopw [7, 8] (fun v i wr => Rel3 (LessR xs ys) w v i wr) (fun _ i _ => (9 - (intOf i).toNat))
  case atStart => 
    refine ⟨0, 0, [0, 0, 0, 0, 0, 0, 0, 0, 0], by omega, rfl, rfl, by omega, rfl, Wd.of_mem (by simp), by simp [LessR, num], ha_same _ _ rfl, (Below.refl _ _).alloc (Nat.le_refl _) _⟩
  case round =>
    obtain ⟨k, c, l, hk, rfl, rfl, hc, hlen, hwd, hR, hrow, hbel⟩ := hrel
    by_cases hk1 : k < 9
    · have hcx : wr.cell? ⟨b1, k, none⟩ = some (.int .u64 ((xs.getD k 0 : Nat) : Int)) := by rw [hbel.cell (p := ⟨b1, k, none⟩) h1]; exact hx k (by rw [hl.out.1]; exact hk1)
      have hcy : wr.cell? ⟨b2, k, none⟩ = some (.int .u64 ((ys.getD k 0 : Nat) : Int)) := by rw [hbel.cell (p := ⟨b2, k, none⟩) h2]; exact hy k (by rw [hl.out.2]; exact hk1)
      have hcz := row_get hrow k (by rw [hlen]; exact hk1)
      have hfz := frozen_of_heap hrow k
      have hxw := wx k
      have hyw := wy k
      have hst := Lib.hid (fun z c' => less_step (z := z) (c' := c') hR (by rw [hl.out.1]; exact hk1) (by rw [hl.out.2]; exact hk1) (by rw [hlen]; exact hk1))
      have hrow' := Lib.hid (fun z => row_set hrow k z)
      have hlen' := Lib.hid hlen
      clear hlen hrow hR hx hy
      generalize xs.getD k 0 = x at hcx hxw hst
      generalize ys.getD k 0 = y at hcy hyw hst
      generalize l.getD k 0 = z0 at hcz
      go_wp2
      all_goals
        first
          | (obtain ⟨z, hz, ez, hs⟩ := less_way2 (x := x) (y := y) (c := c) hxw ‹_ ∧ _›; rw [ez]; exact ⟨⟨k + 1, 0, l.set k z, by omega, by go_num, rfl, by omega, by simp [hlen'.out], hwd.set hz, hst.out z 0 hs, hrow'.out z, hbel.setCell (Nat.le_refl _) _⟩, by simp [intOf]; omega⟩)
          | (obtain ⟨z, hz, ez, hs⟩ := less_way1 (x := x) (y := y) (c := c) hxw hyw hc ‹_› ‹_ ∨ _›; rw [ez]; exact ⟨⟨k + 1, 1, l.set k z, by omega, by go_num, rfl, by omega, by simp [hlen'.out], hwd.set hz, hst.out z 1 hs, hrow'.out z, hbel.setCell (Nat.le_refl _) _⟩, by simp [intOf]; omega⟩)
          | (obtain ⟨z, hz, ez, hs⟩ := less_way3 (x := x) (y := y) (c := c) hxw hyw hc ‹_›; rw [ez]; exact ⟨⟨k + 1, 1, l.set k z, by omega, by go_num, rfl, by omega, by simp [hlen'.out], hwd.set hz, hst.out z 1 hs, hrow'.out z, hbel.setCell (Nat.le_refl _) _⟩, by simp [intOf]; omega⟩)
    · obtain rfl : k = 9 := by omega
      have hR' := Lib.hid hR
      have hrow' := Lib.hid hrow
      have hlen' := Lib.hid hlen
      clear hR hrow hlen hx hy hk hk1
      go_wp2
      go_ret2
      exact ⟨l, c, hR'.out.done hl.out.1 hl.out.2 hlen'.out, hc, hlen'.out, hwd, ret_pair _ c, hrow'.out, hbel⟩

end Go.Proofs.Ytdbaaiplkngjkaa
