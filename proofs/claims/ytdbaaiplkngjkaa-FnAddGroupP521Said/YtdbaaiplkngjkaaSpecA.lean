/-
  Numbers of words, the least first: plain laws. No program in sight.
-/
import Derived.WalkKit
namespace Go.Proofs.Ytdbaaiplkngjkaa

/-- The number that a list of words stands for, the least first. -/
def num : List Nat → Nat
  | [] => 0
  | x :: l => x + 18446744073709551616 * num l

/-- Each is a word. -/
def Wd (l : List Nat) : Prop := ∀ i, l.getD i 0 < 18446744073709551616

/-- 2^64 to the power of k. -/
def pw : Nat → Nat
  | 0 => 1
  | k + 1 => 18446744073709551616 * pw k

theorem pw_pos (k : Nat) : 0 < pw k := by induction k with | zero => decide | succ k ih => simp only [pw]; omega

theorem Wd.cons {x : Nat} {l : List Nat} (h : Wd (x :: l)) : x < 18446744073709551616 ∧ Wd l :=
  ⟨by simpa using h 0, fun i => by simpa using h (i + 1)⟩

theorem Wd.mk {x : Nat} {l : List Nat} (hx : x < 18446744073709551616) (h : Wd l) : Wd (x :: l) := fun i => by
  cases i with
  | zero => simpa using hx
  | succ i => simpa using h i

theorem Wd.nil : Wd [] := fun i => by simp

theorem Wd.of_mem {l : List Nat} (h : ∀ x ∈ l, x < 18446744073709551616) : Wd l := by
  induction l with
  | nil => exact Wd.nil
  | cons x l ih => exact Wd.mk (h x List.mem_cons_self) (ih fun y hy => h y (List.mem_cons_of_mem _ hy))

theorem num_lt {l : List Nat} (h : Wd l) : num l < pw l.length := by
  induction l with
  | nil => decide
  | cons x l ih =>
    have ⟨h1, h2⟩ := h.cons
    have := ih h2
    simp only [num, pw, List.length_cons]
    omega

theorem num_append (a b : List Nat) : num (a ++ b) = num a + pw a.length * num b := by
  induction a with
  | nil => simp [num, pw]
  | cons x a ih => simp only [List.cons_append, num, ih, List.length_cons, pw, Nat.mul_add, Nat.mul_assoc]; omega

theorem num_inj {a b : List Nat} (ha : Wd a) (hb : Wd b) (hl : a.length = b.length) (h : num a = num b) : a = b := by
  induction a generalizing b with
  | nil => cases b with | nil => rfl | cons y b => simp at hl
  | cons x a ih =>
    cases b with
    | nil => simp at hl
    | cons y b =>
      have ⟨h1, h2⟩ := ha.cons
      have ⟨k1, k2⟩ := hb.cons
      simp only [num] at h
      have e1 : x = y := by omega
      have e2 : num a = num b := by omega
      rw [e1, ih h2 k2 (by simpa using hl) e2]

/-- Two numbers that agree above place m: they are held against each other at m. -/
theorem num_cmp : ∀ (m : Nat) (a b : List Nat), Wd a → Wd b → a.length = b.length → m < a.length → (∀ j, m < j → a.getD j 0 = b.getD j 0) → a.getD m 0 ≠ b.getD m 0 →
    (num a < num b ↔ a.getD m 0 < b.getD m 0)
  | m, [], b, _, _, _, hm, _, _ => by simp at hm
  | m, x :: a, [], _, _, hl, _, _, _ => by simp at hl
  | 0, x :: a, y :: b, ha, hb, hl, _, hag, hne => by
    have ⟨h1, h2⟩ := ha.cons
    have ⟨k1, k2⟩ := hb.cons
    have hl' : a.length = b.length := by simpa using hl
    have e : a = b := by
      apply List.ext_getElem? 
      intro i
      have := hag (i + 1) (by omega)
      simp at this
      rcases Nat.lt_or_ge i a.length with hi | hi
      · rw [List.getElem?_eq_getElem hi, List.getElem?_eq_getElem (hl' ▸ hi)] at this ⊢
        simpa using this
      · rw [List.getElem?_eq_none hi, List.getElem?_eq_none (hl' ▸ hi)]
    subst e
    simp at hne ⊢
    simp only [num]; omega
  | m + 1, x :: a, y :: b, ha, hb, hl, hm, hag, hne => by
    have ⟨h1, h2⟩ := ha.cons
    have ⟨k1, k2⟩ := hb.cons
    have ih := num_cmp m a b h2 k2 (by simpa using hl) (by simpa using hm) (fun j hj => by have := hag (j + 1) (by omega); simpa using this) (by simpa using hne)
    have hne' : num a ≠ num b := by
      intro e
      apply hne
      rw [num_inj h2 k2 (by simpa using hl) e]
      simp
    simp only [List.getD_cons_succ] at hne ⊢
    rw [← ih]
    simp only [num]; omega

/-- Two numbers that agree at every place are one. -/
theorem num_same {a b : List Nat} (hl : a.length = b.length) (h : ∀ j, a.getD j 0 = b.getD j 0) : a = b := by
  apply List.ext_getElem? 
  intro i
  have := h i
  simp at this
  rcases Nat.lt_or_ge i a.length with hi | hi
  · rw [List.getElem?_eq_getElem hi, List.getElem?_eq_getElem (hl ▸ hi)] at this ⊢
    simpa using this
  · rw [List.getElem?_eq_none hi, List.getElem?_eq_none (hl ▸ hi)]

theorem take_succ (l : List Nat) (k : Nat) (h : k < l.length) : l.take (k + 1) = l.take k ++ [l.getD k 0] := by
  rw [List.take_succ_eq_append_getElem h]; simp [h]

theorem num_take_succ (l : List Nat) (k : Nat) (h : k < l.length) : num (l.take (k + 1)) = num (l.take k) + pw k * l.getD k 0 := by
  rw [take_succ l k h, num_append]
  simp [num]
  rw [Nat.min_eq_left (Nat.le_of_lt h)]

theorem num_snoc (l : List Nat) (z : Nat) : num (l ++ [z]) = num l + pw l.length * z := by
  rw [num_append]; simp [num]

theorem Wd.snoc {l : List Nat} {z : Nat} (h : Wd l) (hz : z < 18446744073709551616) : Wd (l ++ [z]) := by
  induction l with
  | nil => exact Wd.mk hz Wd.nil
  | cons x l ih => have ⟨h1, h2⟩ := h.cons; exact Wd.mk h1 (ih h2)

theorem getD_snoc_lt (l : List Nat) (z i : Nat) (h : i < l.length) : (l ++ [z]).getD i 0 = l.getD i 0 := by
  simp [List.getElem?_append_left h]

theorem getD_snoc_eq (l : List Nat) (z : Nat) : (l ++ [z]).getD l.length 0 = z := by simp

/-- One round of a sum with carry. -/
theorem add_round {A B Z c p x y z c' : Nat} (h : Z + p * c = A + B) (hr : z + 18446744073709551616 * c' = x + y + c) :
    Z + p * z + 18446744073709551616 * p * c' = A + p * x + (B + p * y) := by
  have h1 : p * (z + 18446744073709551616 * c') = p * (x + y + c) := by rw [hr]
  simp only [Nat.mul_add] at h1
  have h2 : p * (18446744073709551616 * c') = 18446744073709551616 * p * c' := by rw [← Nat.mul_assoc, Nat.mul_comm p]
  omega

/-- One round of a difference with borrow. -/
theorem sub_round {A B Z c p x y z c' : Nat} (h : Z + B = A + p * c) (hr : z + y + c = x + 18446744073709551616 * c') :
    Z + p * z + (B + p * y) = A + p * x + 18446744073709551616 * p * c' := by
  have h1 : p * (z + y + c) = p * (x + 18446744073709551616 * c') := by rw [hr]
  simp only [Nat.mul_add] at h1
  have h2 : p * (18446744073709551616 * c') = 18446744073709551616 * p * c' := by rw [← Nat.mul_assoc, Nat.mul_comm p]
  omega

end Go.Proofs.Ytdbaaiplkngjkaa
