/-
  Numbers of bytes, the least first: as words. No program in sight.
-/
import Derived.Test.YtoiiihnjfhdnlaaSpecA
namespace Go.Proofs.Ytoiiihnjfhdnlaa

/-- The number of bytes, the least first. -/
def numY : List Nat → Nat
  | [] => 0
  | x :: l => x + 256 * numY l

theorem numY_take_succ : ∀ (l : List Nat) (k : Nat), k < l.length → numY (l.take (k + 1)) = numY (l.take k) + 256 ^ k * l.getD k 0
  | [], k, h => by simp at h
  | x :: l, 0, _ => by simp [numY]
  | x :: l, k + 1, h => by
    have ih := numY_take_succ l k (by simpa using h)
    simp only [List.take_succ_cons, numY, ih, List.getD_cons_succ, Nat.pow_succ]
    rw [Nat.mul_add, ← Nat.mul_assoc, Nat.mul_comm 256 (256 ^ k)]
    omega

theorem numY_lt : ∀ (l : List Nat), (∀ x ∈ l, x < 256) → numY l < 256 ^ l.length
  | [], _ => by simp [numY]
  | x :: l, h => by
    have ih := numY_lt l (fun y hy => h y (List.mem_cons_of_mem _ hy))
    have hx := h x List.mem_cons_self
    simp only [numY, List.length_cons, Nat.pow_succ]
    omega

theorem numY_inj : ∀ (a b : List Nat), (∀ x ∈ a, x < 256) → (∀ x ∈ b, x < 256) → a.length = b.length → numY a = numY b → a = b
  | [], [], _, _, _, _ => rfl
  | [], _ :: _, _, _, h, _ => by simp at h
  | _ :: _, [], _, _, h, _ => by simp at h
  | x :: a, y :: b, ha, hb, hl, h => by
    have hx := ha x List.mem_cons_self
    have hy := hb y List.mem_cons_self
    simp only [numY] at h
    have h1 : x = y := by omega
    have h2 : numY a = numY b := by omega
    rw [h1, numY_inj a b (fun z hz => ha z (List.mem_cons_of_mem _ hz)) (fun z hz => hb z (List.mem_cons_of_mem _ hz)) (by simpa using hl) h2]

theorem pw_eq (j : Nat) : pw j = 256 ^ (8 * j) := by
  induction j with
  | zero => rfl
  | succ j ih =>
    rw [show 8 * (j + 1) = 8 * j + 8 by omega, Nat.pow_add, ← ih]
    simp only [pw]
    omega

theorem num_set : ∀ (l : List Nat) (j z : Nat), j < l.length → num (l.set j z) + pw j * l.getD j 0 = num l + pw j * z
  | [], j, z, h => by simp at h
  | x :: l, 0, z, _ => by simp [num, pw]; omega
  | x :: l, j + 1, z, h => by
    have ih := num_set l j z (by simpa using h)
    simp only [List.set_cons_succ, num, List.getD_cons_succ, pw]
    rw [Nat.mul_assoc, Nat.mul_assoc]
    omega

theorem num_at : ∀ (l : List Nat) (j : Nat), pw j * l.getD j 0 ≤ num l
  | [], j => by simp
  | x :: l, 0 => by simp [num, pw]
  | x :: l, j + 1 => by
    have ih := num_at l j
    simp only [num, List.getD_cons_succ, pw]
    rw [Nat.mul_assoc]
    omega

theorem words_step {l xs : List Nat} {k : Nat} (hn : num l = numY (xs.take k)) (hy : ∀ x ∈ xs, x < 256) (hk : k < xs.length) (hl : k / 8 < l.length) :
    l.getD (k / 8) 0 + xs.getD k 0 * 2 ^ (8 * (k % 8)) < 18446744073709551616 ∧ xs.getD k 0 * 2 ^ (8 * (k % 8)) < 18446744073709551616 ∧
    num (l.set (k / 8) (l.getD (k / 8) 0 + xs.getD k 0 * 2 ^ (8 * (k % 8)))) = numY (xs.take (k + 1)) := by
  have e1 : 2 ^ (8 * (k % 8)) = 256 ^ (k % 8) := by rw [Nat.pow_mul]
  have e2 : 256 ^ k = pw (k / 8) * 256 ^ (k % 8) := by rw [pw_eq, ← Nat.pow_add, Nat.div_add_mod]
  have hx : xs.getD k 0 < 256 := by
    have := hy xs[k] (List.getElem_mem hk)
    simpa [hk] using this
  have hlt := numY_lt (xs.take k) (fun x h => hy x (List.mem_of_mem_take h))
  rw [List.length_take, Nat.min_eq_left (Nat.le_of_lt hk), ← hn, e2] at hlt
  have hat := num_at l (k / 8)
  have h1 : l.getD (k / 8) 0 < 256 ^ (k % 8) := Nat.lt_of_mul_lt_mul_left (Nat.lt_of_le_of_lt hat hlt)
  have h2 : 256 ^ (k % 8) * 256 ≤ 18446744073709551616 := by
    have h3 : 256 ^ (k % 8 + 1) ≤ 256 ^ 8 := Nat.pow_le_pow_right (by omega) (by omega)
    rw [Nat.pow_succ] at h3
    exact h3
  have hs := num_set l (k / 8) (l.getD (k / 8) 0 + xs.getD k 0 * 256 ^ (k % 8)) hl
  rw [e1]
  generalize 256 ^ (k % 8) = M at *
  have h4 : xs.getD k 0 * M ≤ 255 * M := Nat.mul_le_mul_right _ (by omega)
  refine ⟨by omega, by omega, ?_⟩
  rw [numY_take_succ _ _ hk, ← hn, e2]
  rw [Nat.mul_add] at hs
  have h5 : pw (k / 8) * (xs.getD k 0 * M) = pw (k / 8) * M * xs.getD k 0 := by rw [Nat.mul_assoc, Nat.mul_comm M]
  omega

end Go.Proofs.Ytoiiihnjfhdnlaa
