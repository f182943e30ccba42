/-
  Words to bytes (p224ToBytes): what a call leaves in the first row.
-/
import Derived.Test.YtoiiihnjfhdnlaaFiatC
namespace Go.Proofs.Ytoiiihnjfhdnlaa
open Go Go.RowKit

/-! ### plain laws -/
theorem num_word : ∀ (l : List Nat) (q : Nat), Wd l → num l / pw q % 18446744073709551616 = l.getD q 0
  | [], q, _ => by simp [num]
  | x :: l, 0, h => by
    have := h.cons.1
    simp only [num, pw, List.getD_cons_zero, Nat.div_one]
    omega
  | x :: l, q + 1, h => by
    have h1 := h.cons.1
    have ih := num_word l q h.cons.2
    simp only [num, pw, List.getD_cons_succ]
    rw [← Nat.div_div_eq_div_mul, show (x + 18446744073709551616 * num l) / 18446744073709551616 = num l by omega]
    exact ih

theorem low_of_word (N r : Nat) (hr : r < 8) : N % 18446744073709551616 / 256 ^ r % 256 = N / 256 ^ r % 256 := by
  have : r = 0 ∨ r = 1 ∨ r = 2 ∨ r = 3 ∨ r = 4 ∨ r = 5 ∨ r = 6 ∨ r = 7 := by omega
  rcases this with rfl | rfl | rfl | rfl | rfl | rfl | rfl | rfl <;> simp only [Nat.reducePow] <;> omega

theorem byte_of_num (l : List Nat) (h : Wd l) (i : Nat) : l.getD (i / 8) 0 / 256 ^ (i % 8) % 256 = num l / 256 ^ i % 256 := by
  have e2 : 256 ^ i = pw (i / 8) * 256 ^ (i % 8) := by rw [pw_eq, ← Nat.pow_add, Nat.div_add_mod]
  rw [e2, ← Nat.div_div_eq_div_mul, ← num_word l (i / 8) h, low_of_word _ _ (Nat.mod_lt _ (by omega))]

theorem byte_of_numY : ∀ (l : List Nat) (i : Nat), (∀ x ∈ l, x < 256) → numY l / 256 ^ i % 256 = l.getD i 0
  | [], i, _ => by simp [numY]
  | x :: l, 0, h => by
    have := h x List.mem_cons_self
    simp only [numY, Nat.pow_zero, Nat.div_one, List.getD_cons_zero]
    omega
  | x :: l, i + 1, h => by
    have h1 := h x List.mem_cons_self
    have ih := byte_of_numY l i (fun y hy => h y (List.mem_cons_of_mem _ hy))
    simp only [numY, List.getD_cons_succ]
    rw [Nat.pow_succ, Nat.mul_comm (256 ^ i) 256, ← Nat.div_div_eq_div_mul, show (x + 256 * numY l) / 256 = numY l by omega]
    exact ih

/-! ### the facts -/
def lowOf : List Fact → Nat → Option At
  | [], _ => none
  | .low z x :: l, k => match Nat.beq z k with | true => some x | false => lowOf l k
  | _ :: l, k => lowOf l k

theorem lowOf_mem : ∀ (l : List Fact) (k : Nat) (x : At), lowOf l k = some x → Fact.low k x ∈ l
  | [], k, x, h => by cases h
  | f :: l, k, x, h => by
    cases f with
    | low z x' =>
      simp only [lowOf] at h
      split at h
      · rename_i e; cases h; rw [Nat.eq_of_beq_eq_true e]; exact List.mem_cons_self
      · exact List.mem_cons_of_mem _ (lowOf_mem l k x h)
    | _ => exact List.mem_cons_of_mem _ (lowOf_mem l k x h)

def shrOf : List Fact → Nat → Option (At × Nat)
  | [], _ => none
  | .shr z x e :: l, k => match Nat.beq z k with | true => some (x, e) | false => shrOf l k
  | _ :: l, k => shrOf l k

theorem shrOf_mem : ∀ (l : List Fact) (k : Nat) (x : At) (e : Nat), shrOf l k = some (x, e) → Fact.shr k x e ∈ l
  | [], k, x, e, h => by cases h
  | f :: l, k, x, e, h => by
    cases f with
    | shr z x' e' =>
      simp only [shrOf] at h
      split at h
      · rename_i e; cases h; rw [Nat.eq_of_beq_eq_true e]; exact List.mem_cons_self
      · exact List.mem_cons_of_mem _ (shrOf_mem l k x e h)
    | _ => exact List.mem_cons_of_mem _ (shrOf_mem l k x e h)

def chain (fs : List Fact) (v : Nat) : Nat → At → Bool
  | 0, .v z => Nat.beq z v
  | j + 1, .v z => match shrOf fs z with
    | some (y, e) => Nat.beq e 8 && chain fs v j y
    | none => false
  | _, _ => false

theorem chain_sound {ρ : Nat → Nat} {fs : List Fact} {v : Nat} (hf : ∀ f ∈ fs, f.exact ρ) : ∀ (j : Nat) (x : At), chain fs v j x = true → x.ev ρ = ρ v / 256 ^ j
  | 0, .v z, h => by
    have : z = v := Nat.eq_of_beq_eq_true h
    subst this; simp [At.ev]
  | 0, .c _, h => by cases h
  | j + 1, .c _, h => by cases h
  | j + 1, .v z, h => by
    simp only [chain] at h
    split at h
    · rename_i y e hs
      simp only [Bool.and_eq_true] at h
      have he : e = 8 := Nat.eq_of_beq_eq_true h.1
      subst he
      have h1 : ρ z = y.ev ρ / 2 ^ 8 := hf _ (shrOf_mem _ _ _ _ hs)
      have h2 := chain_sound hf j y h.2
      show ρ z = _
      rw [h1, h2, Nat.div_div_eq_div_mul, Nat.pow_succ 256 j]
    · cases h

def toChk (fs : List Fact) (v0 : Nat) : Nat → List At → Bool
  | _, [] => true
  | i, .v z :: r => (match lowOf fs z with
    | some x => chain fs (v0 + i / 8) (i % 8) x
    | none => false) && toChk fs v0 (i + 1) r
  | _, _ :: _ => false

theorem toChk_sound {ρ : Nat → Nat} {fs : List Fact} {v0 : Nat} (hf : ∀ f ∈ fs, f.exact ρ) : ∀ (r : List At) (i : Nat), toChk fs v0 i r = true → ∀ j, j < r.length → (evs ρ r).getD j 0 = ρ (v0 + (i + j) / 8) / 256 ^ ((i + j) % 8) % 256
  | [], i, _, j, hj => by simp at hj
  | .c _ :: r, i, h, j, hj => by simp [toChk] at h
  | .v z :: r, i, h, j, hj => by
    simp only [toChk, Bool.and_eq_true] at h
    cases j with
    | zero =>
      have h1 := h.1
      split at h1
      · rename_i x hx
        have h2 : ρ z = x.ev ρ % 256 := hf _ (lowOf_mem _ _ _ hx)
        show ρ z = _
        rw [h2, chain_sound hf _ _ h1]
        simp
      · cases h1
    | succ j =>
      have := toChk_sound hf r (i + 1) h.2 j (by simpa using hj)
      rw [show i + 1 + j = i + (j + 1) by omega] at this
      simpa [evs] using this

theorem vars_at (ρ : Nat → Nat) : ∀ (n k q : Nat), q < n → (evs ρ (vars k n)).getD q 0 = ρ (k + q)
  | 0, _, q, h => by omega
  | n + 1, k, 0, _ => by simp [vars, evs, At.ev]
  | n + 1, k, q + 1, h => by
    have := vars_at ρ n (k + 1) q (by omega)
    rw [show k + 1 + q = k + (q + 1) by omega] at this
    simpa [vars, evs] using this

def toAllB (s : Option St) : Bool :=
  match s with
  | some S => match out0 S true, bnds S.facts.reverse (mkBd (lim false - 1) 28 4 .nil) with
    | some (t, r), some _ => Nat.beq t 32 && (toChk S.facts 28 0 r && Nat.beq r.length 28)
    | _, _ => false
  | none => false

theorem to_chk : toAllB (st2 32 true 28 25 false 4 Try.f29) = true := by kernel_rfl

theorem fiat_to (w : World) (B0 B1 : Nat) (zs xs : List Nat) (hd : B0 ≠ B1) (lz : zs.length = 28) (lx : xs.length = 4) (wz : ∀ x ∈ zs, x < lim true) (wx : ∀ x ∈ xs, x < lim false)
    (h0 : w.heap[B0]? = some (.cells (rowOf true zs) 32 (0, 0))) (h1 : w.heap[B1]? = some (.cells (rowOf false xs) 25 (0, 0))) :
    Calls Try.prog 29 #[.pointer (some ⟨B0, 0, none⟩), .pointer (some ⟨B1, 0, none⟩)] w
      (Left2 true 32 (fun rs => (∀ i, i < 28 → rs.getD i 0 = num xs / 256 ^ i % 256) ∧ rs.length = 28) w B0 B1) := by
  have hk := to_chk
  unfold toAllB st2 at hk
  split at hk
  · rename_i S hS
    split at hS
    · rename_i c hc
      split at hk
      · rename_i t r T ho hT
        simp only [Bool.and_eq_true] at hk
        have ht : t = 32 := Nat.eq_of_beq_eq_true hk.1
        subst ht
        have hrl : r.length = 28 := Nat.eq_of_beq_eq_true hk.2.2
        exact run2 cfg_ok mixed Try.func29 hc rfl (by rw [Try.ntmps29]; omega) hS ho hT B0 B1 zs xs hd lz lx wz wx h0 h1 (fun ρ hf _ ex => by
          refine ⟨fun i hi => ?_, by simpa [evs] using hrl⟩
          have h1 := toChk_sound hf r 0 hk.2.1 i (by omega)
          have h2 := vars_at ρ 4 28 (i / 8) (by omega)
          rw [ex] at h2
          rw [h1, Nat.zero_add, ← h2]
          exact byte_of_num xs (Wd.of_mem wx) i)
      · cases hk
    · cases hS
  · cases hk

end Go.Proofs.Ytoiiihnjfhdnlaa
