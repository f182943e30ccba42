/-
  Out of the Montgomery domain (p256FromMontgomery): what a call leaves in the first row.
-/
import Derived.Test.YtmfonalhmaphnaaFiatB
namespace Go.Proofs.Ytmfonalhmaphnaa
open Go Go.RowKit

/-- Each is a multiple of 2^64 and below it. -/
def zeroB (T : Tr Nat) (fs : List Fact) : List At → Bool
  | [] => true
  | x :: l => (match ubd T x with
    | some u => Nat.blt u 18446744073709551616
    | none => false) && (isMult 18446744073709551616 fs [(x, 1)] && zeroB T fs l)

theorem zeroB_sound {ρ : Nat → Nat} {T : Tr Nat} {fs : List Fact} (hf : ∀ f ∈ fs, f.exact ρ) (hT : Bd ρ T) : ∀ (l : List At), zeroB T fs l = true → num (evs ρ l) = 0
  | [], _ => rfl
  | x :: l, h => by
    simp only [zeroB, Bool.and_eq_true] at h
    obtain ⟨h1, h2, h3⟩ := h
    have hz := isMult_sound h2 hf
    simp only [evalL] at hz
    have ih := zeroB_sound hf hT l h3
    split at h1
    · rename_i u hu
      have hlt : x.ev ρ ≤ u := ubd_le hT hu
      have hu2 : u < 18446744073709551616 := by simpa using h1
      have h0 : x.ev ρ = 0 := by omega
      show x.ev ρ + 18446744073709551616 * num (evs ρ l) = 0
      rw [h0, ih]
    · cases h1

def outChk (n p : Nat) (T : Tr Nat) (fs : List Fact) (r xs ls ms : List At) : Bool :=
  match condChk n p T fs r with
  | some (ts, top) => (match top with | .c 0 => true | _ => false) && (zeroB T fs ls && (wordsB T ms && (Nat.beq ms.length n && isZero fs (terms ls 1 ++ (terms ts (pw n : Int) ++ (terms xs (-1) ++ terms ms (-(p : Int))))))))
  | none => false

theorem outChk_sound {ρ : Nat → Nat} {n p : Nat} {T : Tr Nat} {fs : List Fact} {r xs ls ms : List At} (h : outChk n p T fs r xs ls ms = true) (hf : ∀ f ∈ fs, f.exact ρ) (hT : Bd ρ T) (hp : p < pw n)
    (hx : num (evs ρ xs) < p) : num (evs ρ r) < p ∧ pw n * num (evs ρ r) % p = num (evs ρ xs) ∧ r.length = n := by
  unfold outChk at h
  split at h
  · rename_i ts top hc
    simp only [Bool.and_eq_true] at h
    obtain ⟨h0, h1, h2, h3, h4⟩ := h
    have ht : top = .c 0 := by
      split at h0
      · rfl
      · cases h0
    subst ht
    have e1 := isZero_sound h4 hf
    rw [evalL_append, evalL_append, evalL_append, evalL_terms, evalL_terms, evalL_terms, evalL_terms, zeroB_sound hf hT ls h1] at e1
    have hw := num_lt (wordsB_sound hT ms h2)
    have hl : (evs ρ ms).length = n := by simpa [evs] using Nat.eq_of_beq_eq_true h3
    rw [hl] at hw
    have e2 : pw n * num (evs ρ ts) = num (evs ρ xs) + p * num (evs ρ ms) := by
      have a1 : (pw n : Int) * (num (evs ρ ts) : Int) = ((pw n * num (evs ρ ts) : Nat) : Int) := by simp
      have a2 : -(p : Int) * (num (evs ρ ms) : Int) = -((p * num (evs ρ ms) : Nat) : Int) := by simp [Int.neg_mul]
      rw [a1, a2] at e1
      omega
    have hlt : num (evs ρ ts) < p := by
      rcases Nat.lt_or_ge (num (evs ρ ts)) p with h | h
      · exact h
      · have b1 : pw n * p ≤ pw n * num (evs ρ ts) := Nat.mul_le_mul_left _ h
        have b2 : p * (num (evs ρ ms) + 1) ≤ p * pw n := Nat.mul_le_mul_left _ hw
        rw [Nat.mul_add, Nat.mul_one, Nat.mul_comm p (pw n)] at b2
        omega
    obtain ⟨c1, c2⟩ := condChk_sound hc hf hT hp (by simp only [At.ev_c, Nat.mul_zero, Nat.add_zero]; omega)
    simp only [At.ev_c, Nat.mul_zero, Nat.add_zero] at c1
    rw [Nat.mod_eq_of_lt hlt] at c1
    refine ⟨by rw [c1]; exact hlt, ?_, c2⟩
    rw [c1, e2, Nat.add_mul_mod_self_left, Nat.mod_eq_of_lt hx]
  · cases h

def st2 (t0 : Nat) (b0 : Bool) (n0 : Nat) (t1 : Nat) (b1 : Bool) (n1 : Nat) (f : Func) : Option St :=
  match f.body with
  | some c => stepCode cfg f.ntmps c (mkSt [(t0, b0, n0), (t1, b1, n1)])
  | none => none

def outAll (s : Option St) : Bool :=
  match s with
  | some S => match out0 S false, bnds S.facts.reverse (mkBd (lim false - 1) 4 4 .nil) with
    | some (t, r), some T => Nat.beq t 32 && outChk 4 (num pws) T S.facts r (vars 4 4) [.v 16, .v 30, .v 56, .v 81] [.v 4, .v 20, .v 42, .v 67]
    | _, _ => false
  | none => false

theorem out_chk : outAll (st2 32 false 4 31 false 4 Try.f11) = true := by kernel_rfl

/-- What a call over two rows leaves. -/
def Left2 (t : TypeId) (Q : List Nat → Prop) (w : World) (B0 B1 : Nat) (e : Ending) (w' : World) : Prop :=
  e = .returned (.tuple #[]) ∧ ∃ rs, (∀ x ∈ rs, x < lim false) ∧ Q rs ∧ w'.heap[B0]? = some (.cells (rowOf false rs) t (0, 0)) ∧ Stays w w' [B0, B1]

theorem fiat_out (w : World) (B0 B1 : Nat) (zs xs : List Nat) (hd : B0 ≠ B1) (lz : zs.length = 4) (lx : xs.length = 4) (wz : ∀ x ∈ zs, x < lim false) (wx : ∀ x ∈ xs, x < lim false) (hx : num xs < num pws)
    (h0 : w.heap[B0]? = some (.cells (rowOf false zs) 32 (0, 0))) (h1 : w.heap[B1]? = some (.cells (rowOf false xs) 31 (0, 0))) :
    Calls Try.prog 11 #[.pointer (some ⟨B0, 0, none⟩), .pointer (some ⟨B1, 0, none⟩)] w
      (Left2 32 (fun rs => num rs < num pws ∧ pw 4 * num rs % num pws = num xs ∧ rs.length = 4) w B0 B1) := by
  have hk := out_chk
  unfold outAll st2 at hk
  split at hk
  · rename_i S hS
    split at hS
    · rename_i c hc
      split at hk
      · rename_i t r T ho hT
        simp only [Bool.and_eq_true] at hk
        have ht : t = 32 := Nat.eq_of_beq_eq_true hk.1
        subst ht
        exact run2 cfg_ok mixed Try.func11 hc rfl (by rw [Try.ntmps11]; omega) hS ho hT B0 B1 zs xs hd lz lx wz wx h0 h1 (fun ρ hf hb ex => by
          have := outChk_sound hk.2 hf hb pws_lt (by rw [ex]; exact hx)
          rw [ex] at this
          exact ⟨this.1, this.2.1, by simpa [evs] using this.2.2⟩)
      · cases hk
    · cases hS
  · cases hk

end Go.Proofs.Ytmfonalhmaphnaa
