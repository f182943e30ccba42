/-
  What follows from the facts: bounds (no sum wraps), and linear equations between the numbers, reckoned by a checked elimination. No program in sight.
-/
import Derived.Test.YtdbaaiplkngjkaaEngA
namespace Go.Proofs.Ytdbaaiplkngjkaa

/-- The fact, where nothing wraps. -/
def Fact.exact (ρ : Nat → Nat) : Fact → Prop
  | .plus z x y => ρ z = x.ev ρ + y.ev ρ
  | .shl z x k => ρ z = x.ev ρ * 2 ^ k
  | f => f.ok ρ

def ubd (T : Tr Nat) : At → Option Nat
  | .c n => some n
  | .v i => T.get i

def Bd (ρ : Nat → Nat) (T : Tr Nat) : Prop := ∀ i u, T.get i = some u → ρ i ≤ u

theorem ubd_le {ρ : Nat → Nat} {T : Tr Nat} (h : Bd ρ T) {x : At} {u : Nat} (hx : ubd T x = some u) : x.ev ρ ≤ u := by
  cases x with
  | c n => simp [ubd] at hx; simp [At.ev, hx]
  | v i => exact h i u hx

theorem Bd.set {ρ : Nat → Nat} {T : Tr Nat} (h : Bd ρ T) {k u : Nat} (hk : ρ k ≤ u) : Bd ρ (Tr.set (some u) 20 T k) := by
  intro i v hv
  rcases Tr.get_set _ _ _ _ _ _ hv with ⟨rfl, h1⟩ | ⟨_, h1⟩
  · cases h1; exact hk
  · exact h i v h1

def bnd1 (T : Tr Nat) : Fact → Option (Tr Nat)
  | .mul hi lo x y => match ubd T x, ubd T y with
    | some a, some b => some (Tr.set (some (a * b / 18446744073709551616)) 20 (Tr.set (some 18446744073709551615) 20 T lo) hi)
    | _, _ => none
  | .add s c _ _ _ => some (Tr.set (some 18446744073709551615) 20 (Tr.set (some 1) 20 T c) s)
  | .sub d b _ _ _ => some (Tr.set (some 18446744073709551615) 20 (Tr.set (some 1) 20 T b) d)
  | .plus z x y => match ubd T x, ubd T y with
    | some a, some b => match Nat.blt (a + b) 18446744073709551616 with
      | true => some (Tr.set (some (a + b)) 20 T z)
      | false => none
    | _, _ => none
  | .sel z _ x y => match ubd T x, ubd T y with
    | some a, some b => some (Tr.set (some (a + b)) 20 T z)
    | _, _ => none
  | .and z x _ => match ubd T x with
    | some a => some (Tr.set (some a) 20 T z)
    | none => none
  | .shl z x k => match ubd T x with
    | some a => match Nat.blt (a * 2 ^ k) 18446744073709551616 with
      | true => some (Tr.set (some (a * 2 ^ k)) 20 T z)
      | false => none
    | none => none
  | .shr z x k => match ubd T x with
    | some a => some (Tr.set (some (a / 2 ^ k)) 20 T z)
    | none => none
  | .low z _ => some (Tr.set (some 255) 20 T z)
  | .mulw z _ _ => some (Tr.set (some 18446744073709551615) 20 T z)
  | .or .. => none
  | .not z _ => some (Tr.set (some 18446744073709551615) 20 T z)

theorem bnd1_sound {ρ : Nat → Nat} {T T' : Tr Nat} {f : Fact} (h : bnd1 T f = some T') (hT : Bd ρ T) (hf : f.ok ρ) : Bd ρ T' ∧ f.exact ρ := by
  cases f with
  | mul hi lo x y =>
    simp only [bnd1] at h
    split at h
    · rename_i a b ha hb
      cases h
      refine ⟨(hT.set (by have := hf.2; omega)).set ?_, hf⟩
      have h1 := ubd_le hT ha
      have h2 := ubd_le hT hb
      have h3 := hf.1
      have h4 : x.ev ρ * y.ev ρ ≤ a * b := Nat.mul_le_mul h1 h2
      rw [Nat.le_div_iff_mul_le (by decide)]
      omega
    · cases h
  | add s c x y ci =>
    cases h
    exact ⟨(hT.set hf.2.2.1).set (by have := hf.2.1; omega), hf⟩
  | sub d b x y bi =>
    cases h
    exact ⟨(hT.set hf.2.2.1).set (by have := hf.2.1; omega), hf⟩
  | plus z x y =>
    simp only [bnd1] at h
    split at h
    · rename_i a b ha hb
      split at h
      · rename_i hlt
        have hlt' : a + b < 18446744073709551616 := by simpa using hlt
        cases h
        have h1 := ubd_le hT ha
        have h2 := ubd_le hT hb
        have h3 : ρ z = x.ev ρ + y.ev ρ := by
          have : ρ z = (x.ev ρ + y.ev ρ) % 18446744073709551616 := hf
          rw [this, Nat.mod_eq_of_lt (by omega)]
        exact ⟨hT.set (by omega), h3⟩
      · cases h
    · cases h
  | sel z c x y =>
    simp only [bnd1] at h
    split at h
    · rename_i a b ha hb
      cases h
      have h1 := ubd_le hT ha
      have h2 := ubd_le hT hb
      refine ⟨hT.set ?_, hf⟩
      rw [hf.1]; split <;> omega
    · cases h
  | and z x y =>
    simp only [bnd1] at h
    split at h
    · rename_i a ha
      cases h
      have h1 := ubd_le hT ha
      refine ⟨hT.set ?_, hf⟩
      have : ρ z = x.ev ρ &&& y.ev ρ := hf
      rw [this]; exact Nat.le_trans Nat.and_le_left h1
    · cases h
  | shl z x k =>
    simp only [bnd1] at h
    split at h
    · rename_i a ha
      split at h
      · rename_i hlt
        have hlt' : a * 2 ^ k < 18446744073709551616 := by simpa using hlt
        cases h
        have h1 : x.ev ρ * 2 ^ k ≤ a * 2 ^ k := Nat.mul_le_mul_right _ (ubd_le hT ha)
        have h3 : ρ z = x.ev ρ * 2 ^ k := by
          have : ρ z = x.ev ρ * 2 ^ k % 18446744073709551616 := hf
          rw [this, Nat.mod_eq_of_lt (by omega)]
        exact ⟨hT.set (by rw [h3]; exact h1), h3⟩
      · cases h
    · cases h
  | shr z x k =>
    simp only [bnd1] at h
    split at h
    · rename_i a ha
      cases h
      refine ⟨hT.set ?_, hf⟩
      have : ρ z = x.ev ρ / 2 ^ k := hf
      rw [this]; exact Nat.div_le_div_right (ubd_le hT ha)
    · cases h
  | low z x =>
    cases h
    refine ⟨hT.set ?_, hf⟩
    have : ρ z = x.ev ρ % 256 := hf
    omega
  | mulw z x y =>
    cases h
    refine ⟨hT.set ?_, hf⟩
    have : ρ z = x.ev ρ * y.ev ρ % 18446744073709551616 := hf
    omega
  | or z x y => cases h
  | not z x =>
    cases h
    refine ⟨hT.set ?_, hf⟩
    have : ρ z = 18446744073709551615 - x.ev ρ := hf
    omega

def bnds : List Fact → Tr Nat → Option (Tr Nat)
  | [], T => some T
  | f :: l, T => match bnd1 T f with
    | some T' => bnds l T'
    | none => none

theorem bnds_sound {ρ : Nat → Nat} : ∀ (l : List Fact) (T T' : Tr Nat), bnds l T = some T' → Bd ρ T → (∀ f ∈ l, f.ok ρ) → Bd ρ T' ∧ ∀ f ∈ l, f.exact ρ
  | [], T, T', h, hT, _ => by cases h; exact ⟨hT, fun f hf => by cases hf⟩
  | f :: l, T, T', h, hT, hl => by
    unfold bnds at h
    split at h
    · rename_i T1 h1
      obtain ⟨h2, h3⟩ := bnd1_sound h1 hT (hl f List.mem_cons_self)
      obtain ⟨h4, h5⟩ := bnds_sound l T1 T' h h2 (fun g hg => hl g (List.mem_cons_of_mem _ hg))
      refine ⟨h4, fun g hg => ?_⟩
      rcases List.mem_cons.1 hg with rfl | hg
      · exact h3
      · exact h5 g hg
    · cases h

/-! ### Linear sums -/

theorem At.ev_v (ρ : Nat → Nat) (i : Nat) : (At.v i).ev ρ = ρ i := rfl
theorem At.ev_c (ρ : Nat → Nat) (n : Nat) : (At.c n).ev ρ = n := rfl


/-- The sum that a trie of coefficients stands for. -/
def sumT : Tr Int → (Nat → Nat) → Int
  | .nil, _ => 0
  | .node v l r, ρ => v.getD 0 * (ρ 0 : Int) + sumT l (fun k => ρ (2 * k + 1)) + sumT r (fun k => ρ (2 * k + 2))

theorem sumT_parts (t : Tr Int) (ρ : Nat → Nat) : sumT t ρ = t.val.getD 0 * (ρ 0 : Int) + sumT t.left (fun k => ρ (2 * k + 1)) + sumT t.right (fun k => ρ (2 * k + 2)) := by
  cases t <;> simp [sumT, Tr.val, Tr.left, Tr.right]

/-- One coefficient more. -/
def addT (c : Int) : Nat → Tr Int → Nat → Option (Tr Int)
  | 0, _, _ => none
  | f + 1, t, k =>
    match Nat.beq k 0 with
    | true => some (.node (some (t.val.getD 0 + c)) t.left t.right)
    | false =>
      match Nat.beq (k % 2) 1 with
      | true => match addT c f t.left (k / 2) with
        | some l => some (.node t.val l t.right)
        | none => none
      | false => match addT c f t.right (k / 2 - 1) with
        | some r => some (.node t.val t.left r)
        | none => none

theorem addT_sound (c : Int) : ∀ (f : Nat) (t t' : Tr Int) (k : Nat) (ρ : Nat → Nat), addT c f t k = some t' → sumT t' ρ = sumT t ρ + c * (ρ k : Int) := by
  intro f
  induction f with
  | zero => intro t t' k ρ h; cases h
  | succ f ih =>
    intro t t' k ρ h
    unfold addT at h
    rw [sumT_parts t]
    split at h
    · rename_i e
      have hk : k = 0 := Nat.eq_of_beq_eq_true e
      subst hk
      cases h
      simp only [sumT, Option.getD_some]
      rw [Int.add_mul]; omega
    · rename_i e
      have hk : k ≠ 0 := fun e' => by subst e'; cases e
      split at h
      · rename_i e1
        have h1 : k % 2 = 1 := Nat.eq_of_beq_eq_true e1
        split at h
        · rename_i l hl
          cases h
          simp only [sumT]
          rw [ih _ _ _ _ hl, show 2 * (k / 2) + 1 = k by omega]
          omega
        · cases h
      · rename_i e1
        have h1 : k % 2 ≠ 1 := fun e' => by rw [e'] at e1; cases e1
        split at h
        · rename_i r hr
          cases h
          simp only [sumT]
          rw [ih _ _ _ _ hr, show 2 * (k / 2 - 1) + 2 = k by omega]
          omega
        · cases h

/-- A linear sum: a constant and coefficients. -/
structure Lin where
  k : Int
  t : Tr Int

def Lin.ev (p : Lin) (ρ : Nat → Nat) : Int := p.k + sumT p.t ρ

def Lin.add (c : Int) (x : At) (p : Lin) : Option Lin :=
  match x with
  | .c n => some ⟨p.k + c * (n : Int), p.t⟩
  | .v i => match addT c 20 p.t i with
    | some t => some ⟨p.k, t⟩
    | none => none

theorem Lin.add_sound {c : Int} {x : At} {p q : Lin} {ρ : Nat → Nat} (h : Lin.add c x p = some q) : q.ev ρ = p.ev ρ + c * (x.ev ρ : Int) := by
  cases x with
  | c n => cases h; simp [Lin.ev, At.ev]; omega
  | v i =>
    simp only [Lin.add] at h
    split at h
    · rename_i t ht
      cases h
      simp only [Lin.ev, At.ev, addT_sound c 20 _ _ _ ρ ht]; omega
    · cases h

/-- Terms: a number and its coefficient. -/
def evalL (ρ : Nat → Nat) : List (At × Int) → Int
  | [] => 0
  | (x, c) :: l => c * (x.ev ρ : Int) + evalL ρ l

def Lin.adds : List (At × Int) → Lin → Option Lin
  | [], p => some p
  | (x, c) :: l, p => match Lin.add c x p with
    | some q => Lin.adds l q
    | none => none

theorem Lin.adds_sound {ρ : Nat → Nat} : ∀ (l : List (At × Int)) (p q : Lin), Lin.adds l p = some q → q.ev ρ = p.ev ρ + evalL ρ l
  | [], p, q, h => by cases h; simp [evalL]
  | (x, c) :: l, p, q, h => by
    unfold Lin.adds at h
    split at h
    · rename_i p1 h1
      rw [Lin.adds_sound l p1 q h, Lin.add_sound h1]
      simp only [evalL]; omega
    · cases h

def coef (p : Lin) (i : Nat) : Int := (p.t.get i).getD 0

/-- One fact, used to take its low word out of the sum. -/
def elim1 (p : Lin) : Fact → Option Lin
  | .mul hi lo x y =>
    let k := coef p lo
    match y, x with
    | .c n, x => Lin.adds [(x, k * (n : Int)), (.v hi, k * (-18446744073709551616)), (.v lo, -k)] p
    | y, .c n => Lin.adds [(y, k * (n : Int)), (.v hi, k * (-18446744073709551616)), (.v lo, -k)] p
    | _, _ => none
  | .add s c x y ci =>
    let k := coef p s
    Lin.adds [(x, k), (y, k), (ci, k), (.v c, k * (-18446744073709551616)), (.v s, -k)] p
  | .sub d b x y bi =>
    let k := coef p d
    Lin.adds [(x, k), (y, -k), (bi, -k), (.v b, k * 18446744073709551616), (.v d, -k)] p
  | .plus z x y =>
    let k := coef p z
    Lin.adds [(x, k), (y, k), (.v z, -k)] p
  | .shl z x e =>
    let k := coef p z
    Lin.adds [(x, k * ((2 ^ e : Nat) : Int)), (.v z, -k)] p
  | _ => some p

theorem elim1_sound {ρ : Nat → Nat} {p q : Lin} {f : Fact} (h : elim1 p f = some q) (hf : f.exact ρ) : q.ev ρ = p.ev ρ := by
  cases f with
  | mul hi lo x y =>
    have h1 : ρ hi * 18446744073709551616 + ρ lo = x.ev ρ * y.ev ρ := hf.1
    simp only [elim1] at h
    split at h
    · rename_i n
      rw [Lin.adds_sound _ _ _ h]
      simp only [evalL, At.ev_v, At.ev_c] at h1 ⊢
      generalize coef p lo = k
      have h2 : (ρ hi : Int) * 18446744073709551616 + (ρ lo : Int) = (At.ev ρ x : Int) * (n : Int) := by
        rw [← Int.natCast_mul]; generalize At.ev ρ x * n = q at h1 ⊢; omega
      have h3 : k * (n : Int) * (At.ev ρ x : Int) = k * ((ρ hi : Int) * 18446744073709551616 + (ρ lo : Int)) := by rw [h2, Int.mul_assoc, Int.mul_comm (n : Int)]
      rw [h3, Int.mul_add]
      generalize hkh : k * ((ρ hi : Int) * 18446744073709551616) = A
      have h4 : k * (-18446744073709551616) * (ρ hi : Int) = -A := by rw [← hkh]; rw [Int.mul_assoc, Int.neg_mul, Int.mul_neg, Int.mul_comm 18446744073709551616]
      rw [h4, Int.neg_mul]; omega
    · rename_i n _
      rw [Lin.adds_sound _ _ _ h]
      simp only [evalL, At.ev_v, At.ev_c] at h1 ⊢
      generalize coef p lo = k
      have h2 : (ρ hi : Int) * 18446744073709551616 + (ρ lo : Int) = (n : Int) * (At.ev ρ y : Int) := by
        rw [← Int.natCast_mul]; generalize n * At.ev ρ y = q at h1 ⊢; omega
      have h3 : k * (n : Int) * (At.ev ρ y : Int) = k * ((ρ hi : Int) * 18446744073709551616 + (ρ lo : Int)) := by rw [h2, Int.mul_assoc]
      rw [h3, Int.mul_add]
      generalize hkh : k * ((ρ hi : Int) * 18446744073709551616) = A
      have h4 : k * (-18446744073709551616) * (ρ hi : Int) = -A := by rw [← hkh]; rw [Int.mul_assoc, Int.neg_mul, Int.mul_neg, Int.mul_comm 18446744073709551616]
      rw [h4, Int.neg_mul]; omega
    · cases h
  | add s c x y ci =>
    have h1 : ρ s + 18446744073709551616 * ρ c = x.ev ρ + y.ev ρ + ci.ev ρ := hf.1
    simp only [elim1] at h
    rw [Lin.adds_sound _ _ _ h]
    simp only [evalL, At.ev_v]
    generalize coef p s = k
    have h2 : k * (At.ev ρ x : Int) + k * (At.ev ρ y : Int) + k * (At.ev ρ ci : Int) = k * (ρ s : Int) + k * (18446744073709551616 * (ρ c : Int)) := by
      rw [← Int.mul_add, ← Int.mul_add, ← Int.mul_add]; congr 1; omega
    have h4 : k * (-18446744073709551616) * (ρ c : Int) = -(k * (18446744073709551616 * (ρ c : Int))) := by rw [Int.mul_assoc, Int.neg_mul, Int.mul_neg]
    rw [h4, Int.neg_mul]; omega
  | sub d b x y bi =>
    have h1 : ρ d + y.ev ρ + bi.ev ρ = x.ev ρ + 18446744073709551616 * ρ b := hf.1
    simp only [elim1] at h
    rw [Lin.adds_sound _ _ _ h]
    simp only [evalL, At.ev_v]
    generalize coef p d = k
    have h2 : k * (ρ d : Int) + k * (At.ev ρ y : Int) + k * (At.ev ρ bi : Int) = k * (At.ev ρ x : Int) + k * (18446744073709551616 * (ρ b : Int)) := by
      rw [← Int.mul_add, ← Int.mul_add, ← Int.mul_add]; congr 1; omega
    have h4 : k * 18446744073709551616 * (ρ b : Int) = k * (18446744073709551616 * (ρ b : Int)) := by rw [Int.mul_assoc]
    rw [h4, Int.neg_mul, Int.neg_mul, Int.neg_mul]; omega
  | plus z x y =>
    have h1 : ρ z = x.ev ρ + y.ev ρ := hf
    simp only [elim1] at h
    rw [Lin.adds_sound _ _ _ h]
    simp only [evalL, At.ev_v]
    generalize coef p z = k
    have h2 : k * (ρ z : Int) = k * (At.ev ρ x : Int) + k * (At.ev ρ y : Int) := by rw [← Int.mul_add]; congr 1; omega
    rw [Int.neg_mul]; omega
  | shl z x e =>
    have h1 : ρ z = x.ev ρ * 2 ^ e := hf
    simp only [elim1] at h
    rw [Lin.adds_sound _ _ _ h]
    simp only [evalL, At.ev_v]
    generalize coef p z = k
    have h2 : k * (ρ z : Int) = k * ((2 ^ e : Nat) : Int) * (At.ev ρ x : Int) := by
      rw [h1, Int.natCast_mul, Int.mul_assoc, Int.mul_comm (At.ev ρ x : Int)]
    rw [Int.neg_mul, h2]; omega
  | _ => cases h; rfl

/-- The facts, the last first. -/
def elims : List Fact → Lin → Option Lin
  | [], p => some p
  | f :: l, p => match elim1 p f with
    | some q => elims l q
    | none => none

theorem elims_sound {ρ : Nat → Nat} : ∀ (l : List Fact) (p q : Lin), elims l p = some q → (∀ f ∈ l, f.exact ρ) → q.ev ρ = p.ev ρ
  | [], p, q, h, _ => by cases h; rfl
  | f :: l, p, q, h, hl => by
    unfold elims at h
    split at h
    · rename_i p1 h1
      rw [elims_sound l p1 q h (fun g hg => hl g (List.mem_cons_of_mem _ hg)), elim1_sound h1 (hl f List.mem_cons_self)]
    · cases h

/-- All coefficients are multiples of m. -/
def divT (m : Int) : Tr Int → Bool
  | .nil => true
  | .node v l r => (match v with | some c => decide (c % m = 0) | none => true) && divT m l && divT m r

theorem divT_sound (m : Int) : ∀ (t : Tr Int) (ρ : Nat → Nat), divT m t = true → sumT t ρ % m = 0
  | .nil, ρ, _ => by simp [sumT]
  | .node v l r, ρ, h => by
    simp only [divT, Bool.and_eq_true] at h
    obtain ⟨⟨h1, h2⟩, h3⟩ := h
    have hv : v.getD 0 % m = 0 := by
      cases v with
      | none => simp
      | some c => simpa using h1
    have e1 := divT_sound m l (fun k => ρ (2 * k + 1)) h2
    have e2 := divT_sound m r (fun k => ρ (2 * k + 2)) h3
    obtain ⟨a, ha⟩ := Int.dvd_of_emod_eq_zero hv
    obtain ⟨b, hb⟩ := Int.dvd_of_emod_eq_zero e1
    obtain ⟨c, hc⟩ := Int.dvd_of_emod_eq_zero e2
    simp only [sumT]
    rw [ha, hb, hc]
    apply Int.emod_eq_zero_of_dvd
    exact ⟨a * (ρ 0 : Int) + b + c, by rw [Int.mul_add, Int.mul_add, Int.mul_assoc]⟩

/-- The terms' sum is 0, by the facts (the last first). -/
def isZero (fs : List Fact) (l : List (At × Int)) : Bool :=
  match Lin.adds l ⟨0, .nil⟩ with
  | some p => match elims fs p with
    | some q => decide (q.k = 0) && divT 0 q.t
    | none => false
  | none => false

theorem isZero_sound {ρ : Nat → Nat} {fs : List Fact} {l : List (At × Int)} (h : isZero fs l = true) (hf : ∀ f ∈ fs, f.exact ρ) : evalL ρ l = 0 := by
  unfold isZero at h
  split at h
  · rename_i p hp
    split at h
    · rename_i q hq
      simp only [Bool.and_eq_true] at h
      have hk : q.k = 0 := by simpa using h.1
      have h1 := Lin.adds_sound (ρ := ρ) _ _ _ hp
      have h2 := elims_sound (ρ := ρ) _ _ _ hq hf
      have h3 := divT_sound 0 q.t ρ h.2
      simp only [Lin.ev, sumT, hk] at h1 h2
      simp at h3
      omega
    · cases h
  · cases h

/-- The terms' sum is a multiple of m, by the facts. -/
def isMult (m : Int) (fs : List Fact) (l : List (At × Int)) : Bool :=
  match Lin.adds l ⟨0, .nil⟩ with
  | some p => match elims fs p with
    | some q => decide (q.k % m = 0) && divT m q.t
    | none => false
  | none => false

theorem isMult_sound {ρ : Nat → Nat} {m : Int} {fs : List Fact} {l : List (At × Int)} (h : isMult m fs l = true) (hf : ∀ f ∈ fs, f.exact ρ) : evalL ρ l % m = 0 := by
  unfold isMult at h
  split at h
  · rename_i p hp
    split at h
    · rename_i q hq
      simp only [Bool.and_eq_true] at h
      have hk : q.k % m = 0 := by simpa using h.1
      have h1 := Lin.adds_sound (ρ := ρ) _ _ _ hp
      have h2 := elims_sound (ρ := ρ) _ _ _ hq hf
      have h3 := divT_sound m q.t ρ h.2
      obtain ⟨a, ha⟩ := Int.dvd_of_emod_eq_zero hk
      obtain ⟨b, hb⟩ := Int.dvd_of_emod_eq_zero h3
      simp only [Lin.ev, sumT] at h1 h2
      have : evalL ρ l = m * (a + b) := by rw [Int.mul_add, ← ha, ← hb]; omega
      rw [this]; exact Int.mul_emod_right _ _
    · cases h
  · cases h

end Go.Proofs.Ytdbaaiplkngjkaa
