/-
  What follows from the facts of a sum and of a difference with its prime taken away or added once. No program in sight.
-/
import Derived.Test.YtdbaaiplkngjkaaEngE
import Derived.Test.YtdbaaiplkngjkaaSpecA
namespace Go.Proofs.Ytdbaaiplkngjkaa

/-- The words of a number as terms. -/
def terms : List At → Int → List (At × Int)
  | [], _ => []
  | x :: l, k => (x, k) :: terms l (k * 18446744073709551616)

def evs (ρ : Nat → Nat) (l : List At) : List Nat := l.map (At.ev ρ)

theorem evalL_append (ρ : Nat → Nat) : ∀ (a b : List (At × Int)), evalL ρ (a ++ b) = evalL ρ a + evalL ρ b
  | [], b => by simp [evalL]
  | (x, c) :: a, b => by simp only [List.cons_append, evalL, evalL_append ρ a b]; omega

theorem evalL_terms (ρ : Nat → Nat) : ∀ (l : List At) (k : Int), evalL ρ (terms l k) = k * (num (evs ρ l) : Int)
  | [], k => by simp [terms, evalL, evs, num]
  | x :: l, k => by
    simp only [terms, evalL, evalL_terms ρ l, evs, List.map_cons, num]
    rw [Int.natCast_add, Int.natCast_mul, Int.mul_add, Int.mul_assoc]
    rfl

/-- Each has a bound below 2^64. -/
def wordsB (T : Tr Nat) : List At → Bool
  | [] => true
  | x :: l => match ubd T x with
    | some u => Nat.blt u 18446744073709551616 && wordsB T l
    | none => false

theorem wordsB_sound {ρ : Nat → Nat} {T : Tr Nat} (h : Bd ρ T) : ∀ (l : List At), wordsB T l = true → Wd (evs ρ l)
  | [], _ => Wd.nil
  | x :: l, hl => by
    unfold wordsB at hl
    split at hl
    · rename_i u hu
      simp only [Bool.and_eq_true] at hl
      have h1 : u < 18446744073709551616 := by simpa using hl.1
      exact Wd.mk (Nat.lt_of_le_of_lt (ubd_le h hu) h1) (wordsB_sound h l hl.2)
    · cases hl

/-! ### the facts, looked up -/
def selOf : List Fact → Nat → Option (At × At × At)
  | [], _ => none
  | .sel z c x y :: l, k => match Nat.beq z k with | true => some (c, x, y) | false => selOf l k
  | _ :: l, k => selOf l k

theorem selOf_mem : ∀ (l : List Fact) (k : Nat) (c x y : At), selOf l k = some (c, x, y) → Fact.sel k c x y ∈ l
  | [], k, c, x, y, h => by cases h
  | f :: l, k, c, x, y, h => by
    cases f with
    | sel z c' x' y' =>
      simp only [selOf] at h
      split at h
      · rename_i e; cases h; rw [Nat.eq_of_beq_eq_true e]; exact List.mem_cons_self
      · exact List.mem_cons_of_mem _ (selOf_mem l k c x y h)
    | _ => exact List.mem_cons_of_mem _ (selOf_mem l k c x y h)

def addOf : List Fact → Nat → Option (Nat × At × At × At)
  | [], _ => none
  | .add s c x y ci :: l, k => match Nat.beq s k with | true => some (c, x, y, ci) | false => addOf l k
  | _ :: l, k => addOf l k

theorem addOf_mem : ∀ (l : List Fact) (k c : Nat) (x y ci : At), addOf l k = some (c, x, y, ci) → Fact.add k c x y ci ∈ l
  | [], k, c, x, y, ci, h => by cases h
  | f :: l, k, c, x, y, ci, h => by
    cases f with
    | add s c' x' y' ci' =>
      simp only [addOf] at h
      split at h
      · rename_i e; cases h; rw [Nat.eq_of_beq_eq_true e]; exact List.mem_cons_self
      · exact List.mem_cons_of_mem _ (addOf_mem l k c x y ci h)
    | _ => exact List.mem_cons_of_mem _ (addOf_mem l k c x y ci h)

/-- The fact whose borrow is that variable. -/
def subOf : List Fact → Nat → Option (Nat × At)
  | [], _ => none
  | .sub d b x _ _ :: l, k => match Nat.beq b k with | true => some (d, x) | false => subOf l k
  | _ :: l, k => subOf l k

def andOf : List Fact → Nat → Option (At × At)
  | [], _ => none
  | .and z x y :: l, k => match Nat.beq z k with | true => some (x, y) | false => andOf l k
  | _ :: l, k => andOf l k

theorem andOf_mem : ∀ (l : List Fact) (k : Nat) (x y : At), andOf l k = some (x, y) → Fact.and k x y ∈ l
  | [], k, x, y, h => by cases h
  | f :: l, k, x, y, h => by
    cases f with
    | and z x' y' =>
      simp only [andOf] at h
      split at h
      · rename_i e; cases h; rw [Nat.eq_of_beq_eq_true e]; exact List.mem_cons_self
      · exact List.mem_cons_of_mem _ (andOf_mem l k x y h)
    | _ => exact List.mem_cons_of_mem _ (andOf_mem l k x y h)

/-! ### the prime taken away once, or not -/

/-- Each result is chosen by one variable: the two numbers that it is chosen from. -/
def tailOf (fs : List Fact) (k : Nat) : List At → Option (List At × List At)
  | [] => some ([], [])
  | .v z :: r => match selOf fs z with
    | some (.v j, x, y) => match Nat.beq j k with
      | true => match tailOf fs k r with
        | some (ds, ts) => some (x :: ds, y :: ts)
        | none => none
      | false => none
    | _ => none
  | _ => none

theorem tailOf_sound {ρ : Nat → Nat} {fs : List Fact} {k : Nat} (hf : ∀ f ∈ fs, f.exact ρ) : ∀ (r ds ts : List At), tailOf fs k r = some (ds, ts) →
    evs ρ r = (if ρ k = 0 then evs ρ ds else evs ρ ts) ∧ ds.length = r.length ∧ ts.length = r.length
  | [], ds, ts, h => by cases h; simp [evs]
  | x :: r, ds, ts, h => by
    cases x with
    | c n => simp [tailOf] at h
    | v z =>
      simp only [tailOf] at h
      split at h
      · rename_i j x y hs
        split at h
        · rename_i e
          have hj : j = k := Nat.eq_of_beq_eq_true e
          subst hj
          split at h
          · rename_i ds' ts' hr
            cases h
            have h1 := hf _ (selOf_mem _ _ _ _ _ hs)
            have h2 : ρ z = (if ρ j = 0 then x.ev ρ else y.ev ρ) := h1.1
            obtain ⟨h3, h4, h5⟩ := tailOf_sound hf r ds' ts' hr
            refine ⟨?_, by simp [h4], by simp [h5]⟩
            have h6 : evs ρ (At.v z :: r) = ρ z :: evs ρ r := rfl
            rw [h6, h2, h3]
            by_cases h0 : ρ j = 0
            · simp [h0, evs]
            · simp [h0, evs]
          · cases h
        · cases h
      · cases h

/-- The results are a number T = ts + R * top with the prime taken away, where it can be, by a chain of differences. -/
def condChk (n p : Nat) (T : Tr Nat) (fs : List Fact) (r : List At) : Option (List At × At) :=
  match r with
  | .v z :: _ => match selOf fs z with
    | some (.v k, _, _) => match tailOf fs k r with
      | some (ds, ts) => match subOf fs k with
        | some (dt, top) =>
          match isZero fs (terms ds 1 ++ ((.v dt, (pw n : Int)) :: (.c p, 1) :: (terms ts (-1) ++ [(top, -(pw n : Int)), (.v k, -(pw (n + 1) : Int))]))) &&
              wordsB T ds && wordsB T ts && wordsB T [.v dt, top] && (match ubd T (.v k) with | some u => Nat.ble u 1 | none => false) && Nat.beq ds.length n with
          | true => some (ts, top)
          | false => none
        | none => none
      | none => none
    | _ => none
  | _ => none

theorem condChk_sound {ρ : Nat → Nat} {n p : Nat} {T : Tr Nat} {fs : List Fact} {r ts : List At} {top : At} (h : condChk n p T fs r = some (ts, top)) (hf : ∀ f ∈ fs, f.exact ρ) (hT : Bd ρ T) (hp : p < pw n)
    (hlt : num (evs ρ ts) + pw n * top.ev ρ < 2 * p) : num (evs ρ r) = (num (evs ρ ts) + pw n * top.ev ρ) % p ∧ r.length = n := by
  unfold condChk at h
  split at h
  · rename_i z r'
    split at h
    · rename_i k x0 y0 hs
      split at h
      · rename_i ds ts' ht
        split at h
        · rename_i dt top' hsub
          split at h
          · rename_i hchk
            cases h
            simp only [Bool.and_eq_true] at hchk
            obtain ⟨⟨⟨⟨⟨h1, h2⟩, h3⟩, h4⟩, h5⟩, h6⟩ := hchk
            have e1 := isZero_sound h1 hf
            rw [evalL_append, evalL_terms] at e1
            simp only [evalL] at e1
            rw [evalL_append, evalL_terms] at e1
            simp only [evalL, At.ev_v, At.ev_c] at e1
            have w1 := wordsB_sound hT ds h2
            have w2 := wordsB_sound hT ts h3
            have w3 := wordsB_sound hT _ h4
            have hn : ds.length = n := Nat.eq_of_beq_eq_true h6
            have hk : ρ k ≤ 1 := by
              split at h5
              · rename_i u hu
                have hu1 : u ≤ 1 := by simpa using h5
                exact Nat.le_trans (ubd_le (x := .v k) hT hu) hu1
              · cases h5
            obtain ⟨t1, t2, t3⟩ := tailOf_sound hf _ _ _ ht
            have l1 := num_lt w1
            have l2 := num_lt w2
            have ld : ρ dt < 18446744073709551616 := by have := w3 0; simpa [evs, At.ev] using this
            have len1 : (evs ρ ds).length = n := by simp [evs, hn]
            have len2 : (evs ρ ts).length = n := by simp [evs]; omega
            rw [len1] at l1
            rw [len2] at l2
            refine ⟨?_, by rw [← t2]; exact hn⟩
            have t4 : num (evs ρ (At.v z :: r')) = if ρ k = 0 then num (evs ρ ds) else num (evs ρ ts) := by rw [t1]; split <;> rfl
            rw [t4]
            clear t4 t1
            generalize num (evs ρ ds) = D at *
            generalize num (evs ρ ts) = Tn at *
            generalize At.ev ρ top = tp at *
            generalize ρ dt = d at *
            have hpw1 : pw (n + 1) = 18446744073709551616 * pw n := rfl
            rw [hpw1] at e1
            generalize pw n = R at *
            have e2 : D + R * d + p = Tn + R * tp + 18446744073709551616 * R * ρ k := by
              have a1 : (R : Int) * (d : Int) = ((R * d : Nat) : Int) := by simp
              have a2 : -(R : Int) * (tp : Int) = -((R * tp : Nat) : Int) := by simp [Int.neg_mul]
              have a3 : -((18446744073709551616 * R : Nat) : Int) * (ρ k : Int) = -((18446744073709551616 * R * ρ k : Nat) : Int) := by rw [Int.neg_mul, ← Int.natCast_mul]
              rw [a1, a2, a3] at e1
              generalize R * d = x1 at *
              generalize R * tp = x2 at *
              generalize 18446744073709551616 * R * ρ k = x3 at *
              omega
            have hk' : ρ k = 0 ∨ ρ k = 1 := by omega
            rcases hk' with hk0 | hk0
            · rw [hk0] at e2 ⊢
              simp only [if_true, Nat.mul_zero, Nat.add_zero] at e2 ⊢
              have hd0 : d = 0 := by
                rcases Nat.eq_zero_or_pos d with h | h
                · exact h
                · have := Nat.mul_le_mul_left R h
                  omega
              subst hd0
              rw [← e2]
              simp only [Nat.mul_zero, Nat.add_zero]
              rw [Nat.add_mod_right, Nat.mod_eq_of_lt (by omega)]
            · rw [hk0] at e2 ⊢
              simp only [Nat.one_ne_zero, if_false, Nat.mul_one] at e2 ⊢
              have h7 : R * d ≤ R * 18446744073709551615 := Nat.mul_le_mul_left R (by omega)
              have h8 : Tn + R * tp < p := by omega
              have ht0 : tp = 0 := by
                rcases Nat.eq_zero_or_pos tp with h | h
                · exact h
                · have := Nat.mul_le_mul_left R h
                  omega
              subst ht0
              simp only [Nat.mul_zero, Nat.add_zero] at h8 ⊢
              rw [Nat.mod_eq_of_lt h8]
          · cases h
        · cases h
      · cases h
    · cases h
  · cases h

/-- A sum: the number before the prime is taken away is a + b. -/
def addChk (n p : Nat) (T : Tr Nat) (fs : List Fact) (r xs ys : List At) : Bool :=
  match condChk n p T fs r with
  | some (ts, top) => isZero fs (terms ts 1 ++ ((top, (pw n : Int)) :: (terms xs (-1) ++ terms ys (-1))))
  | none => false

theorem addChk_sound {ρ : Nat → Nat} {n p : Nat} {T : Tr Nat} {fs : List Fact} {r xs ys : List At} (h : addChk n p T fs r xs ys = true) (hf : ∀ f ∈ fs, f.exact ρ) (hT : Bd ρ T) (hp : p < pw n)
    (hx : num (evs ρ xs) < p) (hy : num (evs ρ ys) < p) : num (evs ρ r) = (num (evs ρ xs) + num (evs ρ ys)) % p ∧ r.length = n := by
  unfold addChk at h
  split at h
  · rename_i ts top hc
    have e1 := isZero_sound h hf
    rw [evalL_append, evalL_terms] at e1
    simp only [evalL] at e1
    rw [evalL_append, evalL_terms, evalL_terms] at e1
    have e2 : num (evs ρ ts) + pw n * top.ev ρ = num (evs ρ xs) + num (evs ρ ys) := by
      have a1 : (pw n : Int) * (top.ev ρ : Int) = ((pw n * top.ev ρ : Nat) : Int) := by simp
      rw [a1] at e1
      generalize pw n * top.ev ρ = x1 at *
      omega
    have := condChk_sound hc hf hT hp (by rw [e2]; omega)
    rw [e2] at this
    exact this
  · cases h

/-! ### the prime added once, or not -/

/-- The numbers that are added to each result: the mask, the mask with a word of the prime, or nothing: the words. -/
def masksOf (fs : List Fact) (m : Nat) : List At → Option (List Nat)
  | [] => some []
  | .c n :: l => match Nat.beq n 0, masksOf fs m l with
    | true, some r => some (0 :: r)
    | _, _ => none
  | .v z :: l => match masksOf fs m l with
    | some r => match Nat.beq z m with
      | true => some (18446744073709551615 :: r)
      | false => match andOf fs z with
        | some (.v j, .c q) => match Nat.beq j m && Nat.blt q 18446744073709551616 with
          | true => some (q :: r)
          | false => none
        | _ => none
    | none => none

theorem and_full {q : Nat} (hq : q < 18446744073709551616) : 18446744073709551615 &&& q = q := by
  rw [Nat.and_comm]; exact (Nat.and_two_pow_sub_one_eq_mod q 64).trans (Nat.mod_eq_of_lt hq)

theorem masksOf_sound {ρ : Nat → Nat} {fs : List Fact} {m b : Nat} (hf : ∀ f ∈ fs, f.exact ρ) (hm : ρ m = if b = 0 then 0 else 18446744073709551615) : ∀ (l : List At) (r : List Nat), masksOf fs m l = some r →
    num (evs ρ l) = (if b = 0 then 0 else num r)
  | [], r, h => by cases h; simp [evs, num]
  | .c n :: l, r, h => by
    simp only [masksOf] at h
    split at h
    · rename_i r' hn hr
      cases h
      have ih := masksOf_sound hf hm l r' hr
      have hn0 : n = 0 := Nat.eq_of_beq_eq_true hn
      subst hn0
      have : num (evs ρ (At.c 0 :: l)) = 18446744073709551616 * num (evs ρ l) := by simp [evs, num, At.ev]
      rw [this, ih]
      split <;> simp [num]
    · cases h
  | .v z :: l, r, h => by
    simp only [masksOf] at h
    split at h
    · rename_i r' hr
      have ih := masksOf_sound hf hm l r' hr
      have hz : num (evs ρ (At.v z :: l)) = ρ z + 18446744073709551616 * num (evs ρ l) := rfl
      rw [hz, ih]
      split at h
      · rename_i e
        cases h
        rw [Nat.eq_of_beq_eq_true e, hm]
        split <;> simp [num]
      · split at h
        · rename_i j q ha
          split at h
          · rename_i hjq
            cases h
            simp only [Bool.and_eq_true] at hjq
            have hj : j = m := Nat.eq_of_beq_eq_true hjq.1
            have hq : q < 18446744073709551616 := by simpa using hjq.2
            subst hj
            have h1 : ρ z = ρ j &&& q := hf _ (andOf_mem _ _ _ _ ha)
            rw [h1, hm]
            split
            · simp
            · rw [and_full hq]; simp [num]
          · cases h
        · cases h
    · cases h

/-- Of each result, the two that are added. -/
def addsOf (fs : List Fact) : List At → Option (List At × List At)
  | [] => some ([], [])
  | .v z :: l => match addOf fs z, addsOf fs l with
    | some (_, x, y, _), some (ds, ms) => some (x :: ds, y :: ms)
    | _, _ => none
  | _ => none

def lastV : List At → Option Nat
  | [.v z] => some z
  | _ :: l => lastV l
  | [] => none

def subChk (n : Nat) (T : Tr Nat) (fs : List Fact) (r xs ys : List At) (m b : Nat) (ps : List Nat) : Bool :=
  match addsOf fs r, lastV r with
  | some (ds, ms), some z => match addOf fs z, selOf fs m, masksOf fs m ms with
    | some (co, _, _, _), some (.v b', .c 0, .c 18446744073709551615), some qs =>
      Nat.beq b b' && isZero fs (terms ds 1 ++ ((.v b, -(pw n : Int)) :: (terms xs (-1) ++ terms ys 1))) &&
      isZero fs (terms r 1 ++ ((.v co, (pw n : Int)) :: (terms ds (-1) ++ terms ms (-1)))) && decide (qs = ps) &&
      wordsB T ds && wordsB T r && Nat.beq r.length n && Nat.beq ds.length n && (match ubd T (.v b), ubd T (.v co) with | some u, some v => Nat.ble u 1 && Nat.ble v 1 | _, _ => false)
    | _, _, _ => false
  | _, _ => false

theorem subChk_sound {ρ : Nat → Nat} {n : Nat} {T : Tr Nat} {fs : List Fact} {r xs ys : List At} {m b : Nat} {ps : List Nat} (h : subChk n T fs r xs ys m b ps = true) (hf : ∀ f ∈ fs, f.exact ρ) (hT : Bd ρ T) (hp : num ps < pw n)
    (hx : num (evs ρ xs) < num ps) (hy : num (evs ρ ys) < num ps) : num (evs ρ r) = (num (evs ρ xs) + num ps - num (evs ρ ys)) % num ps ∧ r.length = n := by
  unfold subChk at h
  split at h
  · rename_i ds ms z hds hz
    split at h
    · rename_i co x0 y0 c0 b' qs hco hsel hqs
      simp only [Bool.and_eq_true] at h
      obtain ⟨⟨⟨⟨⟨⟨⟨⟨h1, h2⟩, h3⟩, h4⟩, h5⟩, h6⟩, h7⟩, h8⟩, h9⟩ := h
      have hb : b = b' := Nat.eq_of_beq_eq_true h1
      subst hb
      have hq : qs = ps := by simpa using h4
      subst hq
      have e1 := isZero_sound h2 hf
      have e2 := isZero_sound h3 hf
      rw [evalL_append, evalL_terms] at e1 e2
      simp only [evalL] at e1 e2
      rw [evalL_append, evalL_terms, evalL_terms] at e1 e2
      simp only [At.ev_v] at e1 e2
      have hm : ρ m = if ρ b = 0 then 0 else 18446744073709551615 := by
        exact (hf _ (selOf_mem _ _ _ _ _ hsel)).1
      have e3 := masksOf_sound (b := ρ b) hf hm ms _ hqs
      rw [e3] at e2
      have w1 := wordsB_sound hT ds h5
      have w2 := wordsB_sound hT r h6
      have hn : r.length = n := Nat.eq_of_beq_eq_true h7
      have hn2 : ds.length = n := Nat.eq_of_beq_eq_true h8
      have hbc : ρ b ≤ 1 ∧ ρ co ≤ 1 := by
        split at h9
        · rename_i u v hu hv
          simp only [Bool.and_eq_true] at h9
          have h10 : u ≤ 1 := by simpa using h9.1
          have h11 : v ≤ 1 := by simpa using h9.2
          exact ⟨Nat.le_trans (ubd_le (x := .v b) hT hu) h10, Nat.le_trans (ubd_le (x := .v co) hT hv) h11⟩
        · cases h9
      have l1 := num_lt w1
      have l2 := num_lt w2
      have len1 : (evs ρ ds).length = n := by simp [evs, hn2]
      have len2 : (evs ρ r).length = n := by simp [evs, hn]
      rw [len1] at l1
      rw [len2] at l2
      refine ⟨?_, hn⟩
      generalize num (evs ρ ds) = D at *
      generalize num (evs ρ r) = E at *
      generalize num (evs ρ xs) = X at *
      generalize num (evs ρ ys) = Y at *
      generalize num qs = p at *
      generalize pw n = R at *
      have hb' : ρ b = 0 ∨ ρ b = 1 := by omega
      have hc' : ρ co = 0 ∨ ρ co = 1 := by omega
      rcases hb' with hb0 | hb0 <;> rcases hc' with hc0 | hc0 <;> rw [hb0] at e1 e2 <;> rw [hc0] at e2 <;> simp only [if_true, Nat.one_ne_zero, if_false] at e2
      · have : E = X - Y := by omega
        rw [this, show X + p - Y = (X - Y) + p by omega, Nat.add_mod_right, Nat.mod_eq_of_lt (by omega)]
      · omega
      · omega
      · have : E = X + p - Y := by omega
        rw [this, Nat.mod_eq_of_lt (by omega)]
    · cases h
  · cases h

end Go.Proofs.Ytdbaaiplkngjkaa
