/-
  A small engine for straight code over 64-bit words: plain part. A trie, symbolic values, the facts that an operation leaves behind. No program in sight.
-/
import Derived.WalkKit
import Derived.StillTail
namespace Go.Proofs.Ytdbaaiplkngjkaa
open Go

/-- A binary trie over the natural numbers. -/
inductive Tr (α : Type) where
  | nil : Tr α
  | node : Option α → Tr α → Tr α → Tr α

namespace Tr
variable {α : Type}

def val : Tr α → Option α
  | .nil => none
  | .node v _ _ => v

def left : Tr α → Tr α
  | .nil => .nil
  | .node _ l _ => l

def right : Tr α → Tr α
  | .nil => .nil
  | .node _ _ r => r

def get : Tr α → Nat → Option α
  | .nil, _ => none
  | .node v l r, k =>
    match Nat.beq k 0 with
    | true => v
    | false =>
      match Nat.beq (k % 2) 1 with
      | true => get l (k / 2)
      | false => get r (k / 2 - 1)

def set (v : Option α) : Nat → Tr α → Nat → Tr α
  | 0, _, _ => .nil
  | f + 1, t, k =>
    match Nat.beq k 0 with
    | true => .node v t.left t.right
    | false =>
      match Nat.beq (k % 2) 1 with
      | true => .node t.val (set v f t.left (k / 2)) t.right
      | false => .node t.val t.left (set v f t.right (k / 2 - 1))

theorem get_zero (t : Tr α) : t.get 0 = t.val := by cases t <;> rfl

theorem get_odd (t : Tr α) (k : Nat) (h : k % 2 = 1) : t.get k = t.left.get (k / 2) := by
  have h0 : Nat.beq k 0 = false := by cases e : Nat.beq k 0 with | false => rfl | true => (have := Nat.eq_of_beq_eq_true e; omega)
  have h1 : Nat.beq (k % 2) 1 = true := by rw [h]; rfl
  cases t with
  | nil => rfl
  | node v l r => simp only [get, h0, h1, left]

theorem get_even (t : Tr α) (k : Nat) (h0 : k ≠ 0) (h : k % 2 ≠ 1) : t.get k = t.right.get (k / 2 - 1) := by
  have h0 : Nat.beq k 0 = false := by cases e : Nat.beq k 0 with | false => rfl | true => exact absurd (Nat.eq_of_beq_eq_true e) h0
  have h1 : Nat.beq (k % 2) 1 = false := by cases e : Nat.beq (k % 2) 1 with | false => rfl | true => exact absurd (Nat.eq_of_beq_eq_true e) h
  cases t with
  | nil => rfl
  | node v l r => simp only [get, h0, h1, right]

/-- Whatever the fuel: what is read behind a 'set' was set there, or stood elsewhere before. -/
theorem get_set (v : Option α) : ∀ (f : Nat) (t : Tr α) (k k' : Nat) (x : α), (set v f t k).get k' = some x → (k = k' ∧ v = some x) ∨ (k ≠ k' ∧ t.get k' = some x) := by
  intro f
  induction f with
  | zero => intro t k k' x h; simp [set, get] at h
  | succ f ih =>
    intro t k k' x h
    unfold set at h
    split at h
    · rename_i e
      have hk : k = 0 := Nat.eq_of_beq_eq_true e
      subst hk
      by_cases h0 : k' = 0
      · subst h0; rw [get_zero] at h; exact .inl ⟨rfl, h⟩
      · refine .inr ⟨fun e => h0 e.symm, ?_⟩
        by_cases h1 : k' % 2 = 1
        · rw [get_odd _ _ h1] at h ⊢; exact h
        · rw [get_even _ _ h0 h1] at h ⊢; exact h
    · rename_i e
      have hk : k ≠ 0 := fun e' => by subst e'; cases e
      split at h
      · rename_i e1
        have h1 : k % 2 = 1 := Nat.eq_of_beq_eq_true e1
        by_cases h0 : k' = 0
        · subst h0; rw [get_zero] at h ⊢; exact .inr ⟨hk, h⟩
        · by_cases h1' : k' % 2 = 1
          · rw [get_odd _ _ h1'] at h ⊢
            rcases ih _ _ _ _ h with ⟨a, b⟩ | ⟨a, b⟩
            · exact .inl ⟨by omega, b⟩
            · exact .inr ⟨by omega, b⟩
          · rw [get_even _ _ h0 h1'] at h ⊢
            exact .inr ⟨by omega, h⟩
      · rename_i e1
        have h1 : k % 2 ≠ 1 := fun e' => by rw [e'] at e1; cases e1
        by_cases h0 : k' = 0
        · subst h0; rw [get_zero] at h ⊢; exact .inr ⟨hk, h⟩
        · by_cases h1' : k' % 2 = 1
          · rw [get_odd _ _ h1'] at h ⊢
            exact .inr ⟨by omega, h⟩
          · rw [get_even _ _ h0 h1'] at h ⊢
            rcases ih _ _ _ _ h with ⟨a, b⟩ | ⟨a, b⟩
            · exact .inl ⟨by omega, b⟩
            · exact .inr ⟨by omega, b⟩
end Tr

/-- A number: a constant, or the variable of that number. -/
inductive At where
  | c (n : Nat)
  | v (i : Nat)

def At.at (env : List Nat) : At → Option Nat
  | .c n => some n
  | .v i => env[i]?

/-- A symbolic value: a word (with the mark that it is 0 or 1), a byte, an index, a pointer into a block, a pair of words. -/
inductive Sv where
  | w (x : At) (bit : Bool)
  | y (x : At)
  | i (n : Nat)
  | p (b off : Nat)
  | t2 (x : At) (bx : Bool) (y : At) (bY : Bool)

/-- What an operation leaves behind; the new variables by their numbers. -/
inductive Fact where
  | mul (hi lo : Nat) (x y : At)
  | add (s c : Nat) (x y ci : At)
  | sub (d b : Nat) (x y bi : At)
  | plus (z : Nat) (x y : At)
  | sel (z : Nat) (c x y : At)
  | and (z : Nat) (x y : At)
  | shl (z : Nat) (x : At) (k : Nat)
  | shr (z : Nat) (x : At) (k : Nat)
  | low (z : Nat) (x : At)
  | mulw (z : Nat) (x y : At)
  | or (z : Nat) (x y : At)
  | not (z : Nat) (x : At)

def At.ev (ρ : Nat → Nat) : At → Nat
  | .c n => n
  | .v i => ρ i

/-- The fact, of numbers. -/
def Fact.ok (ρ : Nat → Nat) : Fact → Prop
  | .mul hi lo x y => ρ hi * 18446744073709551616 + ρ lo = x.ev ρ * y.ev ρ ∧ ρ lo < 18446744073709551616
  | .add s c x y ci => ρ s + 18446744073709551616 * ρ c = x.ev ρ + y.ev ρ + ci.ev ρ ∧ ρ s < 18446744073709551616 ∧ ρ c ≤ 1 ∧ ci.ev ρ ≤ 1
  | .sub d b x y bi => ρ d + y.ev ρ + bi.ev ρ = x.ev ρ + 18446744073709551616 * ρ b ∧ ρ d < 18446744073709551616 ∧ ρ b ≤ 1 ∧ bi.ev ρ ≤ 1
  | .plus z x y => ρ z = (x.ev ρ + y.ev ρ) % 18446744073709551616
  | .sel z c x y => ρ z = (if c.ev ρ = 0 then x.ev ρ else y.ev ρ) ∧ c.ev ρ ≤ 1
  | .and z x y => ρ z = x.ev ρ &&& y.ev ρ
  | .shl z x k => ρ z = x.ev ρ * 2 ^ k % 18446744073709551616
  | .shr z x k => ρ z = x.ev ρ / 2 ^ k
  | .low z x => ρ z = x.ev ρ % 256
  | .mulw z x y => ρ z = x.ev ρ * y.ev ρ % 18446744073709551616
  | .or z x y => ρ z = x.ev ρ ||| y.ev ρ
  | .not z x => ρ z = 18446744073709551615 - x.ev ρ

def val (env : List Nat) (i : Nat) : Nat := env.getD i 0

/-- The fact holds of the numbers so far, whatever comes behind them. -/
def Fact.holds (env : List Nat) (f : Fact) : Prop := ∀ ext, f.ok (val (env ++ ext))

theorem Fact.holds.mono {env : List Nat} {f : Fact} (h : f.holds env) (ext : List Nat) : f.holds (env ++ ext) := fun e => by
  rw [List.append_assoc]; exact h _

theorem At.at_mono {env : List Nat} {x : At} {n : Nat} (h : x.at env = some n) (ext : List Nat) : x.at (env ++ ext) = some n := by
  cases x with
  | c m => exact h
  | v i =>
    simp only [At.at] at h ⊢
    have hi : i < env.length := by
      rcases Nat.lt_or_ge i env.length with hh | hh
      · exact hh
      · rw [List.getElem?_eq_none hh] at h; cases h
    rw [List.getElem?_append_left hi]; exact h

theorem At.ev_of_at {env : List Nat} {x : At} {n : Nat} (h : x.at env = some n) : x.ev (val env) = n := by
  cases x with
  | c m => simpa [At.at, At.ev] using h
  | v i => simp only [At.at] at h; simp [At.ev, val, List.getD_eq_getElem?_getD, h]

theorem At.ev_ext {env : List Nat} {x : At} {n : Nat} (h : x.at env = some n) (ext : List Nat) : x.ev (val (env ++ ext)) = n := At.ev_of_at (At.at_mono h ext)

theorem val_new (env : List Nat) (x : Nat) (ext : List Nat) {k : Nat} (hk : env.length = k) : val ((env ++ [x]) ++ ext) k = x := by
  subst hk; simp [val, List.getD_eq_getElem?_getD]

theorem val_new0 (env : List Nat) (x y : Nat) (ext : List Nat) {k : Nat} (hk : env.length = k) : val ((env ++ [x, y]) ++ ext) k = x := by
  subst hk; simp [val, List.getD_eq_getElem?_getD]

theorem val_new1 (env : List Nat) (x y : Nat) (ext : List Nat) {k : Nat} (hk : env.length = k) : val ((env ++ [x, y]) ++ ext) (k + 1) = y := by
  subst hk; simp [val, List.getD_eq_getElem?_getD]

/-- What a symbolic value stands for. -/
def Den (env β : List Nat) : Sv → Value → Prop
  | .w x bit, v => ∃ n, x.at env = some n ∧ n < 18446744073709551616 ∧ (bit = true → n ≤ 1) ∧ v = .int .u64 n
  | .y x, v => ∃ n, x.at env = some n ∧ n < 256 ∧ v = .int .u8 n
  | .i n, v => v = .int .i64 n
  | .p b off, v => ∃ B, β[b]? = some B ∧ v = .pointer (some ⟨B, off, none⟩)
  | .t2 x bx y bY, v => ∃ n m, x.at env = some n ∧ n < 18446744073709551616 ∧ (bx = true → n ≤ 1) ∧ y.at env = some m ∧ m < 18446744073709551616 ∧ (bY = true → m ≤ 1) ∧
      v = .tuple #[.int .u64 n, .int .u64 m]

theorem Den.mono {env β : List Nat} {sv : Sv} {v : Value} (h : Den env β sv v) (e b : List Nat) : Den (env ++ e) (β ++ b) sv v := by
  cases sv with
  | w x bit => obtain ⟨n, h1, h2⟩ := h; exact ⟨n, At.at_mono h1 e, h2⟩
  | y x => obtain ⟨n, h1, h2⟩ := h; exact ⟨n, At.at_mono h1 e, h2⟩
  | i n => exact h
  | p bb off =>
    obtain ⟨B, h1, h2⟩ := h
    refine ⟨B, ?_, h2⟩
    have hi : bb < β.length := by
      rcases Nat.lt_or_ge bb β.length with hh | hh
      · exact hh
      · rw [List.getElem?_eq_none hh] at h1; cases h1
    rw [List.getElem?_append_left hi]; exact h1
  | t2 x bx y bY => obtain ⟨n, m, h1, h2, h3, h4, h5⟩ := h; exact ⟨n, m, At.at_mono h1 e, h2, h3, At.at_mono h4 e, h5⟩

theorem Den.monoE {env β : List Nat} {sv : Sv} {v : Value} (h : Den env β sv v) (e : List Nat) : Den (env ++ e) β sv v := by
  have := h.mono e []; rwa [List.append_nil] at this

/-- A block: the type of its cells, and what they hold. -/
structure Blk where
  elem : TypeId
  cells : List Sv

/-- The symbolic state. -/
structure St where
  slots : Tr Sv
  blks : List Blk
  nv : Nat
  facts : List Fact

def setCellL : List Blk → Nat → Nat → Sv → List Blk
  | [], _, _, _ => []
  | k :: l, 0, off, sv => { k with cells := k.cells.set off sv } :: l
  | k :: l, b + 1, off, sv => k :: setCellL l b off sv

theorem setCellL_length : ∀ (l : List Blk) (b off : Nat) (sv : Sv), (setCellL l b off sv).length = l.length
  | [], _, _, _ => rfl
  | _ :: _, 0, _, _ => rfl
  | _ :: l, b + 1, off, sv => by simp [setCellL, setCellL_length l b off sv]

theorem setCellL_same : ∀ (l : List Blk) (b off : Nat) (sv : Sv), (setCellL l b off sv)[b]? = (l[b]?).map fun k => { k with cells := k.cells.set off sv }
  | [], _, _, _ => by simp [setCellL]
  | _ :: _, 0, _, _ => by simp [setCellL]
  | _ :: l, b + 1, off, sv => by simp [setCellL, setCellL_same l b off sv]

theorem setCellL_other : ∀ (l : List Blk) (b off : Nat) (sv : Sv) (i : Nat), i ≠ b → (setCellL l b off sv)[i]? = l[i]?
  | [], _, _, _, _, _ => by simp [setCellL]
  | _ :: _, 0, _, _, i, h => by cases i with | zero => exact absurd rfl h | succ i => simp [setCellL]
  | _ :: l, b + 1, off, sv, i, h => by
    cases i with
    | zero => simp [setCellL]
    | succ i => simp [setCellL, setCellL_other l b off sv i (by omega)]

end Go.Proofs.Ytdbaaiplkngjkaa
