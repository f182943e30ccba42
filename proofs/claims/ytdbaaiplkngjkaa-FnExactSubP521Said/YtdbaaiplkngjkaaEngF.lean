/-
  A small engine for straight code over 64-bit words: a call of a function over pointers to rows of words or bytes.
-/
import Derived.Test.YtdbaaiplkngjkaaEngD
namespace Go.Proofs.Ytdbaaiplkngjkaa
open Go Go.RowKit

variable {P : Program} {C : Cfg} {w : World}

/-- A row that a pointer leads to: its block, its type, bytes or words, what it holds. -/
structure In where
  B : Nat
  t : TypeId
  byte : Bool
  xs : List Nat

def lim (b : Bool) : Nat := match b with | true => 256 | false => 18446744073709551616

def In.cell (i : In) (x : Nat) : Value := match i.byte with | true => .int .u8 (x : Int) | false => .int .u64 (x : Int)
def In.vals (i : In) : Array Value := (i.xs.map i.cell).toArray
def In.fits (i : In) : Prop := ∀ x ∈ i.xs, x < lim i.byte
def In.shape (i : In) : TypeId × Bool × Nat := (i.t, i.byte, i.xs.length)
def In.ptr (i : In) : Value := .pointer (some ⟨i.B, 0, none⟩)

def mkCells (byte : Bool) : Nat → Nat → List Sv
  | _, 0 => []
  | k, n + 1 => (match byte with | true => Sv.y (.v k) | false => Sv.w (.v k) false) :: mkCells byte (k + 1) n

def mkBlks : Nat → List (TypeId × Bool × Nat) → List Blk
  | _, [] => []
  | k, (t, b, n) :: l => ⟨t, mkCells b k n⟩ :: mkBlks (k + n) l

def mkSlots : Nat → Nat → Tr Sv → Tr Sv
  | _, 0, T => T
  | i, n + 1, T => mkSlots (i + 1) n (Tr.set (some (.p i 0)) 20 T i)

def total : List (TypeId × Bool × Nat) → Nat
  | [] => 0
  | (_, _, n) :: l => n + total l

def mkSt (l : List (TypeId × Bool × Nat)) : St := { slots := mkSlots 0 l.length .nil, blks := mkBlks 0 l, nv := total l, facts := [] }

def flat : List In → List Nat
  | [] => []
  | i :: l => i.xs ++ flat l

theorem flat_length : ∀ (l : List In), (flat l).length = total (l.map In.shape)
  | [] => rfl
  | i :: l => by simp [flat, total, In.shape, flat_length l]

theorem mkCells_length (b : Bool) : ∀ (k n : Nat), (mkCells b k n).length = n
  | _, 0 => rfl
  | k, n + 1 => by simp [mkCells, mkCells_length b (k + 1) n]

theorem mkCells_get (b : Bool) : ∀ (n k j : Nat) (sv : Sv), (mkCells b k n)[j]? = some sv → j < n ∧ sv = (match b with | true => Sv.y (.v (k + j)) | false => Sv.w (.v (k + j)) false)
  | 0, k, j, sv, h => by simp [mkCells] at h
  | n + 1, k, 0, sv, h => by simp [mkCells] at h; exact ⟨by omega, h.symm⟩
  | n + 1, k, j + 1, sv, h => by
    simp [mkCells] at h
    obtain ⟨h1, h2⟩ := mkCells_get b n (k + 1) j sv h
    refine ⟨by omega, ?_⟩
    rw [h2, show k + 1 + j = k + (j + 1) by omega]

theorem mkSlots_get : ∀ (n i : Nat) (T : Tr Sv) (t : Nat) (sv : Sv), (mkSlots i n T).get t = some sv → (i ≤ t ∧ t < i + n ∧ sv = .p t 0) ∨ T.get t = some sv
  | 0, i, T, t, sv, h => .inr h
  | n + 1, i, T, t, sv, h => by
    rcases mkSlots_get n (i + 1) _ t sv h with ⟨h1, h2, h3⟩ | h1
    · exact .inl ⟨by omega, by omega, h3⟩
    · rcases Tr.get_set _ _ _ _ _ _ h1 with ⟨rfl, h2⟩ | ⟨_, h2⟩
      · cases h2; exact .inl ⟨by omega, by omega, rfl⟩
      · exact .inr h2

theorem mkBlks_ok (env β : List Nat) : ∀ (ins : List In) (pre : List Nat), env = pre ++ flat ins → (∀ i ∈ ins, i.fits) → ∀ (i : Nat) blk, (mkBlks pre.length (ins.map In.shape))[i]? = some blk →
    ∃ inn, ins[i]? = some inn ∧ blk.elem = inn.t ∧ blk.cells.length = inn.xs.length ∧ ∀ (j : Nat) sv, blk.cells[j]? = some sv → ∃ v, inn.vals[j]? = some v ∧ Den env β sv v
  | [], pre, he, hf, i, blk, h => by simp [mkBlks] at h
  | inn :: ins, pre, he, hf, 0, blk, h => by
    simp [mkBlks, In.shape] at h
    subst h
    refine ⟨inn, rfl, rfl, mkCells_length _ _ _, fun j sv hj => ?_⟩
    obtain ⟨hjn, hsv⟩ := mkCells_get _ _ _ _ _ hj
    have hx : inn.xs[j]? = some inn.xs[j] := List.getElem?_eq_getElem hjn
    have hat : (At.v (pre.length + j)).at env = some inn.xs[j] := by
      show env[pre.length + j]? = _
      rw [he]
      simp only [flat]
      rw [List.getElem?_append_right (by omega), show pre.length + j - pre.length = j by omega, List.getElem?_append_left hjn, hx]
    have hfit := hf inn List.mem_cons_self inn.xs[j] (List.getElem_mem hjn)
    refine ⟨inn.cell inn.xs[j], by simp [In.vals, hx], ?_⟩
    rw [hsv]
    unfold In.cell
    cases hb : inn.byte with
    | true => rw [hb] at hfit; exact ⟨_, hat, hfit, rfl⟩
    | false => rw [hb] at hfit; exact ⟨_, hat, hfit, (fun h => by cases h), rfl⟩
  | inn :: ins, pre, he, hf, i + 1, blk, h => by
    have h' : (mkBlks (pre ++ inn.xs).length (ins.map In.shape))[i]? = some blk := by simpa [mkBlks, In.shape] using h
    obtain ⟨inn', h1, h2⟩ := mkBlks_ok env β ins (pre ++ inn.xs) (by rw [he]; simp [flat]) (fun k hk => hf k (List.mem_cons_of_mem _ hk)) i blk h'
    exact ⟨inn', by simpa using h1, h2⟩

theorem mkBlks_length : ∀ (l : List (TypeId × Bool × Nat)) (k : Nat), (mkBlks k l).length = l.length
  | [], _ => rfl
  | (_, _, _) :: l, k => by simp [mkBlks, mkBlks_length l]

theorem init_rel {N : Nat} (ins : List In) (hnd : (ins.map In.B).Nodup) (hN : ins.length ≤ N) (hh : ∀ i ∈ ins, w.heap[i.B]? = some (.cells i.vals i.t (0, 0)) ∧ i.fits) :
    Rel w N (flat ins) (ins.map In.B) (mkSt (ins.map In.shape)) (flat ins) (ins.map In.B)
      { tmps := (ins.map In.ptr).toArray ++ Array.replicate (N - (ins.map In.ptr).toArray.size) undef, defers := [] } w where
  size := by simp; omega
  defers := rfl
  slots := by
    intro t sv h
    rcases mkSlots_get _ _ _ _ _ h with ⟨_, h2, h3⟩ | h1
    · have ht : t < ins.length := by simpa using h2
      refine ⟨(ins[t]).ptr, ?_, ?_⟩
      · rw [Array.getElem?_append_left (by simpa using ht)]; simp [ht]
      · subst h3; exact ⟨(ins[t]).B, by simp [ht], rfl⟩
    · simp [Tr.get] at h1
  nv := by simp [mkSt, flat_length]
  nb := by simp [mkSt, mkBlks_length]
  nodup := hnd
  inb := by
    intro b hb
    obtain ⟨i, hi, rfl⟩ := List.mem_map.1 hb
    have := (hh i hi).1
    rcases Nat.lt_or_ge i.B w.heap.size with h | h
    · exact h
    · rw [Array.getElem?_eq_none h] at this; cases this
  blks := by
    intro i blk h
    obtain ⟨inn, h1, h2, h3, h4⟩ := mkBlks_ok (flat ins) (ins.map In.B) ins [] rfl (fun i hi => (hh i hi).2) i blk h
    refine ⟨inn.B, inn.vals, by simp [h1], by rw [h2]; exact (hh inn (List.mem_of_getElem? h1)).1, by simp [In.vals, h3], h4⟩
  facts := by intro f hf; cases hf
  hsize := Nat.le_refl _
  frame := fun _ _ _ => rfl
  newer := fun b hb => .inl hb
  tape := rfl
  os := rfl
  output := rfl
  pre := ⟨[], by simp⟩
  preβ := ⟨[], by simp⟩

/-- The words of a row of the state, if it holds words. -/
def wordsOf : List Sv → Option (List At)
  | [] => some []
  | .w x _ :: l => match wordsOf l with | some r => some (x :: r) | none => none
  | _ => none

def bytesOf : List Sv → Option (List At)
  | [] => some []
  | .y x :: l => match bytesOf l with | some r => some (x :: r) | none => none
  | _ => none

theorem wordsOf_den {env β : List Nat} : ∀ (l : List Sv) (r : List At) (c : List Value), wordsOf l = some r → c.length = l.length → (∀ (j : Nat) sv, l[j]? = some sv → ∃ v, c[j]? = some v ∧ Den env β sv v) →
    c = (r.map fun x => Value.int .u64 (x.ev (val env) : Int)) ∧ ∀ x ∈ r, x.ev (val env) < 18446744073709551616
  | [], r, c, h, hl, _ => by cases h; cases c with | nil => simp | cons v c => simp at hl
  | sv :: l, r, c, h, hl, hd => by
    cases sv with
    | w x b =>
      simp only [wordsOf] at h
      split at h
      · rename_i r' hr
        cases h
        cases c with
        | nil => simp at hl
        | cons v c =>
          obtain ⟨v', hv, hd0⟩ := hd 0 _ rfl
          simp at hv
          subst hv
          obtain ⟨n, h1, h2, _, rfl⟩ := hd0
          obtain ⟨h3, h4⟩ := wordsOf_den l r' c hr (by simpa using hl) (fun j sv hj => by have := hd (j + 1) sv (by simpa using hj); simpa using this)
          have he := At.ev_of_at h1
          refine ⟨by rw [h3]; simp [he], fun y hy => ?_⟩
          rcases List.mem_cons.1 hy with rfl | hy
          · rw [he]; exact h2
          · exact h4 y hy
      · cases h
    | _ => simp [wordsOf] at h

theorem bytesOf_den {env β : List Nat} : ∀ (l : List Sv) (r : List At) (c : List Value), bytesOf l = some r → c.length = l.length → (∀ (j : Nat) sv, l[j]? = some sv → ∃ v, c[j]? = some v ∧ Den env β sv v) →
    c = (r.map fun x => Value.int .u8 (x.ev (val env) : Int)) ∧ ∀ x ∈ r, x.ev (val env) < 256
  | [], r, c, h, hl, _ => by cases h; cases c with | nil => simp | cons v c => simp at hl
  | sv :: l, r, c, h, hl, hd => by
    cases sv with
    | y x =>
      simp only [bytesOf] at h
      split at h
      · rename_i r' hr
        cases h
        cases c with
        | nil => simp at hl
        | cons v c =>
          obtain ⟨v', hv, hd0⟩ := hd 0 _ rfl
          simp at hv
          subst hv
          obtain ⟨n, h1, h2, rfl⟩ := hd0
          obtain ⟨h3, h4⟩ := bytesOf_den l r' c hr (by simpa using hl) (fun j sv hj => by have := hd (j + 1) sv (by simpa using hj); simpa using this)
          have he := At.ev_of_at h1
          refine ⟨by rw [h3]; simp [he], fun y hy => ?_⟩
          rcases List.mem_cons.1 hy with rfl | hy
          · rw [he]; exact h2
          · exact h4 y hy
      · cases h
    | _ => simp [bytesOf] at h

/-- What stays: all below w, but for the rows. -/
structure Stays (w w' : World) (bs : List Nat) : Prop where
  size : w.heap.size ≤ w'.heap.size
  block : ∀ b, b < w.heap.size → b ∉ bs → w'.heap[b]? = w.heap[b]?
  tape : w'.tape = w.tape
  os : w'.os = w.os
  output : w'.output = w.output

/-- The first row's content behind the run. -/
def out0 (S : St) (byte : Bool) : Option (TypeId × List At) :=
  match S.blks with
  | k :: _ => match (match byte with | true => bytesOf k.cells | false => wordsOf k.cells) with
    | some r => some (k.elem, r)
    | none => none
  | [] => none

def rowOf (byte : Bool) (l : List Nat) : Array Value := (l.map fun x => (match byte with | true => Value.int .u8 (x : Int) | false => Value.int .u64 (x : Int))).toArray

theorem run_fn (hC : C.Ok P) (hm : P.follows .mixedOrders = true) {f : FuncId} {fn : Func} {code : Code} (hf : P.funcs[f]? = some fn) (hb : fn.body = some code) (hr : fn.results = #[])
    (ins : List In) (hnd : (ins.map In.B).Nodup) (hN : ins.length ≤ fn.ntmps) (hh : ∀ i ∈ ins, w.heap[i.B]? = some (.cells i.vals i.t (0, 0)) ∧ i.fits) {S' : St}
    (hs : stepCode C fn.ntmps code (mkSt (ins.map In.shape)) = some S') {byte : Bool} {t : TypeId} {r : List At} (ho : out0 S' byte = some (t, r)) :
    Calls P f (ins.map In.ptr).toArray w fun e w' => e = .returned (.tuple #[]) ∧ ∃ ext, (∀ g ∈ S'.facts, g.ok (val (flat ins ++ ext))) ∧
      (∀ x ∈ r, x.ev (val (flat ins ++ ext)) < lim byte) ∧
      (∀ i, ins[0]? = some i → w'.heap[i.B]? = some (.cells (rowOf byte (r.map fun x => x.ev (val (flat ins ++ ext)))) t (0, 0))) ∧ Stays w w' (ins.map In.B) := by
  refine calls_of_wp hf hb ?_
  refine stepCode_sound hC hm code _ S' _ _ _ _ _ hs (init_rel ins hnd hN hh) (fun env β a w' R => ?_)
  refine bodyPost_end (results_none hr _ _ _) R.defers ⟨rfl, ?_⟩
  obtain ⟨ext, rfl⟩ := R.pre
  obtain ⟨extβ, hβ⟩ := R.preβ
  refine ⟨ext, fun g hg => by have := R.facts g hg []; rwa [List.append_nil] at this, ?_⟩
  unfold out0 at ho
  split at ho
  · rename_i k l hk
    obtain ⟨B, c, h1, h2, h3, h4⟩ := R.blks 0 k (by rw [hk]; rfl)
    have hst : Stays w w' (ins.map In.B) := ⟨R.hsize, R.frame, R.tape, R.os, R.output⟩
    have hB : ∀ i, ins[0]? = some i → i.B = B := by
      intro i hi
      rw [hβ] at h1
      have : (List.map In.B ins ++ extβ)[0]? = some i.B := by
        have hlen : 0 < (ins.map In.B).length := by
          cases ins with
          | nil => simp at hi
          | cons x l => simp
        rw [List.getElem?_append_left hlen]; simp [hi]
      rw [this] at h1; cases h1; rfl
    cases byte with
    | true =>
      simp only at ho
      split at ho
      · rename_i r' hr'
        cases ho
        obtain ⟨h5, h6⟩ := bytesOf_den k.cells r c.toList hr' (by simpa using h3) (fun j sv hj => by simpa using h4 j sv hj)
        refine ⟨h6, fun i hi => ?_, hst⟩
        rw [hB i hi, h2]
        congr 2
        apply Array.ext'
        rw [h5]; simp [rowOf]
      · cases ho
    | false =>
      simp only at ho
      split at ho
      · rename_i r' hr'
        cases ho
        obtain ⟨h5, h6⟩ := wordsOf_den k.cells r c.toList hr' (by simpa using h3) (fun j sv hj => by simpa using h4 j sv hj)
        refine ⟨h6, fun i hi => ?_, hst⟩
        rw [hB i hi, h2]
        congr 2
        apply Array.ext'
        rw [h5]; simp [rowOf]
      · cases ho
  · cases ho

end Go.Proofs.Ytdbaaiplkngjkaa
