/-
  The field's sum and difference (p521Add, p521Sub): what a call leaves in the first row.
-/
import Derived.Test.YtdbaaiplkngjkaaFiatA
import Derived.Test.YtdbaaiplkngjkaaEngH
namespace Go.Proofs.Ytdbaaiplkngjkaa
open Go Go.RowKit

/-- The prime's words. -/
def pws : List Nat := [18446744073709551615, 18446744073709551615, 18446744073709551615, 18446744073709551615, 18446744073709551615, 18446744073709551615, 18446744073709551615, 18446744073709551615, 511]

theorem pws_lt : num pws < pw 9 := by decide +kernel
theorem pws_wd : Wd pws := Wd.of_mem (by decide +kernel)
theorem pws_len : pws.length = 9 := rfl

def st3 (f : Func) : Option St :=
  match f.body with
  | some c => stepCode cfg f.ntmps c (mkSt [(38, false, 9), (38, false, 9), (38, false, 9)])
  | none => none

def addAll (s : Option St) : Bool :=
  match s with
  | some S => match out0 S false, bnds S.facts.reverse (mkBd 18446744073709551615 0 (3 * 9) .nil) with
    | some (t, r), some T => Nat.beq t 38 && addChk 9 (num pws) T S.facts r (vars 9 9) (vars (2 * 9) 9)
    | _, _ => false
  | none => false

def subAll (s : Option St) : Bool :=
  match s with
  | some S => match out0 S false, bnds S.facts.reverse (mkBd 18446744073709551615 0 (3 * 9) .nil) with
    | some (t, r), some T => Nat.beq t 38 && subChk 9 T S.facts r (vars 9 9) (vars (2 * 9) 9) (5 * 9) (5 * 9 - 1) pws
    | _, _ => false
  | none => false

theorem add_chk : addAll (st3 Try.f20) = true := by kernel_rfl
theorem sub_chk : subAll (st3 Try.f19) = true := by kernel_rfl

/-- What a call over three rows leaves: the first row holds words with the property. -/
def Left3 (Q : List Nat → Prop) (w : World) (B0 B1 B2 : Nat) (e : Ending) (w' : World) : Prop :=
  e = .returned (.tuple #[]) ∧ ∃ rs, Wd rs ∧ Q rs ∧ w'.heap[B0]? = some (.cells (rowOf false rs) 38 (0, 0)) ∧ Stays w w' [B0, B1, B2]

theorem fiat_add (w : World) (B0 B1 B2 : Nat) (zs xs ys : List Nat) (hd : [B0, B1, B2].Nodup) (lz : zs.length = 9) (lx : xs.length = 9) (ly : ys.length = 9) (wz : Wd zs) (wx : Wd xs) (wy : Wd ys)
    (hx : num xs < num pws) (hy : num ys < num pws)
    (h0 : w.heap[B0]? = some (.cells (rowOf false zs) 38 (0, 0))) (h1 : w.heap[B1]? = some (.cells (rowOf false xs) 38 (0, 0)))
    (h2 : w.heap[B2]? = some (.cells (rowOf false ys) 38 (0, 0))) :
    Calls Try.prog 20 #[.pointer (some ⟨B0, 0, none⟩), .pointer (some ⟨B1, 0, none⟩), .pointer (some ⟨B2, 0, none⟩)] w
      (Left3 (fun rs => num rs = (num xs + num ys) % num pws ∧ rs.length = 9) w B0 B1 B2) := by
  have hk := add_chk
  unfold addAll st3 at hk
  split at hk
  · rename_i S hS
    split at hS
    · rename_i c hc
      split at hk
      · rename_i t r T ho hT
        simp only [Bool.and_eq_true] at hk
        have ht : t = 38 := Nat.eq_of_beq_eq_true hk.1
        subst ht
        exact run3 cfg_ok mixed Try.func20 hc rfl (by rw [Try.ntmps20]; omega) hS ho hT B0 B1 B2 zs xs ys hd lz lx ly wz wx wy h0 h1 h2 (fun ρ hf hb ex ey => by
          have := addChk_sound hk.2 hf hb pws_lt (by rw [ex]; exact hx) (by rw [ey]; exact hy)
          rw [ex, ey] at this
          exact ⟨this.1, by simpa [evs] using this.2⟩)
      · cases hk
    · cases hS
  · cases hk

theorem fiat_sub (w : World) (B0 B1 B2 : Nat) (zs xs ys : List Nat) (hd : [B0, B1, B2].Nodup) (lz : zs.length = 9) (lx : xs.length = 9) (ly : ys.length = 9) (wz : Wd zs) (wx : Wd xs) (wy : Wd ys)
    (hx : num xs < num pws) (hy : num ys < num pws)
    (h0 : w.heap[B0]? = some (.cells (rowOf false zs) 38 (0, 0))) (h1 : w.heap[B1]? = some (.cells (rowOf false xs) 38 (0, 0)))
    (h2 : w.heap[B2]? = some (.cells (rowOf false ys) 38 (0, 0))) :
    Calls Try.prog 19 #[.pointer (some ⟨B0, 0, none⟩), .pointer (some ⟨B1, 0, none⟩), .pointer (some ⟨B2, 0, none⟩)] w
      (Left3 (fun rs => num rs = (num xs + num pws - num ys) % num pws ∧ rs.length = 9) w B0 B1 B2) := by
  have hk := sub_chk
  unfold subAll st3 at hk
  split at hk
  · rename_i S hS
    split at hS
    · rename_i c hc
      split at hk
      · rename_i t r T ho hT
        simp only [Bool.and_eq_true] at hk
        have ht : t = 38 := Nat.eq_of_beq_eq_true hk.1
        subst ht
        exact run3 cfg_ok mixed Try.func19 hc rfl (by rw [Try.ntmps19]; omega) hS ho hT B0 B1 B2 zs xs ys hd lz lx ly wz wx wy h0 h1 h2 (fun ρ hf hb ex ey => by
          have := subChk_sound hk.2 hf hb pws_lt (by rw [ex]; exact hx) (by rw [ey]; exact hy)
          rw [ex, ey] at this
          exact ⟨this.1, by simpa [evs] using this.2⟩)
      · cases hk
    · cases hS
  · cases hk

end Go.Proofs.Ytdbaaiplkngjkaa
