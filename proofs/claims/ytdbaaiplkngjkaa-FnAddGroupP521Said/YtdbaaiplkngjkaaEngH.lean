/-
  A call of a function over two or three rows, by the engine: what it leaves in the first row.
-/
import Derived.Test.YtdbaaiplkngjkaaEngF
import Derived.Test.YtdbaaiplkngjkaaEngG
namespace Go.Proofs.Ytdbaaiplkngjkaa
open Go Go.RowKit

variable {P : Program} {C : Cfg} {w : World}

def vars : Nat → Nat → List At
  | _, 0 => []
  | k, n + 1 => .v k :: vars (k + 1) n

theorem vars_ev : ∀ (l pre post : List Nat), evs (val (pre ++ (l ++ post))) (vars pre.length l.length) = l
  | [], pre, post => rfl
  | x :: l, pre, post => by
    have ih := vars_ev l (pre ++ [x]) post
    simp only [List.length_cons, vars, evs, List.map_cons]
    congr 1
    · simp [At.ev, val]
    · simpa [evs] using ih

/-- The bounds at the start: words in the places below k + n from k on, bytes where it is said. -/
def mkBd (u : Nat) : Nat → Nat → Tr Nat → Tr Nat
  | _, 0, T => T
  | k, n + 1, T => mkBd u (k + 1) n (Tr.set (some u) 20 T k)

theorem mkBd_ok {ρ : Nat → Nat} {u : Nat} : ∀ (n k : Nat) (T : Tr Nat), Bd ρ T → (∀ i, i < n → ρ (k + i) ≤ u) → Bd ρ (mkBd u k n T)
  | 0, _, _, h, _ => h
  | n + 1, k, T, h, hu => mkBd_ok n (k + 1) _ (h.set (by simpa using hu 0 (by omega))) (fun i hi => by have := hu (i + 1) (by omega); rwa [show k + 1 + i = k + (i + 1) by omega])

theorem Bd.nil {ρ : Nat → Nat} : Bd ρ .nil := fun i u h => by simp [Tr.get] at h

theorem val_mid (pre l post : List Nat) (i : Nat) (hi : i < l.length) : val (pre ++ (l ++ post)) (pre.length + i) = l.getD i 0 := by
  simp [val, List.getElem?_append_right, List.getElem?_append_left hi]

theorem wd_fits {l : List Nat} (h : Wd l) : ∀ x ∈ l, x < 18446744073709551616 := by
  intro x hx
  obtain ⟨i, hi, rfl⟩ := List.getElem_of_mem hx
  have := h i
  simpa [hi] using this

/-- Three rows of words. -/
theorem run3 (hC : C.Ok P) (hm : P.follows .mixedOrders = true) {f : FuncId} {fn : Func} {code : Code} (hf : P.funcs[f]? = some fn) (hb : fn.body = some code) (hr : fn.results = #[]) {t n : Nat} (hN : 3 ≤ fn.ntmps) {S' : St}
    (hs : stepCode C fn.ntmps code (mkSt [(t, false, n), (t, false, n), (t, false, n)]) = some S') {r : List At} {T : Tr Nat} (ho : out0 S' false = some (t, r)) (hT : bnds S'.facts.reverse (mkBd 18446744073709551615 0 (3 * n) .nil) = some T)
    {Q : List Nat → Prop} (B0 B1 B2 : Nat) (zs xs ys : List Nat) (hd : [B0, B1, B2].Nodup) (lz : zs.length = n) (lx : xs.length = n) (ly : ys.length = n) (wz : Wd zs) (wx : Wd xs) (wy : Wd ys)
    (h0 : w.heap[B0]? = some (.cells (rowOf false zs) t (0, 0))) (h1 : w.heap[B1]? = some (.cells (rowOf false xs) t (0, 0))) (h2 : w.heap[B2]? = some (.cells (rowOf false ys) t (0, 0)))
    (hQ : ∀ ρ, (∀ f ∈ S'.facts, f.exact ρ) → Bd ρ T → evs ρ (vars n n) = xs → evs ρ (vars (2 * n) n) = ys → Q (evs ρ r)) :
    Calls P f #[.pointer (some ⟨B0, 0, none⟩), .pointer (some ⟨B1, 0, none⟩), .pointer (some ⟨B2, 0, none⟩)] w fun e w' => e = .returned (.tuple #[]) ∧ ∃ rs, Wd rs ∧ Q rs ∧
      w'.heap[B0]? = some (.cells (rowOf false rs) t (0, 0)) ∧ Stays w w' [B0, B1, B2] := by
  have key := run_fn (w := w) hC hm hf hb hr [⟨B0, t, false, zs⟩, ⟨B1, t, false, xs⟩, ⟨B2, t, false, ys⟩] hd hN (by
    intro i hi
    simp only [List.mem_cons, List.not_mem_nil, or_false] at hi
    rcases hi with rfl | rfl | rfl
    · exact ⟨h0, wd_fits wz⟩
    · exact ⟨h1, wd_fits wx⟩
    · exact ⟨h2, wd_fits wy⟩) (S' := S') (by simpa [In.shape, lz, lx, ly] using hs) ho
  refine Calls.mono key fun e w' ⟨he, ext, hfacts, hlt, hrow, hst⟩ => ⟨he, ?_⟩
  simp only [flat, List.append_nil] at hfacts hlt hrow
  generalize hρ : val (zs ++ (xs ++ ys) ++ ext) = ρ at hfacts hlt hrow
  have ex : evs ρ (vars n n) = xs := by
    have := vars_ev xs zs (ys ++ ext); rw [lz, lx] at this; rw [← hρ]; simpa using this
  have ey : evs ρ (vars (2 * n) n) = ys := by
    have := vars_ev ys (zs ++ xs) ext; rw [List.length_append, lz, lx, ly] at this; rw [← hρ, Nat.two_mul]; simpa using this
  have hbd : Bd ρ (mkBd 18446744073709551615 0 (3 * n) .nil) := by
    refine mkBd_ok _ _ _ Bd.nil (fun i hi => ?_)
    have hall : Wd (zs ++ (xs ++ ys)) := Wd.of_mem (fun x hx => by
      simp only [List.mem_append] at hx
      rcases hx with hx | hx | hx
      · exact wd_fits wz x hx
      · exact wd_fits wx x hx
      · exact wd_fits wy x hx)
    have := val_mid [] (zs ++ (xs ++ ys)) ext i (by simp [lz, lx, ly]; omega)
    rw [← hρ]
    simp only [List.nil_append, List.length_nil, Nat.zero_add] at this ⊢
    rw [this]
    have := hall i
    omega
  obtain ⟨hT', hex⟩ := bnds_sound _ _ _ hT hbd (fun g hg => hfacts g (List.mem_reverse.1 hg))
  refine ⟨evs ρ r, ?_, hQ ρ (fun g hg => hex g (List.mem_reverse.2 hg)) hT' ex ey, hrow _ rfl, hst⟩
  apply Wd.of_mem
  intro x hx
  obtain ⟨y, hy, rfl⟩ := List.mem_map.1 hx
  exact hlt y hy

/-- Two rows, each of words or of bytes. -/
theorem run2 (hC : C.Ok P) (hm : P.follows .mixedOrders = true) {f : FuncId} {fn : Func} {code : Code} (hf : P.funcs[f]? = some fn) (hb : fn.body = some code) (hr : fn.results = #[]) {t0 n0 t1 n1 : Nat} {b0 b1 : Bool} (hN : 2 ≤ fn.ntmps) {S' : St}
    (hs : stepCode C fn.ntmps code (mkSt [(t0, b0, n0), (t1, b1, n1)]) = some S') {r : List At} {T : Tr Nat} (ho : out0 S' b0 = some (t0, r))
    (hT : bnds S'.facts.reverse (mkBd (lim b1 - 1) n0 n1 .nil) = some T)
    {Q : List Nat → Prop} (B0 B1 : Nat) (zs xs : List Nat) (hd : B0 ≠ B1) (lz : zs.length = n0) (lx : xs.length = n1)
    (wz : ∀ x ∈ zs, x < lim b0) (wx : ∀ x ∈ xs, x < lim b1)
    (h0 : w.heap[B0]? = some (.cells (rowOf b0 zs) t0 (0, 0))) (h1 : w.heap[B1]? = some (.cells (rowOf b1 xs) t1 (0, 0)))
    (hQ : ∀ ρ, (∀ f ∈ S'.facts, f.exact ρ) → Bd ρ T → evs ρ (vars n0 n1) = xs → Q (evs ρ r)) :
    Calls P f #[.pointer (some ⟨B0, 0, none⟩), .pointer (some ⟨B1, 0, none⟩)] w fun e w' => e = .returned (.tuple #[]) ∧ ∃ rs, (∀ x ∈ rs, x < lim b0) ∧ Q rs ∧
      w'.heap[B0]? = some (.cells (rowOf b0 rs) t0 (0, 0)) ∧ Stays w w' [B0, B1] := by
  have key := run_fn (w := w) hC hm hf hb hr [⟨B0, t0, b0, zs⟩, ⟨B1, t1, b1, xs⟩] (by simp [hd]) hN (by
    intro i hi
    simp only [List.mem_cons, List.not_mem_nil, or_false] at hi
    rcases hi with rfl | rfl
    · exact ⟨h0, wz⟩
    · exact ⟨h1, wx⟩) (S' := S') (by simpa [In.shape, lz, lx] using hs) ho
  refine Calls.mono key fun e w' ⟨he, ext, hfacts, hlt, hrow, hst⟩ => ⟨he, ?_⟩
  simp only [flat, List.append_nil] at hfacts hlt hrow
  generalize hρ : val (zs ++ xs ++ ext) = ρ at hfacts hlt hrow
  have ex : evs ρ (vars n0 n1) = xs := by
    have := vars_ev xs zs ext; rw [lz, lx] at this; rw [← hρ]; simpa using this
  have hbd : Bd ρ (mkBd (lim b1 - 1) n0 n1 .nil) := by
    refine mkBd_ok _ _ _ Bd.nil (fun i hi => ?_)
    have h3 := val_mid zs xs ext i (by omega)
    rw [lz] at h3
    rw [← hρ, List.append_assoc, h3]
    have hi' : i < xs.length := by omega
    have h4 := wx (xs[i]) (List.getElem_mem hi')
    have h5 : xs.getD i 0 = xs[i] := by simp [hi']
    rw [h5]
    omega
  obtain ⟨hT', hex⟩ := bnds_sound _ _ _ hT hbd (fun g hg => hfacts g (List.mem_reverse.1 hg))
  refine ⟨evs ρ r, ?_, hQ ρ (fun g hg => hex g (List.mem_reverse.2 hg)) hT' ex, hrow _ rfl, hst⟩
  intro x hx
  obtain ⟨y, hy, rfl⟩ := List.mem_map.1 hx
  exact hlt y hy

end Go.Proofs.Ytdbaaiplkngjkaa
