/-
  An argument that is an array of words or bytes, opened.
-/
import Derived.Test.YtdbaaiplkngjkaaEngF
import Derived.Test.YtdbaaiplkngjkaaSpecA
import Derived.OpenShut
import Derived.ProofKit
namespace Go.Proofs.Ytdbaaiplkngjkaa
open Go Go.RowKit Go.ChangeShapes Go.WideShapes Go.ChangeAt

variable {H : Type} {enc : TypeId × Value → H} {P : Program} {W : World}

def kindOf (b : Bool) : IntKind := match b with | true => .u8 | false => .u64

theorem wf_lim {b : Bool} {n : Int} (h : (Lit.int (kindOf b) n).wf = true) : ∃ x : Nat, n = x ∧ x < lim b := by
  cases b with
  | true => have := bounds_u8 h; exact ⟨n.toNat, by omega, by simp only [lim]; omega⟩
  | false => have := bounds_u64 h; exact ⟨n.toNat, by omega, by simp only [lim]; omega⟩

theorem cells_nat (b : Bool) : ∀ (n : Nat) (cs : List Value), cs.length = n → (∀ i, i < n → ∃ x : Nat, cs[i]? = some (.int (kindOf b) (x : Int)) ∧ x < lim b) →
    ∃ xs : List Nat, xs.length = n ∧ cs = xs.map (fun x => .int (kindOf b) (x : Int)) ∧ ∀ x ∈ xs, x < lim b
  | 0, [], _, _ => ⟨[], rfl, rfl, by simp⟩
  | 0, _ :: _, h, _ => by simp at h
  | n + 1, [], h, _ => by simp at h
  | n + 1, c :: cs, h, hi => by
    obtain ⟨x, hx, hl⟩ := hi 0 (by omega)
    simp at hx
    obtain ⟨xs, h1, h2, h3⟩ := cells_nat b n cs (by simpa using h) (fun i hin => by have := hi (i + 1) (by omega); simpa using this)
    refine ⟨x :: xs, by simp [h1], by rw [hx, h2]; rfl, fun y hy => ?_⟩
    rcases List.mem_cons.1 hy with rfl | hy
    · exact hl
    · exact h3 y hy

theorem open_row {r : Reach} {b0 : Nat} {t e n : Nat} (b : Bool) {v : Value} {d : DataW H} {p : List MemPlace} (ht : P.underlying t = some (.array n e)) (he : P.underlying e = some (.int (kindOf b))) (hce : P.cellsOf e = 1) (hct : P.cellsOf t = n)
    (hv : Value.okWide P W r b0 t v) (h : DataW.Trod enc P W 0 (fun _ => true) true t v d p) : ∃ xs : List Nat, xs.length = n ∧ v = .agg (rowOf b xs) ∧ ∀ x ∈ xs, x < lim b := by
  unfold Value.okWide at hv
  rw [ht] at hv
  obtain ⟨cs, rfl, hsz, _⟩ := hv
  obtain ⟨fuel, hf⟩ := h
  obtain ⟨ys, m, _, _, _, hlen, hall⟩ := DataW.trod_array ht hf
  have hcl : cs.toList.length = n := by simpa [hct] using hsz
  obtain ⟨xs, h1, h2, h3⟩ := cells_nat b n cs.toList hcl (fun i hi => by
    have hy : ys[i]? = some ys[i] := List.getElem?_eq_getElem (by omega)
    have := hall i hi
    rw [hce, hy] at this
    obtain ⟨x, hx, _, hw⟩ := DataW.trod_int he this
    obtain ⟨z, rfl, hz⟩ := wf_lim hw
    refine ⟨z, ?_, hz⟩
    have hic : i < cs.toList.length := by omega
    simp only [Value.cells, Nat.mul_one] at hx
    rw [List.drop_eq_getElem_cons hic] at hx
    simp at hx
    rw [List.getElem?_eq_getElem hic]
    simp [hx])
  refine ⟨xs, h1, ?_, h3⟩
  congr 1
  apply Array.ext'
  rw [h2]
  cases b <;> rfl

end Go.Proofs.Ytdbaaiplkngjkaa
