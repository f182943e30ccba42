/-
  The law's walk: FnExactWordsP224.
-/
import Derived.Test.YtoiiihnjfhdnlaaDoorC
import Derived.Test.YtoiiihnjfhdnlaaSpecE
import Derived.Test.YtoiiihnjfhdnlaaWSub
namespace Go.Proofs.Ytoiiihnjfhdnlaa
open Go Go.RowKit

theorem y_row {w : World} {B : Nat} {l : List Nat} {t : TypeId} (h : w.heap[B]? = some (.cells (rowOf true l) t (0, 0))) : Ys w B l := by
  intro i hi
  rw [cell_of_heap h]
  simp [rowOf, hi]

set_option maxHeartbeats 2000000 in
theorem w_words_row (w : World) (xs : List Nat) (lx : xs.length = 28) (fx : ∀ x ∈ xs, x < lim true) :
    Calls Try.prog 5 #[.agg (rowOf true xs)] w fun e w' => e = .returned (.bool true) ∧ Below w.heap.size w w' := by
  have hlx := Lib.hid lx
  clear lx
  go_enter Try.func5, Try.ntmps5
  go_wp2_with fail
  refine (wordsof_any _ w.heap.size 28 xs hlx fx (y_row (ha_same _ _ rfl)) (by simp)).mono ?_
  rintro e W1 ⟨B, rs, rfl, hB, hrow, hwd, hlen, hq, hbel⟩
  have hy : W1.heap[w.heap.size]? = some (.cells (rowOf true xs) 32 (0, 0)) := (hbel.block _ (by simp)).trans (ha_same _ _ rfl)
  have h1 : Hold w [(B, rs)] W1 := (((Hold.refl w).later ((Below.refl _ _).alloc (Nat.le_refl _) _)).later hbel).more hrow
  have hq' := Lib.hid hq
  have hlen' := Lib.hid hlen
  clear hq hlen hB hrow hbel
  go_wp2_with (refine wpList_load_row rfl _ _ rfl _ rfl _ _ _ _ hy Try.underlying32 rfl (by rw [infoQ, size_rowb, hlx.out]) ?_)
  refine (im_from _ xs hlx.out fx).mono ?_
  rintro e W2 ⟨rs2, rfl, ⟨hq2, hlen2⟩, hwd2, hb2⟩
  have e12 : rs = rs2 := num_inj hwd (Wd.of_mem hwd2) (by rw [hlen2, hlen'.out]) (by rw [hq2]; exact hq'.out)
  subst e12
  have h2 := h1.later hb2
  clear hq2 hlen2 hwd2 hb2 hy h1
  go_wp2_with (refine wpList_store_row rfl _ _ _ rfl _ _ rfl rfl 25 (rowOf false zeros) (ha_same _ _ rfl) (by rw [infoR, size_row, hlen'.out]) (by rw [size_row, size_row, hlen'.out]; rfl) (one_row _) ?_)
  have h3 := Lib.hid (h2.newRow zeros rs 25)
  refine (prime_hold h3.out).mono ?_
  rintro e W3 ⟨B3, ps, rfl, rfl, _, _, h4⟩
  go_wp2_with fail
  by_cases hlt : num rs < num pws
  · have hlt' := Lib.hid (decide_eq_true hlt)
    clear hlt
    refine (less_hold rs pws h4 (by simp) (by simp) hlen'.out rfl hwd pws_wd true hlt'.out).mono ?_
    rintro e W4 ⟨rfl, h5⟩
    go_wp2_with fail
    refine (same_hold rs rs h5 (by simp) (by simp) hlen'.out hlen'.out rfl).mono ?_
    rintro e W5 ⟨rfl, h6⟩
    go_wp2_with fail
    go_ret
    exact ⟨rfl, h6.below⟩
  · have hlt' := Lib.hid (decide_eq_false hlt)
    clear hlt
    refine (less_hold rs pws h4 (by simp) (by simp) hlen'.out rfl hwd pws_wd false hlt'.out).mono ?_
    rintro e W4 ⟨rfl, h5⟩
    go_wp2_with fail
    go_ret
    exact ⟨rfl, h5.below⟩

end Go.Proofs.Ytoiiihnjfhdnlaa
