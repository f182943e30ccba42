/-
  The reference's LessWords: what a call does.
-/
import Derived.Test.YtdbaaiplkngjkaaProg
import Derived.Test.YtdbaaiplkngjkaaSpecA
import Derived.WalkKit
import Derived.WalkSpells
import Derived.BigQuiet
import Derived.Deep.QuietTactic
import Derived.Deep.LoopGhost
import Derived.Lib.Hide
import Derived.Outline
namespace Go.Proofs.Ytdbaaiplkngjkaa
open Go Go.RowKit

/-- The words lie in block B, from its first cell on. -/
def Ws (w : World) (B : Nat) (zs : List Nat) : Prop := ∀ i, i < zs.length → w.cell? ⟨B, i, none⟩ = some (.int .u64 ((zs.getD i 0 : Nat) : Int))

def Agree (xs ys : List Nat) (k : Nat) : Prop := ∀ j, k ≤ j → xs.getD j 0 = ys.getD j 0

theorem ret_bool {a b : Bool} (h : a = b) : Ending.returned (.bool a) = .returned (.bool b) := by rw [h]

set_option maxHeartbeats 1000000 in
theorem less_any (w : World) (b1 b2 n c1 c2 : Nat) (xs ys : List Nat) (hl : Hid (xs.length = n ∧ ys.length = n)) (hn : n ≤ 1000) (wx : Wd xs) (wy : Wd ys) (hx : Ws w b1 xs) (hy : Ws w b2 ys) :
    Calls Try.prog 7 #[.slice (some ⟨b1, 0, none⟩) n c1, .slice (some ⟨b2, 0, none⟩) n c2] w fun e w' =>
      e = .returned (.bool (decide (num xs < num ys))) ∧ ∃ m, w' = w.drewN m := by
  go_enter Try.func7, Try.ntmps7
  go_wp2
  go_loopw [5] (fun i wr => ∃ k : Nat, k ≤ n ∧ i = .int .i64 ((k : Int) - 1) ∧ Agree xs ys k ∧ ∃ m, wr = w.drewN m) (fun i _ => (intOf i + 1).toNat)
  case atStart => 
    refine ⟨n, Nat.le_refl _, rfl, ?_, 0, rfl⟩
    intro j hj
    simp [List.getElem?_eq_none (show xs.length ≤ j by rw [hl.out.1]; exact hj), List.getElem?_eq_none (show ys.length ≤ j by rw [hl.out.2]; exact hj)]
  case round =>
    obtain ⟨k, hk, rfl, hag, m, rfl⟩ := hrel
    cases k with
    | zero =>
      go_wp2
      go_ret
      have e : xs = ys := num_same (hl.out.1.trans hl.out.2.symm) (fun j => hag j (Nat.zero_le _))
      exact ⟨ret_bool (by simp [e]), m, rfl⟩
    | succ k =>
      rw [show (((k + 1 : Nat) : Int) - 1) = (k : Int) from by omega]
      have hk1 : k < n := by omega
      have hcx := hx k (by rw [hl.out.1]; exact hk1)
      have hcy := hy k (by rw [hl.out.2]; exact hk1)
      have hne := Lib.hid (num_cmp k xs ys wx wy (hl.out.1.trans hl.out.2.symm) (by rw [hl.out.1]; exact hk1) (fun j hj => hag j hj))
      have hst : Hid (xs.getD k 0 = ys.getD k 0 → Agree xs ys k) := fun he j hj => by
        rcases Nat.eq_or_lt_of_le hj with h | h
        · subst h; exact he
        · exact hag j h
      generalize xs.getD k 0 = x at hcx hne hst
      generalize ys.getD k 0 = y at hcy hne hst
      clear hx hy hag
      by_cases hxy : x = y
      · subst hxy
        have b1 : ((x : Int) != (x : Int)) = false := by simp
        go_wp2
        go_quiet (fail)
        go_wp2
        go_roundw
        case rel => exact ⟨k, by omega, by go_num, hst.out trivial, _, by first | rfl | (simp only [World.drewN_drewN]; rfl)⟩
        case measure => simp [intOf]
      · have b1 : ((x : Int) != (y : Int)) = true := by simp; omega
        go_wp2
        go_quiet (fail)
        go_wp2
        go_quiet (fail)
        go_wp2
        go_ret
        exact ⟨ret_bool (by simp [hne.out hxy]), _, by first | rfl | (simp only [World.drewN_drewN]; rfl)⟩

set_option maxHeartbeats 1000000 in
theorem same_any (w : World) (b1 b2 n c1 c2 : Nat) (xs ys : List Nat) (hl : Hid (xs.length = n ∧ ys.length = n)) (hn : n ≤ 1000) (hx : Ws w b1 xs) (hy : Ws w b2 ys) :
    Calls Try.prog 10 #[.slice (some ⟨b1, 0, none⟩) n c1, .slice (some ⟨b2, 0, none⟩) n c2] w fun e w' =>
      e = .returned (.bool (decide (xs = ys))) ∧ ∃ m, w' = w.drewN m := by
  go_enter Try.func10, Try.ntmps10
  go_wp2
  go_loopw [5] (fun i wr => ∃ k : Nat, k ≤ n ∧ i = .int .i64 (k : Int) ∧ (∀ j, j < k → xs.getD j 0 = ys.getD j 0) ∧ ∃ m, wr = w.drewN m) (fun i _ => (n - (intOf i).toNat))
  case atStart => exact ⟨0, Nat.zero_le _, rfl, fun j hj => absurd hj (by omega), 0, rfl⟩
  case round =>
    obtain ⟨k, hk, rfl, hag, m, rfl⟩ := hrel
    by_cases hk1 : k < n
    · have hcx := hx k (by rw [hl.out.1]; exact hk1)
      have hcy := hy k (by rw [hl.out.2]; exact hk1)
      have hst : Hid (xs.getD k 0 = ys.getD k 0 → ∀ j, j < k + 1 → xs.getD j 0 = ys.getD j 0) := fun he j hj => by
        rcases Nat.lt_or_eq_of_le (Nat.le_of_lt_succ hj) with h | h
        · exact hag j h
        · subst h; exact he
      have hno : Hid (xs.getD k 0 ≠ ys.getD k 0 → xs ≠ ys) := fun hne he => hne (by rw [he])
      generalize xs.getD k 0 = x at hcx hst hno
      generalize ys.getD k 0 = y at hcy hst hno
      clear hx hy hag
      by_cases hxy : x = y
      · subst hxy
        have b1 : ((x : Int) != (x : Int)) = false := by simp
        go_wp2
        go_quiet (fail)
        go_wp2
        go_roundw
        case rel => exact ⟨k + 1, by omega, by go_num, hst.out trivial, _, by first | rfl | (simp only [World.drewN_drewN]; rfl)⟩
        case measure => simp [intOf]; omega
      · have b1 : ((x : Int) != (y : Int)) = true := by simp; omega
        have hno' := Lib.hid (hno.out hxy)
        clear hno hst
        go_wp2
        go_quiet (fail)
        go_wp2
        go_ret
        exact ⟨ret_bool (by simp [hno'.out]), _, by first | rfl | (simp only [World.drewN_drewN]; rfl)⟩
    · have he : Hid (xs = ys) := num_same (hl.out.1.trans hl.out.2.symm) (fun j => by
        rcases Nat.lt_or_ge j k with h | h
        · exact hag j h
        · simp [List.getElem?_eq_none (show xs.length ≤ j by rw [hl.out.1]; omega), List.getElem?_eq_none (show ys.length ≤ j by rw [hl.out.2]; omega)])
      clear hag hx hy
      go_wp2
      go_ret
      exact ⟨ret_bool (by simp [he.out]), _, by first | rfl | (simp only [World.drewN_drewN]; rfl)⟩

end Go.Proofs.Ytdbaaiplkngjkaa
