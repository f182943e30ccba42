/-
  The field's sum and difference (p256Add, p256Sub): what a call leaves in the first row.
-/
import Derived.Test.YtmfonalhmaphnaaFiatA
import Derived.Test.YtmfonalhmaphnaaEngH
namespace Go.Proofs.Ytmfonalhmaphnaa
open Go Go.RowKit

/-- The prime's words. -/
def pws : List Nat := [18446744073709551615, 4294967295, 0, 18446744069414584321]

theorem pws_lt : num pws < pw 4 := by decide +kernel
theorem pws_wd : Wd pws := Wd.of_mem (by decide +kernel)
theorem pws_len : pws.length = 4 := rfl

end Go.Proofs.Ytmfonalhmaphnaa
