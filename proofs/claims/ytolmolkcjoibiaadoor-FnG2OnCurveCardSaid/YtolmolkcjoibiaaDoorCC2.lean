import Derived.Test.YtolmolkcjoibiaaDoorNdL
import Derived.Test.YtolmolkcjoibiaaDoorSr
/- Aids to the claim: what is shown here is said at each theorem. -/
namespace Go.Sx.D
open Go Go.Proofs Go.Sx
set_option maxRecDepth 100000
abbrev kC2 : List Nat := [4]
theorem hkC2 : (List.range (tot kC2)).all (fun k => okTrue (4 * tot kC2) k (sxCall P q6 pg 5000 6 (coArgs k 0 kC2) (coH (tot kC2) k) leafE)) = true := by kernel_rfl
theorem hC2 : sxCall P q6 pg 5000 6 (coArgs (tot kC2) 0 kC2) (coH (tot kC2) (tot kC2)) leafE = some tC2 := by kernel_rfl
theorem lawCv (N : Nat → Nat) (hN : ∀ j, N j < RR) (w : World) : QuietRun P (callFunc 6 (coVals N 0 kC2).toArray) (.bool true) w :=
  co_law mixed num q6_ok pg_ok hkC2 hC2 (by kernel_rfl) lawC2 N hN w
end Go.Sx.D
