import Derived.Test.YtolmolkcjoibiaaDoorNdL
import Derived.Test.YtolmolkcjoibiaaDoorSr
/- Aids to the claim: what is shown here is said at each theorem. -/
namespace Go.Sx.D
open Go Go.Proofs Go.Sx
set_option maxRecDepth 100000
abbrev kA1 : List Nat := [2, 2]
theorem hkLA : (List.range (tot kA1)).all (fun k => okTrue (4 * tot kA1) k (sxCall P q7 pfp 5000 10 (coArgs k 0 kA1) (coH (tot kA1) k) leafE)) = true := by kernel_rfl
theorem hLA : sxCall P q7 pfp 5000 10 (coArgs (tot kA1) 0 kA1) (coH (tot kA1) (tot kA1)) leafE = some tLA := by kernel_rfl
theorem lawAdd (N : Nat → Nat) (hN : ∀ j, N j < RR) (w : World) : QuietRun P (callFunc 10 (coVals N 0 kA1).toArray) (.bool true) w :=
  co_law mixed num q7_ok pfp_ok hkLA hLA (by kernel_rfl) lawLA N hN w
end Go.Sx.D
