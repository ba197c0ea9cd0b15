import Derived.Test.YtolmolkcjoibiaaDoorNdL
import Derived.Test.YtolmolkcjoibiaaDoorSr
/- Aids to the claim: what is shown here is said at each theorem. -/
namespace Go.Sx.D
open Go Go.Proofs Go.Sx
set_option maxRecDepth 100000
abbrev kD1 : List Nat := [2]
theorem hkLD : (List.range (tot kD1)).all (fun k => okTrue (4 * tot kD1) k (sxCall P q7 pfp 5000 7 (coArgs k 0 kD1) (coH (tot kD1) k) leafE)) = true := by kernel_rfl
theorem hLD : sxCall P q7 pfp 5000 7 (coArgs (tot kD1) 0 kD1) (coH (tot kD1) (tot kD1)) leafE = some tLD := by kernel_rfl
theorem lawDbl (N : Nat → Nat) (hN : ∀ j, N j < RR) (w : World) : QuietRun P (callFunc 7 (coVals N 0 kD1).toArray) (.bool true) w :=
  co_law mixed num q7_ok pfp_ok hkLD hLD (by kernel_rfl) lawLD N hN w
end Go.Sx.D
