import Derived.Test.YtolmolkcjoibiaaDoorNdA
import Derived.Test.YtolmolkcjoibiaaDoorTie
import Derived.Test.YtolmolkcjoibiaaDoorCards
/- Aids to the claim: what is shown here is said at each theorem. -/
namespace Go.Sx.D
open Go Go.Proofs Go.Sx
set_option maxRecDepth 100000
abbrev kP1P1 : List Nat := [2, 2]
theorem hkEq : (List.range (tot kP1P1)).all (fun k => okTrue (4 * tot kP1P1) k (sxCall P q2 pfp 5000 3 (coArgs k 0 kP1P1) (coH (tot kP1P1) k) leafE)) = true := by kernel_rfl
theorem hEq : sxCall P q2 pfp 5000 3 (coArgs (tot kP1P1) 0 kP1P1) (coH (tot kP1P1) (tot kP1P1)) leafE = some tEqual1 := by kernel_rfl
theorem lawEq (N : Nat → Nat) (hN : ∀ j, N j < RR) (w : World) : QuietRun P (callFunc 3 (coVals N 0 kP1P1).toArray) (.bool true) w :=
  co_law mixed num q2_ok pfp_ok hkEq hEq (by kernel_rfl) equal1_law N hN w
end Go.Sx.D
