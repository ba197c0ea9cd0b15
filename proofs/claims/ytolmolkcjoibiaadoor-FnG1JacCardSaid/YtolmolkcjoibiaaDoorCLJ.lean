import Derived.Test.YtolmolkcjoibiaaDoorNdM
import Derived.Test.YtolmolkcjoibiaaDoorSt
/- Aids to the claim: what is shown here is said at each theorem. -/
namespace Go.Sx.D
open Go Go.Proofs Go.Sx
set_option maxRecDepth 100000
abbrev kJ1 : List Nat := [2, 2]
theorem hkLJ : (List.range (tot kJ1)).all (fun k => okTrue (4 * tot kJ1) k (sxCall P q8 pfp 5000 12 (coArgs k 0 kJ1) (coH (tot kJ1) k) leafE)) = true := by kernel_rfl
theorem hLJ : sxCall P q8 pfp 5000 12 (coArgs (tot kJ1) 0 kJ1) (coH (tot kJ1) (tot kJ1)) leafE = some tLJ := by kernel_rfl
theorem lawJac (N : Nat → Nat) (hN : ∀ j, N j < RR) (w : World) : QuietRun P (callFunc 12 (coVals N 0 kJ1).toArray) (.bool true) w :=
  co_law mixed num q8_ok pfp_ok hkLJ hLJ (by kernel_rfl) lawLJ N hN w
end Go.Sx.D
