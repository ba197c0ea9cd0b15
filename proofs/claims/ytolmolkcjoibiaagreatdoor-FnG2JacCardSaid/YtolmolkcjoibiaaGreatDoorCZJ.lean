import Derived.Test.YtolmolkcjoibiaaGreatDoorNzM
import Derived.Test.YtolmolkcjoibiaaGreatDoorSv
/- Aids to the claim: what is shown here is said at each theorem. -/
namespace Go.Sx.Z
open Go Go.Proofs Go.Sx
set_option maxRecDepth 100000
abbrev kJ2 : List Nat := [4, 4]
theorem hkCZJ : (List.range (tot kJ2)).all (fun k => okTrue (4 * tot kJ2) k (sxCall P q8 pfp 5000 6 (coArgs k 0 kJ2) (coH (tot kJ2) k) leafE)) = true := by kernel_rfl
theorem hCZJ : sxCall P q8 pfp 5000 6 (coArgs (tot kJ2) 0 kJ2) (coH (tot kJ2) (tot kJ2)) leafE = some tLJ2 := by kernel_rfl
theorem lawJac (N : Nat → Nat) (hN : ∀ j, N j < RR) (w : World) : QuietRun P (callFunc 6 (coVals N 0 kJ2).toArray) (.bool true) w :=
  co_law mixed num q8_ok pfp_ok hkCZJ hCZJ (by kernel_rfl) lawLJ2 N hN w
end Go.Sx.Z
