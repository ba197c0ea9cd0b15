import Derived.Test.YtolmolkcjoibiaaGreatDoorNzS
import Derived.Test.YtolmolkcjoibiaaGreatDoorSv
/- Aids to the claim: what is shown here is said at each theorem. -/
namespace Go.Sx.Z
open Go Go.Proofs Go.Sx
set_option maxRecDepth 100000
abbrev kS2 : List Nat := [4, 1, 4]
theorem hkCZS : (List.range (tot kS2)).all (fun k => okTrue (4 * tot kS2) k (sxCall P q9 pfp 5000 5 (coArgs k 0 kS2) (coH (tot kS2) k) leafE)) = true := by kernel_rfl
theorem hCZS : sxCall P q9 pfp 5000 5 (coArgs (tot kS2) 0 kS2) (coH (tot kS2) (tot kS2)) leafE = some tLS2 := by kernel_rfl
theorem lawScaled (N : Nat → Nat) (hN : ∀ j, N j < RR) (w : World) : QuietRun P (callFunc 5 (coVals N 0 kS2).toArray) (.bool true) w :=
  co_law mixed num q9_ok pfp_ok hkCZS hCZS (by kernel_rfl) lawLS2 N hN w
end Go.Sx.Z
