import Derived.Test.YtolmolkcjoibiaaGreatDoorNzG
import Derived.Test.YtolmolkcjoibiaaGreatDoorSv
/- Aids to the claim: what is shown here is said at each theorem. -/
namespace Go.Sx.Z
open Go Go.Proofs Go.Sx
set_option maxRecDepth 100000
abbrev kA2 : List Nat := [4, 4]
theorem hkCZA : (List.range (tot kA2)).all (fun k => okTrue (4 * tot kA2) k (sxCall P q7 pfp 5000 4 (coArgs k 0 kA2) (coH (tot kA2) k) leafE)) = true := by kernel_rfl
theorem hCZA : sxCall P q7 pfp 5000 4 (coArgs (tot kA2) 0 kA2) (coH (tot kA2) (tot kA2)) leafE = some tLA2 := by kernel_rfl
theorem lawAdd (N : Nat → Nat) (hN : ∀ j, N j < RR) (w : World) : QuietRun P (callFunc 4 (coVals N 0 kA2).toArray) (.bool true) w :=
  co_law mixed num q7_ok pfp_ok hkCZA hCZA (by kernel_rfl) lawLA2 N hN w
end Go.Sx.Z
