import Derived.Test.YtolmolkcjoibiaaGreatDoorNzG
import Derived.Test.YtolmolkcjoibiaaGreatDoorSv
/- Aids to the claim: what is shown here is said at each theorem. -/
namespace Go.Sx.Z
open Go Go.Proofs Go.Sx
set_option maxRecDepth 100000
abbrev kD2 : List Nat := [4]
theorem hkCZD : (List.range (tot kD2)).all (fun k => okTrue (4 * tot kD2) k (sxCall P q7 pfp 5000 3 (coArgs k 0 kD2) (coH (tot kD2) k) leafE)) = true := by kernel_rfl
theorem hCZD : sxCall P q7 pfp 5000 3 (coArgs (tot kD2) 0 kD2) (coH (tot kD2) (tot kD2)) leafE = some tLD2 := by kernel_rfl
theorem lawDbl (N : Nat → Nat) (hN : ∀ j, N j < RR) (w : World) : QuietRun P (callFunc 3 (coVals N 0 kD2).toArray) (.bool true) w :=
  co_law mixed num q7_ok pfp_ok hkCZD hCZD (by kernel_rfl) lawLD2 N hN w
end Go.Sx.Z
