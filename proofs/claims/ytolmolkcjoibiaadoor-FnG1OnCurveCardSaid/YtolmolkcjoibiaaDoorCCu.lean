import Derived.Test.YtolmolkcjoibiaaDoorNdA
/- Aids to the claim: what is shown here is said at each theorem. -/
namespace Go.Sx.D
open Go Go.Proofs Go.Sx
set_option maxRecDepth 100000
abbrev kP1 : List Nat := [2]
theorem hkCu : (List.range (tot kP1)).all (fun k => okTrue (4 * tot kP1) k (sxCall P q2 pfp 5000 5 (coArgs k 0 kP1) (coH (tot kP1) k) leafE)) = true := by kernel_rfl
theorem hCu : sxCall P q2 pfp 5000 5 (coArgs (tot kP1) 0 kP1) (coH (tot kP1) (tot kP1)) leafE = some tCur1 := by kernel_rfl
theorem lawCu (N : Nat → Nat) (hN : ∀ j, N j < RR) (w : World) : QuietRun P (callFunc 5 (coVals N 0 kP1).toArray) (.bool true) w :=
  co_law mixed num q2_ok pfp_ok hkCu hCu (by kernel_rfl) cur1_law N hN w
end Go.Sx.D
