import Derived.Test.YtolmolkcjoibiaaDoorNdC
/- Aids to the claim: what is shown here is said at each theorem. -/
namespace Go.Sx.D
open Go Go.Proofs Go.Sx
set_option maxRecDepth 100000
abbrev kP2P2 : List Nat := [4, 4]
theorem hkE2 : (List.range (tot kP2P2)).all (fun k => okTrue (4 * tot kP2P2) k (sxCall P q6 pfp 5000 4 (coArgs k 0 kP2P2) (coH (tot kP2P2) k) leafE)) = true := by kernel_rfl
theorem hE2 : sxCall P q6 pfp 5000 4 (coArgs (tot kP2P2) 0 kP2P2) (coH (tot kP2P2) (tot kP2P2)) leafE = some tEqual2 := by kernel_rfl
theorem lawE2 (N : Nat → Nat) (hN : ∀ j, N j < RR) (w : World) : QuietRun P (callFunc 4 (coVals N 0 kP2P2).toArray) (.bool true) w :=
  co_law mixed num q6_ok pfp_ok hkE2 hE2 (by kernel_rfl) equal2_law N hN w
end Go.Sx.D
