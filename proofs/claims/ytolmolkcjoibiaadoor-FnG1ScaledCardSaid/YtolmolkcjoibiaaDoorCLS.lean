import Derived.Test.YtolmolkcjoibiaaDoorNdM
import Derived.Test.YtolmolkcjoibiaaDoorSt
/- Aids to the claim: what is shown here is said at each theorem. -/
namespace Go.Sx.D
open Go Go.Proofs Go.Sx
set_option maxRecDepth 100000
theorem hScaled : sxCall P qj pg 5000 37 [.one (.agg (eps 0 ++ eps 1)), .one (.agg (eps 2)), .one (.agg (eps 3 ++ eps 4))] (hp0 [] 0 5) leafE = some tScaled := by kernel_rfl
theorem cScaled : ScC P 37 := scC_of mixed num qj_ok pg_ok hScaled
abbrev q9 : QSum := orF (elG false 25 mkAdd1) (orF (scF 37) q2)
theorem q9_ok : QOk P q9 := orF_q (add1_q cAddS) (orF_q (scF_q cScaled) q2_ok)
abbrev kS1 : List Nat := [2, 1, 2]
theorem hkLS : (List.range (tot kS1)).all (fun k => okTrue (4 * tot kS1) k (sxCall P q9 pfp 5000 11 (coArgs k 0 kS1) (coH (tot kS1) k) leafE)) = true := by kernel_rfl
theorem hLS : sxCall P q9 pfp 5000 11 (coArgs (tot kS1) 0 kS1) (coH (tot kS1) (tot kS1)) leafE = some tLS := by kernel_rfl
theorem lawScaled (N : Nat → Nat) (hN : ∀ j, N j < RR) (w : World) : QuietRun P (callFunc 11 (coVals N 0 kS1).toArray) (.bool true) w :=
  co_law mixed num q9_ok pfp_ok hkLS hLS (by kernel_rfl) lawLS N hN w
end Go.Sx.D
