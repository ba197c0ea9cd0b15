import Derived.Test.YtolmolkcjoibiaaGreatDoorNzB
import Derived.Test.YtolmolkcjoibiaaGreatDoorSq
/- Aids to the claim: what is shown here is said at each theorem. -/
namespace Go.Sx.Z
open Go Go.Proofs Go.Sx
set_option maxRecDepth 100000
/-- With the inverse. -/
abbrev q3 : QSum := orF (invF 56) q1
theorem q3_ok : QOk P q3 := orF_q (invF_q cInv) q1_ok
theorem hMulE : sxCall P q3 noF 5000 26 [.one (.agg (eps 0 ++ eps 1)), .one (.agg (eps 2 ++ eps 3))] (hp0 [] 0 4) leafE = some tMulE := by kernel_rfl
theorem cMulE : EE2C P 26 false F2.mul := mulE_of mixed num q3_ok (noF_p P) hMulE
theorem hAddE : sxCall P q3 noF 5000 30 [.one (.agg (eps 0 ++ eps 1)), .one (.agg (eps 2 ++ eps 3))] (hp0 [] 0 4) leafE = some tAddE := by kernel_rfl
theorem cAddE : EE2C P 30 false F2.add := addE_of mixed num q3_ok (noF_p P) hAddE
theorem hInvE : sxCall P q3 noF 5000 28 [.one (.agg (eps 0 ++ eps 1))] (hp0 [] 0 2) leafE = some tInvE := by kernel_rfl
theorem cInvE : E1C P 28 false F2.inv := invE_of mixed num q3_ok (noF_p P) hInvE
/-- Of two parts. -/
abbrev q4 : QSum := orF (elG false 26 mkMulE) (orF (elG false 30 mkAddE) (orF (elG false 28 mkInvE) q3))
theorem q4_ok : QOk P q4 := orF_q (mulE_q cMulE) (orF_q (addE_q cAddE) (orF_q (invE_q cInvE) q3_ok))
theorem hTw : sxCall P q4 noF 5000 77 [] (hp0 [] 0 0) leafE = some tTw := by kernel_rfl
theorem cTw : E0C P 77 tw := tw_of mixed num q4_ok (noF_p P) hTw
abbrev q5 : QSum := orF (elG false 77 mkTw) q4
theorem q5_ok : QOk P q5 := orF_q (tw_q cTw) q4_ok
theorem hOn2 : sxCall P q5 noF 5000 46 [.one (.agg (eps 0 ++ eps 1 ++ eps 2 ++ eps 3))] (hp0 [] 0 4) leafE = some tOn2 := by kernel_rfl
theorem cOn2 : On2C P 46 := on2_of mixed num q5_ok (noF_p P) hOn2
abbrev q6 : QSum := orF (tsF 46 on2B) (orF (maF 33) q3)
theorem q6_ok : QOk P q6 := orF_q (on2_q cOn2) (orF_q (maF_q cMade) q3_ok)
end Go.Sx.Z
