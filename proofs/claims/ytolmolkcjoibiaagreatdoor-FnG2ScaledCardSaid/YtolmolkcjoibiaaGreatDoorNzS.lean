import Derived.Test.YtolmolkcjoibiaaGreatDoorNzM
/- Aids to the claim: what is shown here is said at each theorem. -/
namespace Go.Sx.Z
open Go Go.Proofs Go.Sx
set_option maxRecDepth 100000
theorem hScaled : sxCall P qj pt2 5000 16 [pArg 0, .one (.agg (eps 4)), pArg 5] (hp0 [] 0 9) leafE = some tScaled2 := by kernel_rfl
theorem cScaled : Sc2C P 16 := sc2C_of mixed num qj_ok pt2_ok hScaled
abbrev q9 : QSum := orF (elG false 10 mkAdd2) (orF (sc2F 16) q6)
theorem q9_ok : QOk P q9 := orF_q (add2_q cAddS) (orF_q (sc2F_q cScaled) q6_ok)
end Go.Sx.Z
