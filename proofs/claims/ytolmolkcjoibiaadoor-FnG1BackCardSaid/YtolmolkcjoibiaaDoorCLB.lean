import Derived.Test.YtolmolkcjoibiaaDoorNdR
import Derived.Test.YtolmolkcjoibiaaDoorSxd
/- Aids to the claim: what is shown here is said at each theorem. -/
namespace Go.Sx.D
open Go Go.Proofs Go.Sx
set_option maxRecDepth 100000
abbrev qLb : QSum := orF (tsF 62 larB) q2
theorem qLb_ok : QOk P qLb := orF_q (larF_q cLar) q2_ok
abbrev pLb : QSum := orF (gpF 30 155) (g64F 30 155)
theorem pLb_ok : POk P pLb := orF_p (gpF_p cGp) (g64F_p cG64)
theorem hkLb : (List.range 2).all (fun k => okTrue 8 k (sxCall P q2 pLb 5000 8 (coArgs k 0 [2]) (coH 2 k) leafE)) = true := by kernel_rfl
theorem hLb : sxCall P qLb pLb 5000 8 [.one (.agg (eps 0 ++ eps 1))] (hp0 (gl8 [] 155) 0 2) leafE = some tBack := by kernel_rfl
theorem lawLb (w : World) (hw : ErrAt w 155) (vss : List (List Value)) (hv : FitsAll [kind4 2] vss) : QuietRun P (callFunc 8 (vss.map fun vs => Value.agg vs.toArray).toArray) (.bool true) w :=
  pt_fits (fun N hN => pt_law mixed num qLb_ok pLb_ok q2_ok hkLb hLb (by decide +kernel) back_goal N hN w hw) vss hv
end Go.Sx.D
