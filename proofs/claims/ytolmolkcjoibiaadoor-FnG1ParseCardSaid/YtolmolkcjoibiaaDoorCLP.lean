import Derived.Test.YtolmolkcjoibiaaDoorNdQ
import Derived.Test.YtolmolkcjoibiaaDoorSxc
/- Aids to the claim: what is shown here is said at each theorem. -/
namespace Go.Sx.D
open Go Go.Proofs Go.Sx
set_option maxRecDepth 100000
abbrev qLp : QSum := orF (cvF 32 [1, 0, 0, 0, 2, 0, 0, 0]) (tsF 62 larB)
theorem qLp_ok : QOk P qLp := orF_q (cvF_q cGen) (larF_q cLar)
abbrev pLp : QSum := orF (gpF 30 155) (spF 31)
theorem pLp_ok : POk P pLp := orF_p (gpF_p cGp) (spF_p cSp)
theorem hLp : sxCall P qLp pLp 5000 9 [.one (.agg by32)] (hp0 (gl8 [] 155) 32 0) leafE = some tLawP := by kernel_rfl
theorem lawLp (w : World) (hw : ErrAt w 155) (vss : List (List Value)) (hv : FitsAll [List.replicate 32 .u8] vss) : QuietRun P (callFunc 9 (vss.map fun vs => Value.agg vs.toArray).toArray) (.bool true) w := by
  obtain ⟨g, hg, rfl⟩ := fits_by hv
  exact law_by mixed num qLp_ok pLp_ok hLp (by decide +kernel) hw hg fun e hb => lawP_goal hb
end Go.Sx.D
