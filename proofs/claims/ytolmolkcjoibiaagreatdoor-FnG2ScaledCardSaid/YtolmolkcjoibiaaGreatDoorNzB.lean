import Derived.Test.YtolmolkcjoibiaaGreatDoorNzA
import Derived.Test.YtolmolkcjoibiaaGreatDoorSm
/- Aids to the claim: what is shown here is said at each theorem. -/
namespace Go.Sx.Z
open Go Go.Proofs Go.Sx
set_option maxRecDepth 100000
theorem hHalf : sxCall P qAm noF 5000 86 ([0].map ag) (hp0 [] 4 0) leafE = some tHalf := by kernel_rfl
theorem cHalf : HalfC P 86 := halfC_of mixed num qAm_ok (noF_p P) hHalf
abbrev qHv : QSum := orF (leF 14) (orF (ltF 14) (orF (lesF 88) (orF (sumF 103) (halfF 86))))
theorem qHv_ok : QOk P qHv := orF_q (leF_q cLe) (orF_q (ltF_q cLe) (orF_q (lesF_q cLes) (orF_q (sumF_q cSum) (halfF_q cHalf))))
theorem hHalved : sxCall P qHv noF 5000 87 [ag 0, qArg] (hp0 [] 4 0) leafE = some tHalved := by kernel_rfl
theorem cHalved : HalvedC P 87 := halvedC_of mixed num qHv_ok (noF_p P) hHalved
abbrev qIv : QSum := orF (leF 14) (orF (ltF 14) (orF (lesF 88) (orF (halfF 86) (orF (hvF 87) (op3F 83 .sub)))))
theorem qIv_ok : QOk P qIv := orF_q (leF_q cLe) (orF_q (ltF_q cLe) (orF_q (lesF_q cLes) (orF_q (halfF_q cHalf) (orF_q (hvF_q cHalved) (op3F_q (fun _ _ _ => rfl) cSm)))))
noncomputable abbrev fnIv : Func := P.funcs[56]!
noncomputable abbrev bodyIv : Code := (fnIv.body).getD .skip
noncomputable abbrev opsIv : Array Oper := match (flat bodyIv).getD 1 .skip with | .region _ ops _ => ops | _ => #[]
noncomputable abbrev BIv : Code := cb (cb ((flat bodyIv).getD 4 .skip))
noncomputable abbrev XIv : Code := cb ((flat BIv).getD 2 .skip)
noncomputable abbrev CIv : Code := cb (cb ((flat XIv).getD 0 .skip))
noncomputable abbrev DIv : Code := cb (cb ((flat XIv).getD 1 .skip))
theorem iv1 : P.funcs[56]? = some fnIv := by kernel_rfl
theorem iv2 : fnIv.body = some bodyIv := by kernel_rfl
theorem iv3 : fnIv.ntmps = 65 := by kernel_rfl
theorem iv4 : flat bodyIv = (flat bodyIv).take 1 ++ ([.region 1 opsIv true] ++ (((flat bodyIv).drop 2).take 2 ++ ([.block 0 (.loop BIv)] ++ (flat bodyIv).drop 5))) := by kernel_rfl
theorem iv5 : flat BIv = (flat BIv).take 2 ++ [.block 1 XIv] := by kernel_rfl
theorem iv6 : flat XIv = [.block 2 (.loop CIv)] ++ ([.block 4 (.loop DIv)] ++ (flat XIv).drop 2) := by kernel_rfl
theorem iv7 : sxs P qIv noF 300 ((flat bodyIv).take 1) ivS.st (kM fun _ => Go.Sx.iv1) = some (.leaf (.normal, [.v 0, .v 1, .v 2, .v 3])) := by kernel_rfl
theorem iv8 : twoB true opsIv 1 8 [0, 2, 3, 4, 5, 6, 7, 8, 1, 9, 10, 11] = true := by kernel_rfl
theorem iv9 : sxOps P qIv noF (sxCall P qIv noF 0) true opsIv.toList opsIv.toList Go.Sx.iv1.st (fun st => kM (fun _ => Go.Sx.iv2) .normal st) = some (.leaf iv2L) := by kernel_rfl
theorem iv10 : sxOps P qIv noF (sxCall P qIv noF 0) true opsIv.toList ([0, 2, 3, 4, 5, 6, 7, 8, 1, 9, 10, 11].filterMap fun i => opsIv[i]?) Go.Sx.iv1.st (fun st => kM (fun _ => Go.Sx.iv2) .normal st) = some (.leaf iv2L) := by kernel_rfl
theorem iv11 : sxs P qIv noF 300 (((flat bodyIv).drop 2).take 2) Go.Sx.iv2.st (kM ivK) = some tIvB := by kernel_rfl
theorem iv12 : sxs P qIv noF 300 ((flat BIv).take 2) ivL.st (kM fun _ => ivL) = some tIvH := by kernel_rfl
theorem iv13 : sxs P qIv noF 300 (flat CIv) ivL.st (kM fun _ => ivL) = some tIvC := by kernel_rfl
theorem iv14 : sxs P qIv noF 300 (flat DIv) ivL.st (kM fun _ => ivL) = some tIvD := by kernel_rfl
theorem iv15 : sxs P qIv noF 300 ((flat XIv).drop 2) ivL.st (kM fun _ => ivL) = some tIvX := by kernel_rfl
theorem iv16 : sxs P qIv noF 300 ((flat bodyIv).drop 5) ivL.st (kR P fnIv) = some tIvE := by kernel_rfl
theorem iv17 : resVs P ivR.st.tm ivR.st.h fnIv.results.toList = some [.agg zW] := by kernel_rfl
theorem cInv : InvC P 56 := invC_of mixed num qIv_ok (noF_p P) iv1 iv2 iv3 iv4 iv5 iv6 iv7 (fun _ _ _ => sxCall_sound mixed num qIv_ok (noF_p P) 0) iv8 iv9 iv10 iv11 iv12 iv13 iv14 iv15 iv16 iv17
end Go.Sx.Z
