import Derived.Test.YtolmolkcjoibiaaDoorNdY
import Derived.Test.YtolmolkcjoibiaaDoorSj
/- Aids to the claim: what is shown here is said at each theorem. -/
namespace Go.Sx.D
open Go Go.Proofs Go.Sx
set_option maxRecDepth 100000
abbrev qMM : QSum := orF (leF 35) (lesF 102)
theorem qMM_ok : QOk P qMM := orF_q (leF_q cLe) (lesF_q cLes)
noncomputable abbrev fnMM : Func := P.funcs[85]!
noncomputable abbrev bodyMM : Code := (fnMM.body).getD .skip
noncomputable abbrev BMM : Code := cb (cb ((flat bodyMM).getD 6 .skip))
theorem mm1 : P.funcs[85]? = some fnMM := by kernel_rfl
theorem mm2 : fnMM.body = some bodyMM := by kernel_rfl
theorem mm3 : fnMM.ntmps = 117 := by kernel_rfl
theorem mm4 : Nat.blt 6 (flat bodyMM).length = true := by kernel_rfl
theorem mm5 : (flat bodyMM).getD 6 .skip = .block 4 (.loop BMM) := by kernel_rfl
theorem mm6 : sxs P qMM noF 3000 ((flat bodyMM).take 6) pA.st (kM fun _ => pL 512) = some tMMpre := by kernel_rfl
theorem mm8_0 : (List.range 32).map (fun i => sxs P qMM noF 300 (flat BMM) (pL (0 + i + 1)).st (kM (pLx (0 + i)))) = (List.range 32).map fun i => some (tRound (0 + i)) := by kernel_rfl
theorem mm8_1 : (List.range 32).map (fun i => sxs P qMM noF 300 (flat BMM) (pL (32 + i + 1)).st (kM (pLx (32 + i)))) = (List.range 32).map fun i => some (tRound (32 + i)) := by kernel_rfl
theorem mm8_2 : (List.range 32).map (fun i => sxs P qMM noF 300 (flat BMM) (pL (64 + i + 1)).st (kM (pLx (64 + i)))) = (List.range 32).map fun i => some (tRound (64 + i)) := by kernel_rfl
theorem mm8_3 : (List.range 32).map (fun i => sxs P qMM noF 300 (flat BMM) (pL (96 + i + 1)).st (kM (pLx (96 + i)))) = (List.range 32).map fun i => some (tRound (96 + i)) := by kernel_rfl
theorem mm8_4 : (List.range 32).map (fun i => sxs P qMM noF 300 (flat BMM) (pL (128 + i + 1)).st (kM (pLx (128 + i)))) = (List.range 32).map fun i => some (tRound (128 + i)) := by kernel_rfl
theorem mm8_5 : (List.range 32).map (fun i => sxs P qMM noF 300 (flat BMM) (pL (160 + i + 1)).st (kM (pLx (160 + i)))) = (List.range 32).map fun i => some (tRound (160 + i)) := by kernel_rfl
theorem mm8_6 : (List.range 32).map (fun i => sxs P qMM noF 300 (flat BMM) (pL (192 + i + 1)).st (kM (pLx (192 + i)))) = (List.range 32).map fun i => some (tRound (192 + i)) := by kernel_rfl
theorem mm8_7 : (List.range 32).map (fun i => sxs P qMM noF 300 (flat BMM) (pL (224 + i + 1)).st (kM (pLx (224 + i)))) = (List.range 32).map fun i => some (tRound (224 + i)) := by kernel_rfl
theorem mm8_8 : (List.range 32).map (fun i => sxs P qMM noF 300 (flat BMM) (pL (256 + i + 1)).st (kM (pLx (256 + i)))) = (List.range 32).map fun i => some (tRound (256 + i)) := by kernel_rfl
theorem mm8_9 : (List.range 32).map (fun i => sxs P qMM noF 300 (flat BMM) (pL (288 + i + 1)).st (kM (pLx (288 + i)))) = (List.range 32).map fun i => some (tRound (288 + i)) := by kernel_rfl
theorem mm8_10 : (List.range 32).map (fun i => sxs P qMM noF 300 (flat BMM) (pL (320 + i + 1)).st (kM (pLx (320 + i)))) = (List.range 32).map fun i => some (tRound (320 + i)) := by kernel_rfl
theorem mm8_11 : (List.range 32).map (fun i => sxs P qMM noF 300 (flat BMM) (pL (352 + i + 1)).st (kM (pLx (352 + i)))) = (List.range 32).map fun i => some (tRound (352 + i)) := by kernel_rfl
theorem mm8_12 : (List.range 32).map (fun i => sxs P qMM noF 300 (flat BMM) (pL (384 + i + 1)).st (kM (pLx (384 + i)))) = (List.range 32).map fun i => some (tRound (384 + i)) := by kernel_rfl
theorem mm8_13 : (List.range 32).map (fun i => sxs P qMM noF 300 (flat BMM) (pL (416 + i + 1)).st (kM (pLx (416 + i)))) = (List.range 32).map fun i => some (tRound (416 + i)) := by kernel_rfl
theorem mm8_14 : (List.range 32).map (fun i => sxs P qMM noF 300 (flat BMM) (pL (448 + i + 1)).st (kM (pLx (448 + i)))) = (List.range 32).map fun i => some (tRound (448 + i)) := by kernel_rfl
theorem mm8_15 : (List.range 32).map (fun i => sxs P qMM noF 300 (flat BMM) (pL (480 + i + 1)).st (kM (pLx (480 + i)))) = (List.range 32).map fun i => some (tRound (480 + i)) := by kernel_rfl
theorem mm8 (n : Nat) (hn : n < 512) : sxs P qMM noF 300 (flat BMM) (pL (n + 1)).st (kM (pLx n)) = some (tRound n) := by
  have hi : n % 32 < 32 := Nat.mod_lt _ (by omega)
  have hk : n / 32 < 16 := by omega
  have key : ∀ k, n / 32 = k → (∀ i, i < 32 → sxs P qMM noF 300 (flat BMM) (pL (32 * k + i + 1)).st (kM (pLx (32 * k + i))) = some (tRound (32 * k + i))) → sxs P qMM noF 300 (flat BMM) (pL (n + 1)).st (kM (pLx n)) = some (tRound n) := fun k hk h => by
    have := h (n % 32) hi
    rwa [show 32 * k + n % 32 = n by omega] at this
  have hc : n / 32 = 0 ∨ n / 32 = 1 ∨ n / 32 = 2 ∨ n / 32 = 3 ∨ n / 32 = 4 ∨ n / 32 = 5 ∨ n / 32 = 6 ∨ n / 32 = 7 ∨ n / 32 = 8 ∨ n / 32 = 9 ∨ n / 32 = 10 ∨ n / 32 = 11 ∨ n / 32 = 12 ∨ n / 32 = 13 ∨ n / 32 = 14 ∨ n / 32 = 15 := by omega
  rcases hc with h | h | h | h | h | h | h | h | h | h | h | h | h | h | h | h
  · exact key 0 h fun i hi => range_get mm8_0 hi
  · exact key 1 h fun i hi => range_get mm8_1 hi
  · exact key 2 h fun i hi => range_get mm8_2 hi
  · exact key 3 h fun i hi => range_get mm8_3 hi
  · exact key 4 h fun i hi => range_get mm8_4 hi
  · exact key 5 h fun i hi => range_get mm8_5 hi
  · exact key 6 h fun i hi => range_get mm8_6 hi
  · exact key 7 h fun i hi => range_get mm8_7 hi
  · exact key 8 h fun i hi => range_get mm8_8 hi
  · exact key 9 h fun i hi => range_get mm8_9 hi
  · exact key 10 h fun i hi => range_get mm8_10 hi
  · exact key 11 h fun i hi => range_get mm8_11 hi
  · exact key 12 h fun i hi => range_get mm8_12 hi
  · exact key 13 h fun i hi => range_get mm8_13 hi
  · exact key 14 h fun i hi => range_get mm8_14 hi
  · exact key 15 h fun i hi => range_get mm8_15 hi
theorem mm10 : sxs P qMM noF 300 (flat BMM) (pL 0).st (kM fun _ => pL 0) = some tMMexit := by kernel_rfl
theorem mm11 : sxs P qMM noF 300 ((flat bodyMM).drop 7) (pL 0).st (kR P fnMM) = some tMMend := by kernel_rfl
theorem cMm : MmC P 85 := mmC_of mixed num qMM_ok (noF_p P) mm1 mm2 mm3 mm4 mm5 mm6 mm8 mm10 mm11
end Go.Sx.D
