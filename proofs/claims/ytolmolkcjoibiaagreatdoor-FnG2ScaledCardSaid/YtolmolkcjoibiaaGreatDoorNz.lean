import Derived.Test.YtolmolkcjoibiaaGreatDoorProg
import Derived.Test.YtolmolkcjoibiaaGreatDoorSf
/- Aids to the claim: what is shown here is said at each theorem. -/
namespace Go.Sx.Z
open Go Go.Proofs Go.Sx
set_option maxRecDepth 100000
noncomputable abbrev P : Program := Tryz.prog
theorem mixed : P.follows .mixedOrders = true := by kernel_rfl
theorem names : (P.funcs.toList.all fun f => !(f.name == "runtime.NumGoroutine")) = true := by kernel_rfl
theorem num : NumOk P := fun f fn h => by
  have := List.all_eq_true.1 names fn (Array.mem_toList_iff.2 (Array.mem_of_getElem? h))
  simpa using this
theorem add64 : AddC P 69 := addC_of (fn := P.funcs[69]!) (by kernel_rfl) (by kernel_rfl) (by kernel_rfl) (by kernel_rfl) (by kernel_rfl)
theorem sub64 : SubC P 71 := subC_of (fn := P.funcs[71]!) (by kernel_rfl) (by kernel_rfl) (by kernel_rfl) (by kernel_rfl) (by kernel_rfl)
end Go.Sx.Z
