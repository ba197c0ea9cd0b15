import Derived.Test.YtolmolkcjoibiaaDoorProg
import Derived.Test.YtolmolkcjoibiaaDoorSf
/- Aids to the claim: what is shown here is said at each theorem. -/
namespace Go.Sx.D
open Go Go.Proofs Go.Sx
set_option maxRecDepth 100000
noncomputable abbrev P : Program := Tryd.prog
theorem mixed : P.follows .mixedOrders = true := by kernel_rfl
theorem names : (P.funcs.toList.all fun f => !(f.name == "runtime.NumGoroutine")) = true := by kernel_rfl
theorem num : NumOk P := fun f fn h => by
  have := List.all_eq_true.1 names fn (Array.mem_toList_iff.2 (Array.mem_of_getElem? h))
  simpa using this
theorem add64 : AddC P 113 := addC_of (fn := P.funcs[113]!) (by kernel_rfl) (by kernel_rfl) (by kernel_rfl) (by kernel_rfl) (by kernel_rfl)
theorem sub64 : SubC P 115 := subC_of (fn := P.funcs[115]!) (by kernel_rfl) (by kernel_rfl) (by kernel_rfl) (by kernel_rfl) (by kernel_rfl)
end Go.Sx.D
