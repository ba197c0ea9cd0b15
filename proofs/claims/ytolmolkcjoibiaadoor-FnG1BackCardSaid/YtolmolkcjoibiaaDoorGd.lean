import Derived.Test.YtolmolkcjoibiaaDoorNd
import Derived.Test.YtolmolkcjoibiaaDoorSk
import Derived.Test.YtolmolkcjoibiaaDoorTie
import Derived.Test.YtolmolkcjoibiaaDoorCards
import Derived.LaidMore
/- Aids to the claim: what is shown here is said at each theorem. -/
namespace Go.Proofs.YtolmolkcjoibiaaDoor
open Go Go.Sx
set_option maxRecDepth 100000
abbrev laidE : List (String × DataW Unit) := [("loop.example/pub-g03346/pub/gnarkcrypto/ecc/bn254/fp.errInvalidEncoding", Rows.laid_loop_example_pub_g03346_pub_gnarkcrypto_ecc_bn254_fp_errInvalidEncoding)]
theorem own : ownKnob Tryd.prog.godebug = none := by kernel_rfl
theorem gErr : Tryd.prog.globalNamed "loop.example/pub-g03346/pub/gnarkcrypto/ecc/bn254/fp.errInvalidEncoding" = some 0 := by kernel_rfl
theorem tErr : (Tryd.prog.globals[0]?).map (·.type) = some 87 := by kernel_rfl
theorem door_met (os : Os) (args : Array Value) : laidMetH Tryd.prog laidE ((World.doorLaid Tryd.prog 400 os).forCall (fun _ _ => 0) ⟨#[], args, []⟩).memory :=
  laidMetH_of_parts3 (fuel := 8) (laidMet_of_run' 8 (by kernel_rfl) (by kernel_rfl)) (by kernel_rfl) (by kernel_rfl)
theorem boolT : Tryd.prog.underlying 4 = some .bool := by kernel_rfl
theorem ifaceB : (match Tryd.prog.underlying 87 with | some (.interface _) => true | _ => false) = true := by kernel_rfl
theorem errIface : ∀ n ∈ ["loop.example/pub-g03346/pub/gnarkcrypto/ecc/bn254/fp.errInvalidEncoding"], ∀ g t, Tryd.prog.globalNamed n = some g → (Tryd.prog.globals[g]?).map (·.type) = some t → ∃ ms, Tryd.prog.underlying t = some (.interface ms) := by
  intro n hn g t hg ht
  simp only [List.mem_singleton] at hn
  subst hn
  obtain rfl := Option.some.inj (gErr.symm.trans hg)
  obtain rfl := Option.some.inj (tErr.symm.trans ht)
  have := ifaceB
  split at this
  · rename_i ms h; exact ⟨ms, h⟩
  · cases this
end Go.Proofs.YtolmolkcjoibiaaDoor
