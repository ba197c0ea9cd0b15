/-
  NARROWER THAN 'FOR EVERY INPUT', by the rows' own cells (each row's printed sentence says how): FnG1Equal: ifaces, laid · FnG2Equal: ifaces, laid · FnG1OnCurve: ifaces, laid · FnG2OnCurve: ifaces, laid · FnG1Double: ifaces, laid · FnG1Back: ifaces, laid · FnG1Parse: ifaces, laid · FnG1Add: ifaces, laid · FnG1Scaled: ifaces, laid · FnG1Jac: ifaces, laid.
  DERIVED. THE GIVEN ROWS OF THIS SEAT. 10 by the template 'for every input the law returns true; each argument reads behind the call as it read before'; 0 by the template 'total and deterministic' (their statements: YtolmolkcjoibiaaDoorTotals.lean).
  GIVEN WITH THE SEED: the statements are not yours to turn. If you find one false, say at which input.
  Laid BY PROGRAM, IN A SANDBOX (cutbox-rows.mjs): the forced cells as the released guide's own fill.sh prints them over the translation 7da0948cdd79380d… (all of the seat's roots in one cut). By AI agents, Wed Nov 11 2026. No macro, syntax, notation, axiom, sorry.
-/
import Derived.Test.YtolmolkcjoibiaaDoorChecked
import GoSem.Claim
import GoSem.ClaimJoined
import GoSem.ClaimMapViews
import Derived.JoinedTies
import Derived.KernelRfl
namespace Go.Proofs.YtolmolkcjoibiaaDoor
/- THE CELL 'sum', in the pinned program and in every row, IS THE sha256 OF THE DUMP (.gsa) THAT YtolmolkcjoibiaaDoorProg.lean LOADS. Nothing in Lean hashes anything: it is a label: what it is worth is what the hold of that sum in a sandbox is worth. -/
noncomputable def Tryd.pinned : Pinned := { name := "ytolmolkcjoibiaadoor", sum := "7da0948cdd79380d6fd9f73b6324f61c8c74fd94fc95bb2dc210c7ffaa77f385", checked := Tryd.checked }
namespace Rows
def none {H : Type} : Left H := { results := [], args := [] }

/- WHAT THE LISTED PACKAGE-LEVEL VARIABLES READ AS WHEN THE CALL BEGINS. Each datum BY PROGRAM (the guide's laid-datum.mjs) off the statement by which the dump's own 'gosem.cut.vars' lays the variable. In a bare row this is a premise. The card (YtolmolkcjoibiaaDoorCards.lean) ties it to the program's text. -/
def laid_loop_example_pub_g03346_pub_gnarkcrypto_ecc_bn254_fp_errInvalidEncoding {H : Type} : DataW H := .iface "*errors.errorString" (.ptr (.agg [.lit (.string [105, 110, 118, 97, 108, 105, 100, 32, 102, 112, 46, 69, 108, 101, 109, 101, 110, 116, 32, 101, 110, 99, 111, 100, 105, 110, 103])]))

/-- 'laws.FnG1Equal': WHATEVER THE INPUT: true; the input reads as it did. -/
def fnG1EqualSpec : ChangeSpec := { name := "fnG1Equal", vars := ["loop.example/pub-g03346/pub/gnarkcrypto/ecc/bn254/fp.errInvalidEncoding"], fn := fun _ => fun
  | [d1, d2, g1] => { results := [.lit (.bool true)], args := [d1, d2], vars := [g1] }
  | _ => none }
def fnG1EqualRow : OpenClaim := { program := "ytolmolkcjoibiaadoor", sum := "7da0948cdd79380d6fd9f73b6324f61c8c74fd94fc95bb2dc210c7ffaa77f385", func := "loop.example/pub-g03346/laws.FnG1Equal", spec := "fnG1Equal", inPlace := ["math/bits.Add64", "math/bits.Sub64"], named := ["loop.example/pub-g03346/pub/gnarkcrypto/ecc/bn254/fp.errInvalidEncoding"], ifaces := true, apart := false, laid := [("loop.example/pub-g03346/pub/gnarkcrypto/ecc/bn254/fp.errInvalidEncoding", laid_loop_example_pub_g03346_pub_gnarkcrypto_ecc_bn254_fp_errInvalidEncoding)] }
def FnG1EqualSaid : Prop := fnG1EqualRow.holds Tryd.pinned (OpenSpec.ofChange fnG1EqualSpec)

/-- ITS FALSE NEIGHBOUR: 'it returns false'. Refute it at one input. -/
def fnG1EqualWrong : ChangeSpec := { name := "fnG1Equal", vars := ["loop.example/pub-g03346/pub/gnarkcrypto/ecc/bn254/fp.errInvalidEncoding"], fn := fun _ => fun
  | [d1, d2, g1] => { results := [.lit (.bool false)], args := [d1, d2], vars := [g1] }
  | _ => none }
def FnG1EqualWrongFalsely : Prop := fnG1EqualRow.holds Tryd.pinned (OpenSpec.ofChange fnG1EqualWrong)

/-- 'laws.FnG2Equal': WHATEVER THE INPUT: true; the input reads as it did. -/
def fnG2EqualSpec : ChangeSpec := { name := "fnG2Equal", vars := ["loop.example/pub-g03346/pub/gnarkcrypto/ecc/bn254/fp.errInvalidEncoding"], fn := fun _ => fun
  | [d1, d2, g1] => { results := [.lit (.bool true)], args := [d1, d2], vars := [g1] }
  | _ => none }
def fnG2EqualRow : OpenClaim := { program := "ytolmolkcjoibiaadoor", sum := "7da0948cdd79380d6fd9f73b6324f61c8c74fd94fc95bb2dc210c7ffaa77f385", func := "loop.example/pub-g03346/laws.FnG2Equal", spec := "fnG2Equal", inPlace := ["math/bits.Add64", "math/bits.Sub64"], named := ["loop.example/pub-g03346/pub/gnarkcrypto/ecc/bn254/fp.errInvalidEncoding"], ifaces := true, apart := false, laid := [("loop.example/pub-g03346/pub/gnarkcrypto/ecc/bn254/fp.errInvalidEncoding", laid_loop_example_pub_g03346_pub_gnarkcrypto_ecc_bn254_fp_errInvalidEncoding)] }
def FnG2EqualSaid : Prop := fnG2EqualRow.holds Tryd.pinned (OpenSpec.ofChange fnG2EqualSpec)

/-- ITS FALSE NEIGHBOUR: 'it returns false'. Refute it at one input. -/
def fnG2EqualWrong : ChangeSpec := { name := "fnG2Equal", vars := ["loop.example/pub-g03346/pub/gnarkcrypto/ecc/bn254/fp.errInvalidEncoding"], fn := fun _ => fun
  | [d1, d2, g1] => { results := [.lit (.bool false)], args := [d1, d2], vars := [g1] }
  | _ => none }
def FnG2EqualWrongFalsely : Prop := fnG2EqualRow.holds Tryd.pinned (OpenSpec.ofChange fnG2EqualWrong)

/-- 'laws.FnG1OnCurve': WHATEVER THE INPUT: true; the input reads as it did. -/
def fnG1OnCurveSpec : ChangeSpec := { name := "fnG1OnCurve", vars := ["loop.example/pub-g03346/pub/gnarkcrypto/ecc/bn254/fp.errInvalidEncoding"], fn := fun _ => fun
  | [d, g1] => { results := [.lit (.bool true)], args := [d], vars := [g1] }
  | _ => none }
def fnG1OnCurveRow : OpenClaim := { program := "ytolmolkcjoibiaadoor", sum := "7da0948cdd79380d6fd9f73b6324f61c8c74fd94fc95bb2dc210c7ffaa77f385", func := "loop.example/pub-g03346/laws.FnG1OnCurve", spec := "fnG1OnCurve", inPlace := ["math/bits.Add64", "math/bits.Sub64"], named := ["loop.example/pub-g03346/pub/gnarkcrypto/ecc/bn254/fp.errInvalidEncoding"], ifaces := true, apart := false, laid := [("loop.example/pub-g03346/pub/gnarkcrypto/ecc/bn254/fp.errInvalidEncoding", laid_loop_example_pub_g03346_pub_gnarkcrypto_ecc_bn254_fp_errInvalidEncoding)] }
def FnG1OnCurveSaid : Prop := fnG1OnCurveRow.holds Tryd.pinned (OpenSpec.ofChange fnG1OnCurveSpec)

/-- ITS FALSE NEIGHBOUR: 'it returns false'. Refute it at one input. -/
def fnG1OnCurveWrong : ChangeSpec := { name := "fnG1OnCurve", vars := ["loop.example/pub-g03346/pub/gnarkcrypto/ecc/bn254/fp.errInvalidEncoding"], fn := fun _ => fun
  | [d, g1] => { results := [.lit (.bool false)], args := [d], vars := [g1] }
  | _ => none }
def FnG1OnCurveWrongFalsely : Prop := fnG1OnCurveRow.holds Tryd.pinned (OpenSpec.ofChange fnG1OnCurveWrong)

/-- 'laws.FnG2OnCurve': WHATEVER THE INPUT: true; the input reads as it did. -/
def fnG2OnCurveSpec : ChangeSpec := { name := "fnG2OnCurve", vars := ["loop.example/pub-g03346/pub/gnarkcrypto/ecc/bn254/fp.errInvalidEncoding"], fn := fun _ => fun
  | [d, g1] => { results := [.lit (.bool true)], args := [d], vars := [g1] }
  | _ => none }
def fnG2OnCurveRow : OpenClaim := { program := "ytolmolkcjoibiaadoor", sum := "7da0948cdd79380d6fd9f73b6324f61c8c74fd94fc95bb2dc210c7ffaa77f385", func := "loop.example/pub-g03346/laws.FnG2OnCurve", spec := "fnG2OnCurve", inPlace := ["math/bits.Add64", "math/bits.Sub64"], named := ["loop.example/pub-g03346/pub/gnarkcrypto/ecc/bn254/fp.errInvalidEncoding"], ifaces := true, apart := false, laid := [("loop.example/pub-g03346/pub/gnarkcrypto/ecc/bn254/fp.errInvalidEncoding", laid_loop_example_pub_g03346_pub_gnarkcrypto_ecc_bn254_fp_errInvalidEncoding)] }
def FnG2OnCurveSaid : Prop := fnG2OnCurveRow.holds Tryd.pinned (OpenSpec.ofChange fnG2OnCurveSpec)

/-- ITS FALSE NEIGHBOUR: 'it returns false'. Refute it at one input. -/
def fnG2OnCurveWrong : ChangeSpec := { name := "fnG2OnCurve", vars := ["loop.example/pub-g03346/pub/gnarkcrypto/ecc/bn254/fp.errInvalidEncoding"], fn := fun _ => fun
  | [d, g1] => { results := [.lit (.bool false)], args := [d], vars := [g1] }
  | _ => none }
def FnG2OnCurveWrongFalsely : Prop := fnG2OnCurveRow.holds Tryd.pinned (OpenSpec.ofChange fnG2OnCurveWrong)

/-- 'laws.FnG1Double': WHATEVER THE INPUT: true; the input reads as it did. -/
def fnG1DoubleSpec : ChangeSpec := { name := "fnG1Double", vars := ["loop.example/pub-g03346/pub/gnarkcrypto/ecc/bn254/fp.errInvalidEncoding"], fn := fun _ => fun
  | [d, g1] => { results := [.lit (.bool true)], args := [d], vars := [g1] }
  | _ => none }
def fnG1DoubleRow : OpenClaim := { program := "ytolmolkcjoibiaadoor", sum := "7da0948cdd79380d6fd9f73b6324f61c8c74fd94fc95bb2dc210c7ffaa77f385", func := "loop.example/pub-g03346/laws.FnG1Double", spec := "fnG1Double", inPlace := ["math/bits.Add64", "math/bits.Sub64"], named := ["loop.example/pub-g03346/pub/gnarkcrypto/ecc/bn254/fp.errInvalidEncoding"], ifaces := true, apart := false, laid := [("loop.example/pub-g03346/pub/gnarkcrypto/ecc/bn254/fp.errInvalidEncoding", laid_loop_example_pub_g03346_pub_gnarkcrypto_ecc_bn254_fp_errInvalidEncoding)] }
def FnG1DoubleSaid : Prop := fnG1DoubleRow.holds Tryd.pinned (OpenSpec.ofChange fnG1DoubleSpec)

/-- ITS FALSE NEIGHBOUR: 'it returns false'. Refute it at one input. -/
def fnG1DoubleWrong : ChangeSpec := { name := "fnG1Double", vars := ["loop.example/pub-g03346/pub/gnarkcrypto/ecc/bn254/fp.errInvalidEncoding"], fn := fun _ => fun
  | [d, g1] => { results := [.lit (.bool false)], args := [d], vars := [g1] }
  | _ => none }
def FnG1DoubleWrongFalsely : Prop := fnG1DoubleRow.holds Tryd.pinned (OpenSpec.ofChange fnG1DoubleWrong)

/-- 'laws.FnG1Back': WHATEVER THE INPUT: true; the input reads as it did. -/
def fnG1BackSpec : ChangeSpec := { name := "fnG1Back", vars := ["loop.example/pub-g03346/pub/gnarkcrypto/ecc/bn254/fp.errInvalidEncoding"], fn := fun _ => fun
  | [d, g1] => { results := [.lit (.bool true)], args := [d], vars := [g1] }
  | _ => none }
def fnG1BackRow : OpenClaim := { program := "ytolmolkcjoibiaadoor", sum := "7da0948cdd79380d6fd9f73b6324f61c8c74fd94fc95bb2dc210c7ffaa77f385", func := "loop.example/pub-g03346/laws.FnG1Back", spec := "fnG1Back", inPlace := ["math/bits.Add64", "math/bits.Sub64"], named := ["loop.example/pub-g03346/pub/gnarkcrypto/ecc/bn254/fp.errInvalidEncoding"], ifaces := true, apart := false, laid := [("loop.example/pub-g03346/pub/gnarkcrypto/ecc/bn254/fp.errInvalidEncoding", laid_loop_example_pub_g03346_pub_gnarkcrypto_ecc_bn254_fp_errInvalidEncoding)] }
def FnG1BackSaid : Prop := fnG1BackRow.holds Tryd.pinned (OpenSpec.ofChange fnG1BackSpec)

/-- ITS FALSE NEIGHBOUR: 'it returns false'. Refute it at one input. -/
def fnG1BackWrong : ChangeSpec := { name := "fnG1Back", vars := ["loop.example/pub-g03346/pub/gnarkcrypto/ecc/bn254/fp.errInvalidEncoding"], fn := fun _ => fun
  | [d, g1] => { results := [.lit (.bool false)], args := [d], vars := [g1] }
  | _ => none }
def FnG1BackWrongFalsely : Prop := fnG1BackRow.holds Tryd.pinned (OpenSpec.ofChange fnG1BackWrong)

/-- 'laws.FnG1Parse': WHATEVER THE INPUT: true; the input reads as it did. -/
def fnG1ParseSpec : ChangeSpec := { name := "fnG1Parse", vars := ["loop.example/pub-g03346/pub/gnarkcrypto/ecc/bn254/fp.errInvalidEncoding"], fn := fun _ => fun
  | [d, g1] => { results := [.lit (.bool true)], args := [d], vars := [g1] }
  | _ => none }
def fnG1ParseRow : OpenClaim := { program := "ytolmolkcjoibiaadoor", sum := "7da0948cdd79380d6fd9f73b6324f61c8c74fd94fc95bb2dc210c7ffaa77f385", func := "loop.example/pub-g03346/laws.FnG1Parse", spec := "fnG1Parse", inPlace := ["math/bits.Add64", "math/bits.Sub64"], named := ["loop.example/pub-g03346/pub/gnarkcrypto/ecc/bn254/fp.errInvalidEncoding"], ifaces := true, apart := false, laid := [("loop.example/pub-g03346/pub/gnarkcrypto/ecc/bn254/fp.errInvalidEncoding", laid_loop_example_pub_g03346_pub_gnarkcrypto_ecc_bn254_fp_errInvalidEncoding)] }
def FnG1ParseSaid : Prop := fnG1ParseRow.holds Tryd.pinned (OpenSpec.ofChange fnG1ParseSpec)

/-- ITS FALSE NEIGHBOUR: 'it returns false'. Refute it at one input. -/
def fnG1ParseWrong : ChangeSpec := { name := "fnG1Parse", vars := ["loop.example/pub-g03346/pub/gnarkcrypto/ecc/bn254/fp.errInvalidEncoding"], fn := fun _ => fun
  | [d, g1] => { results := [.lit (.bool false)], args := [d], vars := [g1] }
  | _ => none }
def FnG1ParseWrongFalsely : Prop := fnG1ParseRow.holds Tryd.pinned (OpenSpec.ofChange fnG1ParseWrong)

/-- 'laws.FnG1Add': WHATEVER THE INPUT: true; the input reads as it did. -/
def fnG1AddSpec : ChangeSpec := { name := "fnG1Add", vars := ["loop.example/pub-g03346/pub/gnarkcrypto/ecc/bn254/fp.errInvalidEncoding"], fn := fun _ => fun
  | [d1, d2, g1] => { results := [.lit (.bool true)], args := [d1, d2], vars := [g1] }
  | _ => none }
def fnG1AddRow : OpenClaim := { program := "ytolmolkcjoibiaadoor", sum := "7da0948cdd79380d6fd9f73b6324f61c8c74fd94fc95bb2dc210c7ffaa77f385", func := "loop.example/pub-g03346/laws.FnG1Add", spec := "fnG1Add", inPlace := ["math/bits.Add64", "math/bits.Sub64"], named := ["loop.example/pub-g03346/pub/gnarkcrypto/ecc/bn254/fp.errInvalidEncoding"], ifaces := true, apart := false, laid := [("loop.example/pub-g03346/pub/gnarkcrypto/ecc/bn254/fp.errInvalidEncoding", laid_loop_example_pub_g03346_pub_gnarkcrypto_ecc_bn254_fp_errInvalidEncoding)] }
def FnG1AddSaid : Prop := fnG1AddRow.holds Tryd.pinned (OpenSpec.ofChange fnG1AddSpec)

/-- ITS FALSE NEIGHBOUR: 'it returns false'. Refute it at one input. -/
def fnG1AddWrong : ChangeSpec := { name := "fnG1Add", vars := ["loop.example/pub-g03346/pub/gnarkcrypto/ecc/bn254/fp.errInvalidEncoding"], fn := fun _ => fun
  | [d1, d2, g1] => { results := [.lit (.bool false)], args := [d1, d2], vars := [g1] }
  | _ => none }
def FnG1AddWrongFalsely : Prop := fnG1AddRow.holds Tryd.pinned (OpenSpec.ofChange fnG1AddWrong)

/-- 'laws.FnG1Scaled': WHATEVER THE INPUT: true; the input reads as it did. -/
def fnG1ScaledSpec : ChangeSpec := { name := "fnG1Scaled", vars := ["loop.example/pub-g03346/pub/gnarkcrypto/ecc/bn254/fp.errInvalidEncoding"], fn := fun _ => fun
  | [d1, d2, d3, g1] => { results := [.lit (.bool true)], args := [d1, d2, d3], vars := [g1] }
  | _ => none }
def fnG1ScaledRow : OpenClaim := { program := "ytolmolkcjoibiaadoor", sum := "7da0948cdd79380d6fd9f73b6324f61c8c74fd94fc95bb2dc210c7ffaa77f385", func := "loop.example/pub-g03346/laws.FnG1Scaled", spec := "fnG1Scaled", inPlace := ["math/bits.Add64", "math/bits.Sub64"], named := ["loop.example/pub-g03346/pub/gnarkcrypto/ecc/bn254/fp.errInvalidEncoding"], ifaces := true, apart := false, laid := [("loop.example/pub-g03346/pub/gnarkcrypto/ecc/bn254/fp.errInvalidEncoding", laid_loop_example_pub_g03346_pub_gnarkcrypto_ecc_bn254_fp_errInvalidEncoding)] }
def FnG1ScaledSaid : Prop := fnG1ScaledRow.holds Tryd.pinned (OpenSpec.ofChange fnG1ScaledSpec)

/-- ITS FALSE NEIGHBOUR: 'it returns false'. Refute it at one input. -/
def fnG1ScaledWrong : ChangeSpec := { name := "fnG1Scaled", vars := ["loop.example/pub-g03346/pub/gnarkcrypto/ecc/bn254/fp.errInvalidEncoding"], fn := fun _ => fun
  | [d1, d2, d3, g1] => { results := [.lit (.bool false)], args := [d1, d2, d3], vars := [g1] }
  | _ => none }
def FnG1ScaledWrongFalsely : Prop := fnG1ScaledRow.holds Tryd.pinned (OpenSpec.ofChange fnG1ScaledWrong)

/-- 'laws.FnG1Jac': WHATEVER THE INPUT: true; the input reads as it did. -/
def fnG1JacSpec : ChangeSpec := { name := "fnG1Jac", vars := ["loop.example/pub-g03346/pub/gnarkcrypto/ecc/bn254/fp.errInvalidEncoding"], fn := fun _ => fun
  | [d1, d2, g1] => { results := [.lit (.bool true)], args := [d1, d2], vars := [g1] }
  | _ => none }
def fnG1JacRow : OpenClaim := { program := "ytolmolkcjoibiaadoor", sum := "7da0948cdd79380d6fd9f73b6324f61c8c74fd94fc95bb2dc210c7ffaa77f385", func := "loop.example/pub-g03346/laws.FnG1Jac", spec := "fnG1Jac", inPlace := ["math/bits.Add64", "math/bits.Sub64"], named := ["loop.example/pub-g03346/pub/gnarkcrypto/ecc/bn254/fp.errInvalidEncoding"], ifaces := true, apart := false, laid := [("loop.example/pub-g03346/pub/gnarkcrypto/ecc/bn254/fp.errInvalidEncoding", laid_loop_example_pub_g03346_pub_gnarkcrypto_ecc_bn254_fp_errInvalidEncoding)] }
def FnG1JacSaid : Prop := fnG1JacRow.holds Tryd.pinned (OpenSpec.ofChange fnG1JacSpec)

/-- ITS FALSE NEIGHBOUR: 'it returns false'. Refute it at one input. -/
def fnG1JacWrong : ChangeSpec := { name := "fnG1Jac", vars := ["loop.example/pub-g03346/pub/gnarkcrypto/ecc/bn254/fp.errInvalidEncoding"], fn := fun _ => fun
  | [d1, d2, g1] => { results := [.lit (.bool false)], args := [d1, d2], vars := [g1] }
  | _ => none }
def FnG1JacWrongFalsely : Prop := fnG1JacRow.holds Tryd.pinned (OpenSpec.ofChange fnG1JacWrong)

/- THE SECOND FORM. 'bulk': how many values and letters a reading holds, each counted each time it is reached (what is shared counts as often as it is met; a slice's spare places count too). A statement '..UptoSaid' is the law's where the arguments, and the package variables that the reading takes, are together of bulk at most 1048576: NARROWER than '..Said'. Prove '..Said' where nothing that the law and all that it calls make is longer than what came in: it says more and counts as full. Else prove '..UptoSaid'. A law counts once. -/
mutual
def uptoBulk {H : Type} : DataW H → Nat
  | .lit (.string bytes) => bytes.length + 1
  | .lit _ => 1
  | .nil => 1
  | .ptr d => uptoBulk d + 1
  | .slice elems spare => uptoBulkAll elems + uptoBulkAll spare + 1
  | .agg parts => uptoBulkAll parts + 1
  | .iface _ d => uptoBulk d + 1
  | .map entries => uptoBulkEntries entries + 1
  | .held _ => 1
def uptoBulkAll {H : Type} : List (DataW H) → Nat
  | [] => 0
  | d :: r => uptoBulk d + uptoBulkAll r
def uptoBulkEntries {H : Type} : List (Lit × DataW H) → Nat
  | [] => 0
  | x :: r => uptoBulkEntry x + uptoBulkEntries r
def uptoBulkEntry {H : Type} : Lit × DataW H → Nat
  | (.string bytes, d) => bytes.length + uptoBulk d + 1
  | (_, d) => uptoBulk d + 1
 end
def uptoSmall : (H : Type) → List (DataW H) → Bool := fun _ ds => decide (uptoBulkAll ds ≤ 1048576)
def OpenSpec.upto (s : _root_.Go.ChangeSpec) : _root_.Go.OpenSpec := { _root_.Go.OpenSpec.ofChange s with cond := some uptoSmall }

/-- 'laws.FnG1Equal', WHERE WHAT IT READS IS OF BULK AT MOST 1048576: true; the input reads as it did. -/
def fnG1EqualUptoRow : OpenClaim := { program := "ytolmolkcjoibiaadoor", sum := "7da0948cdd79380d6fd9f73b6324f61c8c74fd94fc95bb2dc210c7ffaa77f385", func := "loop.example/pub-g03346/laws.FnG1Equal", spec := "fnG1Equal", inPlace := ["math/bits.Add64", "math/bits.Sub64"], named := ["loop.example/pub-g03346/pub/gnarkcrypto/ecc/bn254/fp.errInvalidEncoding"], ifaces := true, apart := false, laid := [("loop.example/pub-g03346/pub/gnarkcrypto/ecc/bn254/fp.errInvalidEncoding", laid_loop_example_pub_g03346_pub_gnarkcrypto_ecc_bn254_fp_errInvalidEncoding)], narrowed := true }
def FnG1EqualUptoSaid : Prop := fnG1EqualUptoRow.holds Tryd.pinned (OpenSpec.upto fnG1EqualSpec)

/-- 'laws.FnG2Equal', WHERE WHAT IT READS IS OF BULK AT MOST 1048576: true; the input reads as it did. -/
def fnG2EqualUptoRow : OpenClaim := { program := "ytolmolkcjoibiaadoor", sum := "7da0948cdd79380d6fd9f73b6324f61c8c74fd94fc95bb2dc210c7ffaa77f385", func := "loop.example/pub-g03346/laws.FnG2Equal", spec := "fnG2Equal", inPlace := ["math/bits.Add64", "math/bits.Sub64"], named := ["loop.example/pub-g03346/pub/gnarkcrypto/ecc/bn254/fp.errInvalidEncoding"], ifaces := true, apart := false, laid := [("loop.example/pub-g03346/pub/gnarkcrypto/ecc/bn254/fp.errInvalidEncoding", laid_loop_example_pub_g03346_pub_gnarkcrypto_ecc_bn254_fp_errInvalidEncoding)], narrowed := true }
def FnG2EqualUptoSaid : Prop := fnG2EqualUptoRow.holds Tryd.pinned (OpenSpec.upto fnG2EqualSpec)

/-- 'laws.FnG1OnCurve', WHERE WHAT IT READS IS OF BULK AT MOST 1048576: true; the input reads as it did. -/
def fnG1OnCurveUptoRow : OpenClaim := { program := "ytolmolkcjoibiaadoor", sum := "7da0948cdd79380d6fd9f73b6324f61c8c74fd94fc95bb2dc210c7ffaa77f385", func := "loop.example/pub-g03346/laws.FnG1OnCurve", spec := "fnG1OnCurve", inPlace := ["math/bits.Add64", "math/bits.Sub64"], named := ["loop.example/pub-g03346/pub/gnarkcrypto/ecc/bn254/fp.errInvalidEncoding"], ifaces := true, apart := false, laid := [("loop.example/pub-g03346/pub/gnarkcrypto/ecc/bn254/fp.errInvalidEncoding", laid_loop_example_pub_g03346_pub_gnarkcrypto_ecc_bn254_fp_errInvalidEncoding)], narrowed := true }
def FnG1OnCurveUptoSaid : Prop := fnG1OnCurveUptoRow.holds Tryd.pinned (OpenSpec.upto fnG1OnCurveSpec)

/-- 'laws.FnG2OnCurve', WHERE WHAT IT READS IS OF BULK AT MOST 1048576: true; the input reads as it did. -/
def fnG2OnCurveUptoRow : OpenClaim := { program := "ytolmolkcjoibiaadoor", sum := "7da0948cdd79380d6fd9f73b6324f61c8c74fd94fc95bb2dc210c7ffaa77f385", func := "loop.example/pub-g03346/laws.FnG2OnCurve", spec := "fnG2OnCurve", inPlace := ["math/bits.Add64", "math/bits.Sub64"], named := ["loop.example/pub-g03346/pub/gnarkcrypto/ecc/bn254/fp.errInvalidEncoding"], ifaces := true, apart := false, laid := [("loop.example/pub-g03346/pub/gnarkcrypto/ecc/bn254/fp.errInvalidEncoding", laid_loop_example_pub_g03346_pub_gnarkcrypto_ecc_bn254_fp_errInvalidEncoding)], narrowed := true }
def FnG2OnCurveUptoSaid : Prop := fnG2OnCurveUptoRow.holds Tryd.pinned (OpenSpec.upto fnG2OnCurveSpec)

/-- 'laws.FnG1Double', WHERE WHAT IT READS IS OF BULK AT MOST 1048576: true; the input reads as it did. -/
def fnG1DoubleUptoRow : OpenClaim := { program := "ytolmolkcjoibiaadoor", sum := "7da0948cdd79380d6fd9f73b6324f61c8c74fd94fc95bb2dc210c7ffaa77f385", func := "loop.example/pub-g03346/laws.FnG1Double", spec := "fnG1Double", inPlace := ["math/bits.Add64", "math/bits.Sub64"], named := ["loop.example/pub-g03346/pub/gnarkcrypto/ecc/bn254/fp.errInvalidEncoding"], ifaces := true, apart := false, laid := [("loop.example/pub-g03346/pub/gnarkcrypto/ecc/bn254/fp.errInvalidEncoding", laid_loop_example_pub_g03346_pub_gnarkcrypto_ecc_bn254_fp_errInvalidEncoding)], narrowed := true }
def FnG1DoubleUptoSaid : Prop := fnG1DoubleUptoRow.holds Tryd.pinned (OpenSpec.upto fnG1DoubleSpec)

/-- 'laws.FnG1Back', WHERE WHAT IT READS IS OF BULK AT MOST 1048576: true; the input reads as it did. -/
def fnG1BackUptoRow : OpenClaim := { program := "ytolmolkcjoibiaadoor", sum := "7da0948cdd79380d6fd9f73b6324f61c8c74fd94fc95bb2dc210c7ffaa77f385", func := "loop.example/pub-g03346/laws.FnG1Back", spec := "fnG1Back", inPlace := ["math/bits.Add64", "math/bits.Sub64"], named := ["loop.example/pub-g03346/pub/gnarkcrypto/ecc/bn254/fp.errInvalidEncoding"], ifaces := true, apart := false, laid := [("loop.example/pub-g03346/pub/gnarkcrypto/ecc/bn254/fp.errInvalidEncoding", laid_loop_example_pub_g03346_pub_gnarkcrypto_ecc_bn254_fp_errInvalidEncoding)], narrowed := true }
def FnG1BackUptoSaid : Prop := fnG1BackUptoRow.holds Tryd.pinned (OpenSpec.upto fnG1BackSpec)

/-- 'laws.FnG1Parse', WHERE WHAT IT READS IS OF BULK AT MOST 1048576: true; the input reads as it did. -/
def fnG1ParseUptoRow : OpenClaim := { program := "ytolmolkcjoibiaadoor", sum := "7da0948cdd79380d6fd9f73b6324f61c8c74fd94fc95bb2dc210c7ffaa77f385", func := "loop.example/pub-g03346/laws.FnG1Parse", spec := "fnG1Parse", inPlace := ["math/bits.Add64", "math/bits.Sub64"], named := ["loop.example/pub-g03346/pub/gnarkcrypto/ecc/bn254/fp.errInvalidEncoding"], ifaces := true, apart := false, laid := [("loop.example/pub-g03346/pub/gnarkcrypto/ecc/bn254/fp.errInvalidEncoding", laid_loop_example_pub_g03346_pub_gnarkcrypto_ecc_bn254_fp_errInvalidEncoding)], narrowed := true }
def FnG1ParseUptoSaid : Prop := fnG1ParseUptoRow.holds Tryd.pinned (OpenSpec.upto fnG1ParseSpec)

/-- 'laws.FnG1Add', WHERE WHAT IT READS IS OF BULK AT MOST 1048576: true; the input reads as it did. -/
def fnG1AddUptoRow : OpenClaim := { program := "ytolmolkcjoibiaadoor", sum := "7da0948cdd79380d6fd9f73b6324f61c8c74fd94fc95bb2dc210c7ffaa77f385", func := "loop.example/pub-g03346/laws.FnG1Add", spec := "fnG1Add", inPlace := ["math/bits.Add64", "math/bits.Sub64"], named := ["loop.example/pub-g03346/pub/gnarkcrypto/ecc/bn254/fp.errInvalidEncoding"], ifaces := true, apart := false, laid := [("loop.example/pub-g03346/pub/gnarkcrypto/ecc/bn254/fp.errInvalidEncoding", laid_loop_example_pub_g03346_pub_gnarkcrypto_ecc_bn254_fp_errInvalidEncoding)], narrowed := true }
def FnG1AddUptoSaid : Prop := fnG1AddUptoRow.holds Tryd.pinned (OpenSpec.upto fnG1AddSpec)

/-- 'laws.FnG1Scaled', WHERE WHAT IT READS IS OF BULK AT MOST 1048576: true; the input reads as it did. -/
def fnG1ScaledUptoRow : OpenClaim := { program := "ytolmolkcjoibiaadoor", sum := "7da0948cdd79380d6fd9f73b6324f61c8c74fd94fc95bb2dc210c7ffaa77f385", func := "loop.example/pub-g03346/laws.FnG1Scaled", spec := "fnG1Scaled", inPlace := ["math/bits.Add64", "math/bits.Sub64"], named := ["loop.example/pub-g03346/pub/gnarkcrypto/ecc/bn254/fp.errInvalidEncoding"], ifaces := true, apart := false, laid := [("loop.example/pub-g03346/pub/gnarkcrypto/ecc/bn254/fp.errInvalidEncoding", laid_loop_example_pub_g03346_pub_gnarkcrypto_ecc_bn254_fp_errInvalidEncoding)], narrowed := true }
def FnG1ScaledUptoSaid : Prop := fnG1ScaledUptoRow.holds Tryd.pinned (OpenSpec.upto fnG1ScaledSpec)

/-- 'laws.FnG1Jac', WHERE WHAT IT READS IS OF BULK AT MOST 1048576: true; the input reads as it did. -/
def fnG1JacUptoRow : OpenClaim := { program := "ytolmolkcjoibiaadoor", sum := "7da0948cdd79380d6fd9f73b6324f61c8c74fd94fc95bb2dc210c7ffaa77f385", func := "loop.example/pub-g03346/laws.FnG1Jac", spec := "fnG1Jac", inPlace := ["math/bits.Add64", "math/bits.Sub64"], named := ["loop.example/pub-g03346/pub/gnarkcrypto/ecc/bn254/fp.errInvalidEncoding"], ifaces := true, apart := false, laid := [("loop.example/pub-g03346/pub/gnarkcrypto/ecc/bn254/fp.errInvalidEncoding", laid_loop_example_pub_g03346_pub_gnarkcrypto_ecc_bn254_fp_errInvalidEncoding)], narrowed := true }
def FnG1JacUptoSaid : Prop := fnG1JacUptoRow.holds Tryd.pinned (OpenSpec.upto fnG1JacSpec)

end Rows
end Go.Proofs.YtolmolkcjoibiaaDoor
