/-
  NARROWER THAN 'FOR EVERY INPUT', by the rows' own cells (each row's printed sentence says how): FnG2Double: ifaces, laid · FnG2Add: ifaces, laid · FnG2Scaled: ifaces, laid · FnG2Jac: ifaces, laid.
  DERIVED. THE GIVEN ROWS OF THIS SEAT. 4 by the template 'for every input the law returns true; each argument reads behind the call as it read before'; 0 by the template 'total and deterministic' (their statements: YtolmolkcjoibiaaGreatDoorTotals.lean).
  GIVEN WITH THE SEED: the statements are not yours to turn. If you find one false, say at which input.
  Laid BY PROGRAM, IN A SANDBOX (cutbox-rows.mjs): the forced cells as the released guide's own fill.sh prints them over the translation 19a0b55c4767635a… (all of the seat's roots in one cut). By AI agents, Wed Nov 11 2026. No macro, syntax, notation, axiom, sorry.
-/
import Derived.Test.YtolmolkcjoibiaaGreatDoorChecked
import GoSem.Claim
import GoSem.ClaimJoined
import GoSem.ClaimMapViews
import Derived.JoinedTies
import Derived.KernelRfl
namespace Go.Proofs.YtolmolkcjoibiaaGreatDoor
/- THE CELL 'sum', in the pinned program and in every row, IS THE sha256 OF THE DUMP (.gsa) THAT YtolmolkcjoibiaaGreatDoorProg.lean LOADS. Nothing in Lean hashes anything: it is a label: what it is worth is what the hold of that sum in a sandbox is worth. -/
noncomputable def Tryz.pinned : Pinned := { name := "ytolmolkcjoibiaagreatdoor", sum := "19a0b55c4767635a57c884ce7a55c8d329bd07ddb6a9cd9abd1e878086d50802", checked := Tryz.checked }
namespace Rows
def none {H : Type} : Left H := { results := [], args := [] }

/- WHAT THE LISTED PACKAGE-LEVEL VARIABLES READ AS WHEN THE CALL BEGINS. Each datum BY PROGRAM (the guide's laid-datum.mjs) off the statement by which the dump's own 'gosem.cut.vars' lays the variable. In a bare row this is a premise. The card (YtolmolkcjoibiaaGreatDoorCards.lean) ties it to the program's text. -/
def laid_loop_example_pub_g03346_pub_gnarkcrypto_ecc_bn254_fp_errInvalidEncoding {H : Type} : DataW H := .iface "*errors.errorString" (.ptr (.agg [.lit (.string [105, 110, 118, 97, 108, 105, 100, 32, 102, 112, 46, 69, 108, 101, 109, 101, 110, 116, 32, 101, 110, 99, 111, 100, 105, 110, 103])]))

/-- 'laws.FnG2Double': WHATEVER THE INPUT: true; the input reads as it did. -/
def fnG2DoubleSpec : ChangeSpec := { name := "fnG2Double", vars := ["loop.example/pub-g03346/pub/gnarkcrypto/ecc/bn254/fp.errInvalidEncoding"], fn := fun _ => fun
  | [d, g1] => { results := [.lit (.bool true)], args := [d], vars := [g1] }
  | _ => none }
def fnG2DoubleRow : OpenClaim := { program := "ytolmolkcjoibiaagreatdoor", sum := "19a0b55c4767635a57c884ce7a55c8d329bd07ddb6a9cd9abd1e878086d50802", func := "loop.example/pub-g03346/laws.FnG2Double", spec := "fnG2Double", inPlace := ["math/bits.Add64", "math/bits.Sub64"], named := ["loop.example/pub-g03346/pub/gnarkcrypto/ecc/bn254/fp.errInvalidEncoding"], ifaces := true, apart := false, laid := [("loop.example/pub-g03346/pub/gnarkcrypto/ecc/bn254/fp.errInvalidEncoding", laid_loop_example_pub_g03346_pub_gnarkcrypto_ecc_bn254_fp_errInvalidEncoding)] }
def FnG2DoubleSaid : Prop := fnG2DoubleRow.holds Tryz.pinned (OpenSpec.ofChange fnG2DoubleSpec)

/-- ITS FALSE NEIGHBOUR: 'it returns false'. Refute it at one input. -/
def fnG2DoubleWrong : ChangeSpec := { name := "fnG2Double", vars := ["loop.example/pub-g03346/pub/gnarkcrypto/ecc/bn254/fp.errInvalidEncoding"], fn := fun _ => fun
  | [d, g1] => { results := [.lit (.bool false)], args := [d], vars := [g1] }
  | _ => none }
def FnG2DoubleWrongFalsely : Prop := fnG2DoubleRow.holds Tryz.pinned (OpenSpec.ofChange fnG2DoubleWrong)

/-- 'laws.FnG2Add': WHATEVER THE INPUT: true; the input reads as it did. -/
def fnG2AddSpec : ChangeSpec := { name := "fnG2Add", vars := ["loop.example/pub-g03346/pub/gnarkcrypto/ecc/bn254/fp.errInvalidEncoding"], fn := fun _ => fun
  | [d1, d2, g1] => { results := [.lit (.bool true)], args := [d1, d2], vars := [g1] }
  | _ => none }
def fnG2AddRow : OpenClaim := { program := "ytolmolkcjoibiaagreatdoor", sum := "19a0b55c4767635a57c884ce7a55c8d329bd07ddb6a9cd9abd1e878086d50802", func := "loop.example/pub-g03346/laws.FnG2Add", spec := "fnG2Add", inPlace := ["math/bits.Add64", "math/bits.Sub64"], named := ["loop.example/pub-g03346/pub/gnarkcrypto/ecc/bn254/fp.errInvalidEncoding"], ifaces := true, apart := false, laid := [("loop.example/pub-g03346/pub/gnarkcrypto/ecc/bn254/fp.errInvalidEncoding", laid_loop_example_pub_g03346_pub_gnarkcrypto_ecc_bn254_fp_errInvalidEncoding)] }
def FnG2AddSaid : Prop := fnG2AddRow.holds Tryz.pinned (OpenSpec.ofChange fnG2AddSpec)

/-- ITS FALSE NEIGHBOUR: 'it returns false'. Refute it at one input. -/
def fnG2AddWrong : ChangeSpec := { name := "fnG2Add", vars := ["loop.example/pub-g03346/pub/gnarkcrypto/ecc/bn254/fp.errInvalidEncoding"], fn := fun _ => fun
  | [d1, d2, g1] => { results := [.lit (.bool false)], args := [d1, d2], vars := [g1] }
  | _ => none }
def FnG2AddWrongFalsely : Prop := fnG2AddRow.holds Tryz.pinned (OpenSpec.ofChange fnG2AddWrong)

/-- 'laws.FnG2Scaled': WHATEVER THE INPUT: true; the input reads as it did. -/
def fnG2ScaledSpec : ChangeSpec := { name := "fnG2Scaled", vars := ["loop.example/pub-g03346/pub/gnarkcrypto/ecc/bn254/fp.errInvalidEncoding"], fn := fun _ => fun
  | [d1, d2, d3, g1] => { results := [.lit (.bool true)], args := [d1, d2, d3], vars := [g1] }
  | _ => none }
def fnG2ScaledRow : OpenClaim := { program := "ytolmolkcjoibiaagreatdoor", sum := "19a0b55c4767635a57c884ce7a55c8d329bd07ddb6a9cd9abd1e878086d50802", func := "loop.example/pub-g03346/laws.FnG2Scaled", spec := "fnG2Scaled", inPlace := ["math/bits.Add64", "math/bits.Sub64"], named := ["loop.example/pub-g03346/pub/gnarkcrypto/ecc/bn254/fp.errInvalidEncoding"], ifaces := true, apart := false, laid := [("loop.example/pub-g03346/pub/gnarkcrypto/ecc/bn254/fp.errInvalidEncoding", laid_loop_example_pub_g03346_pub_gnarkcrypto_ecc_bn254_fp_errInvalidEncoding)] }
def FnG2ScaledSaid : Prop := fnG2ScaledRow.holds Tryz.pinned (OpenSpec.ofChange fnG2ScaledSpec)

/-- ITS FALSE NEIGHBOUR: 'it returns false'. Refute it at one input. -/
def fnG2ScaledWrong : ChangeSpec := { name := "fnG2Scaled", vars := ["loop.example/pub-g03346/pub/gnarkcrypto/ecc/bn254/fp.errInvalidEncoding"], fn := fun _ => fun
  | [d1, d2, d3, g1] => { results := [.lit (.bool false)], args := [d1, d2, d3], vars := [g1] }
  | _ => none }
def FnG2ScaledWrongFalsely : Prop := fnG2ScaledRow.holds Tryz.pinned (OpenSpec.ofChange fnG2ScaledWrong)

/-- 'laws.FnG2Jac': WHATEVER THE INPUT: true; the input reads as it did. -/
def fnG2JacSpec : ChangeSpec := { name := "fnG2Jac", vars := ["loop.example/pub-g03346/pub/gnarkcrypto/ecc/bn254/fp.errInvalidEncoding"], fn := fun _ => fun
  | [d1, d2, g1] => { results := [.lit (.bool true)], args := [d1, d2], vars := [g1] }
  | _ => none }
def fnG2JacRow : OpenClaim := { program := "ytolmolkcjoibiaagreatdoor", sum := "19a0b55c4767635a57c884ce7a55c8d329bd07ddb6a9cd9abd1e878086d50802", func := "loop.example/pub-g03346/laws.FnG2Jac", spec := "fnG2Jac", inPlace := ["math/bits.Add64", "math/bits.Sub64"], named := ["loop.example/pub-g03346/pub/gnarkcrypto/ecc/bn254/fp.errInvalidEncoding"], ifaces := true, apart := false, laid := [("loop.example/pub-g03346/pub/gnarkcrypto/ecc/bn254/fp.errInvalidEncoding", laid_loop_example_pub_g03346_pub_gnarkcrypto_ecc_bn254_fp_errInvalidEncoding)] }
def FnG2JacSaid : Prop := fnG2JacRow.holds Tryz.pinned (OpenSpec.ofChange fnG2JacSpec)

/-- ITS FALSE NEIGHBOUR: 'it returns false'. Refute it at one input. -/
def fnG2JacWrong : ChangeSpec := { name := "fnG2Jac", vars := ["loop.example/pub-g03346/pub/gnarkcrypto/ecc/bn254/fp.errInvalidEncoding"], fn := fun _ => fun
  | [d1, d2, g1] => { results := [.lit (.bool false)], args := [d1, d2], vars := [g1] }
  | _ => none }
def FnG2JacWrongFalsely : Prop := fnG2JacRow.holds Tryz.pinned (OpenSpec.ofChange fnG2JacWrong)

/- THE SECOND FORM. 'bulk': how many values and letters a reading holds, each counted each time it is reached (what is shared counts as often as it is met; a slice's spare places count too). A statement '..UptoSaid' is the law's where the arguments, and the package variables that the reading takes, are together of bulk at most 1048576: NARROWER than '..Said'. Prove '..Said' where nothing that the law and all that it calls make is longer than what came in: it says more and counts as full. Else prove '..UptoSaid'. A law counts once. -/
mutual
def uptoBulk {H : Type} : DataW H → Nat
  | .lit (.string bytes) => bytes.length + 1
  | .lit _ => 1
  | .nil => 1
  | .ptr d => uptoBulk d + 1
  | .slice elems spare => uptoBulkAll elems + uptoBulkAll spare + 1
  | .agg parts => uptoBulkAll parts + 1
  | .iface _ d => uptoBulk d + 1
  | .map entries => uptoBulkEntries entries + 1
  | .held _ => 1
def uptoBulkAll {H : Type} : List (DataW H) → Nat
  | [] => 0
  | d :: r => uptoBulk d + uptoBulkAll r
def uptoBulkEntries {H : Type} : List (Lit × DataW H) → Nat
  | [] => 0
  | x :: r => uptoBulkEntry x + uptoBulkEntries r
def uptoBulkEntry {H : Type} : Lit × DataW H → Nat
  | (.string bytes, d) => bytes.length + uptoBulk d + 1
  | (_, d) => uptoBulk d + 1
 end
def uptoSmall : (H : Type) → List (DataW H) → Bool := fun _ ds => decide (uptoBulkAll ds ≤ 1048576)
def OpenSpec.upto (s : _root_.Go.ChangeSpec) : _root_.Go.OpenSpec := { _root_.Go.OpenSpec.ofChange s with cond := some uptoSmall }

/-- 'laws.FnG2Double', WHERE WHAT IT READS IS OF BULK AT MOST 1048576: true; the input reads as it did. -/
def fnG2DoubleUptoRow : OpenClaim := { program := "ytolmolkcjoibiaagreatdoor", sum := "19a0b55c4767635a57c884ce7a55c8d329bd07ddb6a9cd9abd1e878086d50802", func := "loop.example/pub-g03346/laws.FnG2Double", spec := "fnG2Double", inPlace := ["math/bits.Add64", "math/bits.Sub64"], named := ["loop.example/pub-g03346/pub/gnarkcrypto/ecc/bn254/fp.errInvalidEncoding"], ifaces := true, apart := false, laid := [("loop.example/pub-g03346/pub/gnarkcrypto/ecc/bn254/fp.errInvalidEncoding", laid_loop_example_pub_g03346_pub_gnarkcrypto_ecc_bn254_fp_errInvalidEncoding)], narrowed := true }
def FnG2DoubleUptoSaid : Prop := fnG2DoubleUptoRow.holds Tryz.pinned (OpenSpec.upto fnG2DoubleSpec)

/-- 'laws.FnG2Add', WHERE WHAT IT READS IS OF BULK AT MOST 1048576: true; the input reads as it did. -/
def fnG2AddUptoRow : OpenClaim := { program := "ytolmolkcjoibiaagreatdoor", sum := "19a0b55c4767635a57c884ce7a55c8d329bd07ddb6a9cd9abd1e878086d50802", func := "loop.example/pub-g03346/laws.FnG2Add", spec := "fnG2Add", inPlace := ["math/bits.Add64", "math/bits.Sub64"], named := ["loop.example/pub-g03346/pub/gnarkcrypto/ecc/bn254/fp.errInvalidEncoding"], ifaces := true, apart := false, laid := [("loop.example/pub-g03346/pub/gnarkcrypto/ecc/bn254/fp.errInvalidEncoding", laid_loop_example_pub_g03346_pub_gnarkcrypto_ecc_bn254_fp_errInvalidEncoding)], narrowed := true }
def FnG2AddUptoSaid : Prop := fnG2AddUptoRow.holds Tryz.pinned (OpenSpec.upto fnG2AddSpec)

/-- 'laws.FnG2Scaled', WHERE WHAT IT READS IS OF BULK AT MOST 1048576: true; the input reads as it did. -/
def fnG2ScaledUptoRow : OpenClaim := { program := "ytolmolkcjoibiaagreatdoor", sum := "19a0b55c4767635a57c884ce7a55c8d329bd07ddb6a9cd9abd1e878086d50802", func := "loop.example/pub-g03346/laws.FnG2Scaled", spec := "fnG2Scaled", inPlace := ["math/bits.Add64", "math/bits.Sub64"], named := ["loop.example/pub-g03346/pub/gnarkcrypto/ecc/bn254/fp.errInvalidEncoding"], ifaces := true, apart := false, laid := [("loop.example/pub-g03346/pub/gnarkcrypto/ecc/bn254/fp.errInvalidEncoding", laid_loop_example_pub_g03346_pub_gnarkcrypto_ecc_bn254_fp_errInvalidEncoding)], narrowed := true }
def FnG2ScaledUptoSaid : Prop := fnG2ScaledUptoRow.holds Tryz.pinned (OpenSpec.upto fnG2ScaledSpec)

/-- 'laws.FnG2Jac', WHERE WHAT IT READS IS OF BULK AT MOST 1048576: true; the input reads as it did. -/
def fnG2JacUptoRow : OpenClaim := { program := "ytolmolkcjoibiaagreatdoor", sum := "19a0b55c4767635a57c884ce7a55c8d329bd07ddb6a9cd9abd1e878086d50802", func := "loop.example/pub-g03346/laws.FnG2Jac", spec := "fnG2Jac", inPlace := ["math/bits.Add64", "math/bits.Sub64"], named := ["loop.example/pub-g03346/pub/gnarkcrypto/ecc/bn254/fp.errInvalidEncoding"], ifaces := true, apart := false, laid := [("loop.example/pub-g03346/pub/gnarkcrypto/ecc/bn254/fp.errInvalidEncoding", laid_loop_example_pub_g03346_pub_gnarkcrypto_ecc_bn254_fp_errInvalidEncoding)], narrowed := true }
def FnG2JacUptoSaid : Prop := fnG2JacUptoRow.holds Tryz.pinned (OpenSpec.upto fnG2JacSpec)

end Rows
end Go.Proofs.YtolmolkcjoibiaaGreatDoor
