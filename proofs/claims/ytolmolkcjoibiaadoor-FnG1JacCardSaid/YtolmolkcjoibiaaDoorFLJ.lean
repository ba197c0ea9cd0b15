import Derived.Test.YtolmolkcjoibiaaDoorCLJ
import Derived.Test.YtolmolkcjoibiaaDoorGd
/- The law FnG1Jac: at every two pairs of numbers it answers true (sums, differences, mixed sums and doubles by three coordinates are those of the reference); the arguments read as before. No condition of ours; the listed variable is tied to the program's text. -/
namespace Go.Proofs.YtolmolkcjoibiaaDoor
open Go Go.Sx Go.ChangeShapes Go.WideShapes Go.ChangeAt Go.RowKit
set_option maxRecDepth 100000
def fnG1Jac_args : Array Value := #[.agg #[.int .u64 0, .int .u64 0, .int .u64 0, .int .u64 0, .int .u64 0, .int .u64 0, .int .u64 0, .int .u64 0], .agg #[.int .u64 0, .int .u64 0, .int .u64 0, .int .u64 0, .int .u64 0, .int .u64 0, .int .u64 0, .int .u64 0]]
noncomputable def fnG1Jac_body : Code := Tryd.f12.body.getD .skip
theorem fnG1Jac_lifted (os : Os) (started : os.Started) (H : Type) (enc : TypeId × Value → H) :
    ReturnsInHanded {} Tryd.checked os 12 .any (fun w args => (Rows.fnG1JacSpec.pre enc Tryd.prog Tryd.f12 [] false w args ∧ laidMetH Tryd.prog laidE w) ∧ sizedMet enc Tryd.prog Tryd.f12 (OpenSpec.ofChange Rows.fnG1JacSpec) false w args)
      (Rows.fnG1JacSpec.post enc Tryd.prog Tryd.f12 false true false false) := by
  refine returnsInHanded_of_change_and (C := Tryd.checked) (X := fun w _ => laidMetH Tryd.prog laidE w) (fun _ _ _ hh h => h.of_heap hh) own started (by kernel_rfl) Tryd.func12
    (ChangeSpec.witness_shaped (enc := enc) (C := Tryd.checked) (os := os) (X := fun w _ => laidMetH Tryd.prog laidE w) false (World.doorLaid Tryd.prog 400 os) fnG1Jac_args 12 rfl (World.shaped_of_RefB (by kernel_rfl) (by kernel_rfl)) (by kernel_rfl) (by kernel_rfl) (by kernel_rfl) (door_met os _)) ?_
  intro W base args ds gs before hval hW _ _ _ _
  exact law_contract (kss := [kind4 2, kind4 2]) (fn := Tryd.f12) (body := fnG1Jac_body) Go.Sx.D.num Tryd.func12 (by kernel_rfl) (by kernel_rfl) (by kernel_rfl) (by kernel_rfl) boolT errIface
    (fun ds gs h1 h2 => by
      have h1 : ds.length = 2 := h1.trans (by kernel_rfl)
      have h2 : gs.length = 1 := h2
      match ds, gs, h1, h2 with
      | [d1, d2], [g1], _, _ => rfl)
    (fun vss hv w => co_fits (sh := [2, 2]) Go.Sx.D.lawJac vss hv w) W base args ds gs before hval hW
theorem fnG1Jac_said : Rows.FnG1JacSaid :=
  OpenClaim.holds_of_wide 12 Tryd.f12 rfl rfl rfl rfl rfl rfl rfl ⟨rfl, rfl, rfl, rfl, rfl⟩ rfl rfl rfl rfl rfl (by kernel_rfl) Tryd.func12 (by kernel_rfl)
    (of_decide_eq_true (by kernel_rfl)) (by unfold Func.isWrapper; rw [if_neg (of_decide_eq_false (by kernel_rfl))]; exact ⟨rfl, rfl⟩)
    (fun os started H enc _ => fnG1Jac_lifted os started H enc)
theorem fnG1Jac_holds : Rows.FnG1JacCardSaid :=
  Claim7.holds_tied_plain_at .later [] [.sentinel] true (true, "c66df10eeca9866c13f6b0dd719f147ca1fa4932f0636794f013b7494a087ea4") false
    fnG1Jac_said (fun _ h => by cases h) (by kernel_rfl) (fun _ h => by cases h) fnG1Jac_row_tie rfl ⟨rfl, rfl⟩ (by kernel_rfl) rfl
    (fun f fn hf hfn => by
      obtain rfl : f = 12 := Option.some.inj ((show Tryd.prog.funcNamed "loop.example/pub-g03346/laws.FnG1Jac" = some 12 by kernel_rfl).symm.trans hf) |>.symm
      obtain rfl : fn = Tryd.f12 := (Option.some.inj (Tryd.func12.symm.trans hfn)).symm
      exact ⟨by kernel_rfl, fun j t ht => by
        rw [Tryd.params12] at ht
        have hm : t ∈ [25, 25] := by simpa using Array.mem_of_getElem? ht
        have hall : ([25, 25].all fun u => !Tryd.prog.wantsStandIn u) = true := by kernel_rfl
        exact (show Tryd.prog.wantsStandIn t = false by simpa using List.all_eq_true.1 hall t hm)⟩)
    (by kernel_rfl)
end Go.Proofs.YtolmolkcjoibiaaDoor
