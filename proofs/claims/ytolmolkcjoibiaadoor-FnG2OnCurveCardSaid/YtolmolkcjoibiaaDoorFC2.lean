import Derived.Test.YtolmolkcjoibiaaDoorCC2
import Derived.Test.YtolmolkcjoibiaaDoorGd
/- The law FnG2OnCurve: at every four numbers it answers true (below the prime, and not all 0, they are told to be a point of the second curve just if they fit its equation); the argument reads as before. No condition of ours; the listed variable is tied to the program's text. -/
namespace Go.Proofs.YtolmolkcjoibiaaDoor
open Go Go.Sx Go.ChangeShapes Go.WideShapes Go.ChangeAt Go.RowKit
set_option maxRecDepth 100000
def fnG2OnCurve_args : Array Value := #[.agg #[.int .u64 0, .int .u64 0, .int .u64 0, .int .u64 0, .int .u64 0, .int .u64 0, .int .u64 0, .int .u64 0, .int .u64 0, .int .u64 0, .int .u64 0, .int .u64 0, .int .u64 0, .int .u64 0, .int .u64 0, .int .u64 0]]
noncomputable def fnG2OnCurve_body : Code := Tryd.f6.body.getD .skip
theorem fnG2OnCurve_lifted (os : Os) (started : os.Started) (H : Type) (enc : TypeId × Value → H) :
    ReturnsInHanded {} Tryd.checked os 6 .any (fun w args => (Rows.fnG2OnCurveSpec.pre enc Tryd.prog Tryd.f6 [] false w args ∧ laidMetH Tryd.prog laidE w) ∧ sizedMet enc Tryd.prog Tryd.f6 (OpenSpec.ofChange Rows.fnG2OnCurveSpec) false w args)
      (Rows.fnG2OnCurveSpec.post enc Tryd.prog Tryd.f6 false true false false) := by
  refine returnsInHanded_of_change_and (C := Tryd.checked) (X := fun w _ => laidMetH Tryd.prog laidE w) (fun _ _ _ hh h => h.of_heap hh) own started (by kernel_rfl) Tryd.func6
    (ChangeSpec.witness_shaped (enc := enc) (C := Tryd.checked) (os := os) (X := fun w _ => laidMetH Tryd.prog laidE w) false (World.doorLaid Tryd.prog 400 os) fnG2OnCurve_args 12 rfl (World.shaped_of_RefB (by kernel_rfl) (by kernel_rfl)) (by kernel_rfl) (by kernel_rfl) (by kernel_rfl) (door_met os _)) ?_
  intro W base args ds gs before hval hW _ _ _ _
  exact law_contract (kss := [kind4 4]) (fn := Tryd.f6) (body := fnG2OnCurve_body) Go.Sx.D.num Tryd.func6 (by kernel_rfl) (by kernel_rfl) (by kernel_rfl) (by kernel_rfl) boolT errIface
    (fun ds gs h1 h2 => by
      have h1 : ds.length = 1 := h1.trans (by kernel_rfl)
      have h2 : gs.length = 1 := h2
      match ds, gs, h1, h2 with
      | [d1], [g1], _, _ => rfl)
    (fun vss hv w => co_fits (sh := [4]) Go.Sx.D.lawCv vss hv w) W base args ds gs before hval hW
theorem fnG2OnCurve_said : Rows.FnG2OnCurveSaid :=
  OpenClaim.holds_of_wide 6 Tryd.f6 rfl rfl rfl rfl rfl rfl rfl ⟨rfl, rfl, rfl, rfl, rfl⟩ rfl rfl rfl rfl rfl (by kernel_rfl) Tryd.func6 (by kernel_rfl)
    (of_decide_eq_true (by kernel_rfl)) (by unfold Func.isWrapper; rw [if_neg (of_decide_eq_false (by kernel_rfl))]; exact ⟨rfl, rfl⟩)
    (fun os started H enc _ => fnG2OnCurve_lifted os started H enc)
theorem fnG2OnCurve_holds : Rows.FnG2OnCurveCardSaid :=
  Claim7.holds_tied_plain_at .later [] [.sentinel] true (true, "c66df10eeca9866c13f6b0dd719f147ca1fa4932f0636794f013b7494a087ea4") false
    fnG2OnCurve_said (fun _ h => by cases h) (by kernel_rfl) (fun _ h => by cases h) fnG2OnCurve_row_tie rfl ⟨rfl, rfl⟩ (by kernel_rfl) rfl
    (fun f fn hf hfn => by
      obtain rfl : f = 6 := Option.some.inj ((show Tryd.prog.funcNamed "loop.example/pub-g03346/laws.FnG2OnCurve" = some 6 by kernel_rfl).symm.trans hf) |>.symm
      obtain rfl : fn = Tryd.f6 := (Option.some.inj (Tryd.func6.symm.trans hfn)).symm
      exact ⟨by kernel_rfl, fun j t ht => by
        rw [Tryd.params6] at ht
        have hm : t ∈ [33] := by simpa using Array.mem_of_getElem? ht
        have hall : ([33].all fun u => !Tryd.prog.wantsStandIn u) = true := by kernel_rfl
        exact (show Tryd.prog.wantsStandIn t = false by simpa using List.all_eq_true.1 hall t hm)⟩)
    (by kernel_rfl)
end Go.Proofs.YtolmolkcjoibiaaDoor
