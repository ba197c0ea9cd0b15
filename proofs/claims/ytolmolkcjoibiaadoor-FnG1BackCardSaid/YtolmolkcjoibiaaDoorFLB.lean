import Derived.Test.YtolmolkcjoibiaaDoorCLB
import Derived.Test.YtolmolkcjoibiaaDoorGe
/- The law FnG1Back: at every two numbers it answers true (a point of the first curve that is not infinity is read again from its 32 and from its 64 bytes; one byte fewer is refused); the argument reads as before. No condition of ours; the listed variable is tied to the program's text. -/
namespace Go.Proofs.YtolmolkcjoibiaaDoor
open Go Go.Sx Go.ChangeShapes Go.WideShapes Go.ChangeAt Go.RowKit
set_option maxRecDepth 100000
def fnG1Back_args : Array Value := #[.agg #[.int .u64 0, .int .u64 0, .int .u64 0, .int .u64 0, .int .u64 0, .int .u64 0, .int .u64 0, .int .u64 0]]
noncomputable def fnG1Back_body : Code := Tryd.f8.body.getD .skip
theorem fnG1Back_lifted (os : Os) (started : os.Started) (H : Type) (enc : TypeId × Value → H) :
    ReturnsInHanded {} Tryd.checked os 8 .any (fun w args => (Rows.fnG1BackSpec.pre enc Tryd.prog Tryd.f8 [] false w args ∧ laidMetH Tryd.prog laidE w) ∧ sizedMet enc Tryd.prog Tryd.f8 (OpenSpec.ofChange Rows.fnG1BackSpec) false w args)
      (Rows.fnG1BackSpec.post enc Tryd.prog Tryd.f8 false true false false) := by
  refine returnsInHanded_of_change_and (C := Tryd.checked) (X := fun w _ => laidMetH Tryd.prog laidE w) (fun _ _ _ hh h => h.of_heap hh) own started (by kernel_rfl) Tryd.func8
    (ChangeSpec.witness_shaped (enc := enc) (C := Tryd.checked) (os := os) (X := fun w _ => laidMetH Tryd.prog laidE w) false (World.doorLaid Tryd.prog 400 os) fnG1Back_args 12 rfl (World.shaped_of_RefB (by kernel_rfl) (by kernel_rfl)) (by kernel_rfl) (by kernel_rfl) (by kernel_rfl) (door_met os _)) ?_
  intro W base args ds gs before hval hW _ _ hL _
  exact law_contractW (kss := [kind4 2]) (fn := Tryd.f8) (body := fnG1Back_body) Go.Sx.D.num Tryd.func8 (by kernel_rfl) (by kernel_rfl) (by kernel_rfl) (by kernel_rfl) boolT errIface
    (fun ds gs h1 h2 => by
      have h1 : ds.length = 1 := h1.trans (by kernel_rfl)
      have h2 : gs.length = 1 := h2
      match ds, gs, h1, h2 with
      | [d1], [g1], _, _ => rfl)
    W (fun vss hv => Go.Sx.D.lawLb W (errAt hL) vss hv) base args ds gs before hval hW
theorem fnG1Back_said : Rows.FnG1BackSaid :=
  OpenClaim.holds_of_wide 8 Tryd.f8 rfl rfl rfl rfl rfl rfl rfl ⟨rfl, rfl, rfl, rfl, rfl⟩ rfl rfl rfl rfl rfl (by kernel_rfl) Tryd.func8 (by kernel_rfl)
    (of_decide_eq_true (by kernel_rfl)) (by unfold Func.isWrapper; rw [if_neg (of_decide_eq_false (by kernel_rfl))]; exact ⟨rfl, rfl⟩)
    (fun os started H enc _ => fnG1Back_lifted os started H enc)
theorem fnG1Back_holds : Rows.FnG1BackCardSaid :=
  Claim7.holds_tied_plain_at .later [] [.sentinel] true (true, "c66df10eeca9866c13f6b0dd719f147ca1fa4932f0636794f013b7494a087ea4") false
    fnG1Back_said (fun _ h => by cases h) (by kernel_rfl) (fun _ h => by cases h) fnG1Back_row_tie rfl ⟨rfl, rfl⟩ (by kernel_rfl) rfl
    (fun f fn hf hfn => by
      obtain rfl : f = 8 := Option.some.inj ((show Tryd.prog.funcNamed "loop.example/pub-g03346/laws.FnG1Back" = some 8 by kernel_rfl).symm.trans hf) |>.symm
      obtain rfl : fn = Tryd.f8 := (Option.some.inj (Tryd.func8.symm.trans hfn)).symm
      exact ⟨by kernel_rfl, fun j t ht => by
        rw [Tryd.params8] at ht
        have hm : t ∈ [25] := by simpa using Array.mem_of_getElem? ht
        have hall : ([25].all fun u => !Tryd.prog.wantsStandIn u) = true := by kernel_rfl
        exact (show Tryd.prog.wantsStandIn t = false by simpa using List.all_eq_true.1 hall t hm)⟩)
    (by kernel_rfl)
end Go.Proofs.YtolmolkcjoibiaaDoor
