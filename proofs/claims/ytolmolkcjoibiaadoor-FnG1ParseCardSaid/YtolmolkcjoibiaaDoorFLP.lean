import Derived.Test.YtolmolkcjoibiaaDoorCLP
import Derived.Test.YtolmolkcjoibiaaDoorGe
/- The law FnG1Parse: at every 32 bytes it answers true (bytes with a mark of a compressed point are read as it just if their number is below the prime and there is a point); the argument reads as before. No condition of ours; the listed variable is tied to the program's text. -/
namespace Go.Proofs.YtolmolkcjoibiaaDoor
open Go Go.Sx Go.ChangeShapes Go.WideShapes Go.ChangeAt Go.RowKit
set_option maxRecDepth 100000
def fnG1Parse_args : Array Value := #[.agg #[.int .u8 0, .int .u8 0, .int .u8 0, .int .u8 0, .int .u8 0, .int .u8 0, .int .u8 0, .int .u8 0, .int .u8 0, .int .u8 0, .int .u8 0, .int .u8 0, .int .u8 0, .int .u8 0, .int .u8 0, .int .u8 0, .int .u8 0, .int .u8 0, .int .u8 0, .int .u8 0, .int .u8 0, .int .u8 0, .int .u8 0, .int .u8 0, .int .u8 0, .int .u8 0, .int .u8 0, .int .u8 0, .int .u8 0, .int .u8 0, .int .u8 0, .int .u8 0]]
noncomputable def fnG1Parse_body : Code := Tryd.f9.body.getD .skip
theorem fnG1Parse_lifted (os : Os) (started : os.Started) (H : Type) (enc : TypeId × Value → H) :
    ReturnsInHanded {} Tryd.checked os 9 .any (fun w args => (Rows.fnG1ParseSpec.pre enc Tryd.prog Tryd.f9 [] false w args ∧ laidMetH Tryd.prog laidE w) ∧ sizedMet enc Tryd.prog Tryd.f9 (OpenSpec.ofChange Rows.fnG1ParseSpec) false w args)
      (Rows.fnG1ParseSpec.post enc Tryd.prog Tryd.f9 false true false false) := by
  refine returnsInHanded_of_change_and (C := Tryd.checked) (X := fun w _ => laidMetH Tryd.prog laidE w) (fun _ _ _ hh h => h.of_heap hh) own started (by kernel_rfl) Tryd.func9
    (ChangeSpec.witness_shaped (enc := enc) (C := Tryd.checked) (os := os) (X := fun w _ => laidMetH Tryd.prog laidE w) false (World.doorLaid Tryd.prog 400 os) fnG1Parse_args 12 rfl (World.shaped_of_RefB (by kernel_rfl) (by kernel_rfl)) (by kernel_rfl) (by kernel_rfl) (by kernel_rfl) (door_met os _)) ?_
  intro W base args ds gs before hval hW _ _ hL _
  exact law_contractW (kss := [List.replicate 32 .u8]) (fn := Tryd.f9) (body := fnG1Parse_body) Go.Sx.D.num Tryd.func9 (by kernel_rfl) (by kernel_rfl) (by kernel_rfl) (by kernel_rfl) boolT errIface
    (fun ds gs h1 h2 => by
      have h1 : ds.length = 1 := h1.trans (by kernel_rfl)
      have h2 : gs.length = 1 := h2
      match ds, gs, h1, h2 with
      | [d1], [g1], _, _ => rfl)
    W (fun vss hv => Go.Sx.D.lawLp W (errAt hL) vss hv) base args ds gs before hval hW
theorem fnG1Parse_said : Rows.FnG1ParseSaid :=
  OpenClaim.holds_of_wide 9 Tryd.f9 rfl rfl rfl rfl rfl rfl rfl ⟨rfl, rfl, rfl, rfl, rfl⟩ rfl rfl rfl rfl rfl (by kernel_rfl) Tryd.func9 (by kernel_rfl)
    (of_decide_eq_true (by kernel_rfl)) (by unfold Func.isWrapper; rw [if_neg (of_decide_eq_false (by kernel_rfl))]; exact ⟨rfl, rfl⟩)
    (fun os started H enc _ => fnG1Parse_lifted os started H enc)
theorem fnG1Parse_holds : Rows.FnG1ParseCardSaid :=
  Claim7.holds_tied_plain_at .later [] [.sentinel] true (true, "c66df10eeca9866c13f6b0dd719f147ca1fa4932f0636794f013b7494a087ea4") false
    fnG1Parse_said (fun _ h => by cases h) (by kernel_rfl) (fun _ h => by cases h) fnG1Parse_row_tie rfl ⟨rfl, rfl⟩ (by kernel_rfl) rfl
    (fun f fn hf hfn => by
      obtain rfl : f = 9 := Option.some.inj ((show Tryd.prog.funcNamed "loop.example/pub-g03346/laws.FnG1Parse" = some 9 by kernel_rfl).symm.trans hf) |>.symm
      obtain rfl : fn = Tryd.f9 := (Option.some.inj (Tryd.func9.symm.trans hfn)).symm
      exact ⟨by kernel_rfl, fun j t ht => by
        rw [Tryd.params9] at ht
        have hm : t ∈ [49] := by simpa using Array.mem_of_getElem? ht
        have hall : ([49].all fun u => !Tryd.prog.wantsStandIn u) = true := by kernel_rfl
        exact (show Tryd.prog.wantsStandIn t = false by simpa using List.all_eq_true.1 hall t hm)⟩)
    (by kernel_rfl)
end Go.Proofs.YtolmolkcjoibiaaDoor
