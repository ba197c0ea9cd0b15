import Derived.Test.YtolmolkcjoibiaaDoorCE2
import Derived.Test.YtolmolkcjoibiaaDoorGd
/- The law FnG2Equal: at every two points of four numbers each it answers true (two points of the second curve are told to be equal just if their numbers are); the arguments read as before. No condition of ours; the listed variable is tied to the program's text. -/
namespace Go.Proofs.YtolmolkcjoibiaaDoor
open Go Go.Sx Go.ChangeShapes Go.WideShapes Go.ChangeAt Go.RowKit
set_option maxRecDepth 100000
def fnG2Equal_args : Array Value := #[.agg #[.int .u64 0, .int .u64 0, .int .u64 0, .int .u64 0, .int .u64 0, .int .u64 0, .int .u64 0, .int .u64 0, .int .u64 0, .int .u64 0, .int .u64 0, .int .u64 0, .int .u64 0, .int .u64 0, .int .u64 0, .int .u64 0], .agg #[.int .u64 0, .int .u64 0, .int .u64 0, .int .u64 0, .int .u64 0, .int .u64 0, .int .u64 0, .int .u64 0, .int .u64 0, .int .u64 0, .int .u64 0, .int .u64 0, .int .u64 0, .int .u64 0, .int .u64 0, .int .u64 0]]
noncomputable def fnG2Equal_body : Code := Tryd.f4.body.getD .skip
theorem fnG2Equal_lifted (os : Os) (started : os.Started) (H : Type) (enc : TypeId × Value → H) :
    ReturnsInHanded {} Tryd.checked os 4 .any (fun w args => (Rows.fnG2EqualSpec.pre enc Tryd.prog Tryd.f4 [] false w args ∧ laidMetH Tryd.prog laidE w) ∧ sizedMet enc Tryd.prog Tryd.f4 (OpenSpec.ofChange Rows.fnG2EqualSpec) false w args)
      (Rows.fnG2EqualSpec.post enc Tryd.prog Tryd.f4 false true false false) := by
  refine returnsInHanded_of_change_and (C := Tryd.checked) (X := fun w _ => laidMetH Tryd.prog laidE w) (fun _ _ _ hh h => h.of_heap hh) own started (by kernel_rfl) Tryd.func4
    (ChangeSpec.witness_shaped (enc := enc) (C := Tryd.checked) (os := os) (X := fun w _ => laidMetH Tryd.prog laidE w) false (World.doorLaid Tryd.prog 400 os) fnG2Equal_args 12 rfl (World.shaped_of_RefB (by kernel_rfl) (by kernel_rfl)) (by kernel_rfl) (by kernel_rfl) (by kernel_rfl) (door_met os _)) ?_
  intro W base args ds gs before hval hW _ _ _ _
  exact law_contract (kss := [kind4 4, kind4 4]) (fn := Tryd.f4) (body := fnG2Equal_body) Go.Sx.D.num Tryd.func4 (by kernel_rfl) (by kernel_rfl) (by kernel_rfl) (by kernel_rfl) boolT errIface
    (fun ds gs h1 h2 => by
      have h1 : ds.length = 2 := h1.trans (by kernel_rfl)
      have h2 : gs.length = 1 := h2
      match ds, gs, h1, h2 with
      | [d1, d2], [g1], _, _ => rfl)
    (fun vss hv w => co_fits (sh := [4, 4]) Go.Sx.D.lawE2 vss hv w) W base args ds gs before hval hW
theorem fnG2Equal_said : Rows.FnG2EqualSaid :=
  OpenClaim.holds_of_wide 4 Tryd.f4 rfl rfl rfl rfl rfl rfl rfl ⟨rfl, rfl, rfl, rfl, rfl⟩ rfl rfl rfl rfl rfl (by kernel_rfl) Tryd.func4 (by kernel_rfl)
    (of_decide_eq_true (by kernel_rfl)) (by unfold Func.isWrapper; rw [if_neg (of_decide_eq_false (by kernel_rfl))]; exact ⟨rfl, rfl⟩)
    (fun os started H enc _ => fnG2Equal_lifted os started H enc)
theorem fnG2Equal_holds : Rows.FnG2EqualCardSaid :=
  Claim7.holds_tied_plain_at .later [] [.sentinel] true (true, "c66df10eeca9866c13f6b0dd719f147ca1fa4932f0636794f013b7494a087ea4") false
    fnG2Equal_said (fun _ h => by cases h) (by kernel_rfl) (fun _ h => by cases h) fnG2Equal_row_tie rfl ⟨rfl, rfl⟩ (by kernel_rfl) rfl
    (fun f fn hf hfn => by
      obtain rfl : f = 4 := Option.some.inj ((show Tryd.prog.funcNamed "loop.example/pub-g03346/laws.FnG2Equal" = some 4 by kernel_rfl).symm.trans hf) |>.symm
      obtain rfl : fn = Tryd.f4 := (Option.some.inj (Tryd.func4.symm.trans hfn)).symm
      exact ⟨by kernel_rfl, fun j t ht => by
        rw [Tryd.params4] at ht
        have hm : t ∈ [33, 33] := by simpa using Array.mem_of_getElem? ht
        have hall : ([33, 33].all fun u => !Tryd.prog.wantsStandIn u) = true := by kernel_rfl
        exact (show Tryd.prog.wantsStandIn t = false by simpa using List.all_eq_true.1 hall t hm)⟩)
    (by kernel_rfl)
end Go.Proofs.YtolmolkcjoibiaaDoor
