import Derived.Test.YtolmolkcjoibiaaDoorGd
import Derived.Test.YtolmolkcjoibiaaDoorSxc
import Derived.LaidLaws
import Derived.ChangeArms
/- Aids to the claim: what is shown here is said at each theorem. -/
namespace Go.Proofs.YtolmolkcjoibiaaDoor
open Go Go.Sx Go.ChangeShapes Go.WideShapes Go.ChangeAt Go.RowKit
set_option maxRecDepth 100000
theorem star : "*" ++ "errors.errorString" = "*errors.errorString" := by decide
theorem row155 (u : TypeId) (h : Tryd.prog.typeName? 3 u = some "*errors.errorString") : u = 155 :=
  typeName_ptr_named (nm := "errors.errorString") (by rw [star]; kernel_rfl) (by kernel_rfl) (by decide) u (by rw [star]; exact h)
theorem und155 : Tryd.prog.underlying 155 = some (.pointer 157) := by kernel_rfl
theorem cells157 : Tryd.prog.cellsOf 157 = 1 := by kernel_rfl
theorem noHandle : (laidE.filter fun x => x.2.handleName?.isSome) = [] := by decide
/-- The variable holds an error that is not nil. -/
theorem errAt {W : World} (h : laidMetH Tryd.prog laidE W) : ErrAt W 155 := by
  have hp : laidMet Tryd.prog laidE W := by
    unfold laidMetH at h
    rw [noHandle] at h
    exact h
  obtain ⟨ps, ⟨g, t, cs, fuel, p, q, hg, ht, hv, hd, _, hps⟩, _, hok⟩ := hp
  obtain rfl := Option.some.inj (gErr.symm.trans hg)
  obtain rfl := Option.some.inj (tErr.symm.trans ht)
  have hi := ifaceB
  split at hi
  · rename_i ms hu
    have key : ∃ u v d p' fuel', cs.toList = [.iface u v] ∧ Tryd.prog.typeName? 3 u = some "*errors.errorString" ∧ DataW.trod (fun _ => ()) Tryd.prog W 0 (fun _ => true) false fuel' u v.cells.toList = some (.ptr d, p') := by
      cases fuel with
      | zero => cases hd
      | succ fuel =>
        unfold DataW.trod at hd
        rw [hu] at hd
        split at hd <;> (first | (rename_i heq; cases heq; done) | (rename_i heq _; cases heq; done) | skip)
        · cases hd
        · rename_i u v _ hcs
          split at hd
          · rename_i h1; cases h1
          · rename_i name _ hn
            obtain ⟨x, hx, hy⟩ := Option.map_eq_some_iff.1 hd
            obtain ⟨x1, x2⟩ := x
            have h1 : DataW.iface name x1 = Rows.laid_loop_example_pub_g03346_pub_gnarkcrypto_ecc_bn254_fp_errInvalidEncoding := congrArg Prod.fst hy
            unfold Rows.laid_loop_example_pub_g03346_pub_gnarkcrypto_ecc_bn254_fp_errInvalidEncoding at h1
            cases h1
            exact ⟨u, v, _, x2, fuel, hcs, hn, hx⟩
          · cases hd
        · cases hd
    obtain ⟨u, v, d, p', fuel', hcs, hn, ht'⟩ := key
    obtain rfl := row155 u hn
    have hcell : W.cell? ⟨0, 0, none⟩ = some (.iface 155 v) := by
      have := World.var?_cell hg hv 0
      rw [Array.eq_one_of_toList hcs] at this
      simpa using this
    have hval := (hok 0 0 (by rw [hps, Array.eq_one_of_toList hcs]; exact List.mem_append_left _ (List.mem_append_left _ (by simp [MemPlace.row])))).2 155 v hcell
    rcases Go.ChangeShapes.open_ptr und155 (by rw [cells157]; omega) hval ⟨fuel', ht'⟩ with ⟨_, hd', _⟩ | ⟨ab, ao, cs', y, _, rfl, _, _, hlen, hc, _⟩
    · cases hd'
    · rw [cells157] at hlen hc
      have hc0 := hc 0 (by omega)
      match cs', hlen with
      | [c], _ =>
        refine ⟨⟨ab, ao, none⟩, ⟨rfl, fun i v hi => ?_⟩, rfl, ?_⟩
        · match i, hi with
          | 0, hi => cases hi; exact hcell
          | i + 1, hi => simp at hi
        · have hc0 : W.cell? ⟨ab, ao + 0, none⟩ = some c := hc0
          unfold World.cell? at hc0
          split at hc0
          · rename_i hb
            exact (Array.getElem?_eq_some_iff.1 hb).1
          · cases hc0
  · cases hi
end Go.Proofs.YtolmolkcjoibiaaDoor
