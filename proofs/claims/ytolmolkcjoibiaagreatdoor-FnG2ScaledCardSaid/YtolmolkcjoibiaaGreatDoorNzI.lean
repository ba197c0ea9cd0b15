import Derived.Test.YtolmolkcjoibiaaGreatDoorNzX
import Derived.Test.YtolmolkcjoibiaaGreatDoorSo
/- Aids to the claim: what is shown here is said at each theorem. -/
namespace Go.Sx.Z
open Go Go.Proofs Go.Sx
set_option maxRecDepth 100000
theorem ln1 : P.funcs[121]? = some (P.funcs[121]!) := by kernel_rfl
theorem ln2 : (P.funcs[121]!).body = some (((P.funcs[121]!).body).getD .skip) := by kernel_rfl
theorem ln3 : (P.funcs[121]!).ntmps = 25 := by kernel_rfl
theorem ln4 : sxs P noF noF 300 ((flat (((P.funcs[121]!).body).getD .skip)).take 7) lnA.st (kM fun _ => lnB) = some (ln32 0 0) := by kernel_rfl
theorem ln5 : (List.range 256).map (fun k => sxs P noF noF 300 ((flat (((P.funcs[121]!).body).getD .skip)).drop 7) (lnK k).st (kR P (P.funcs[121]!))) = (List.range 256).map fun k => some (lnE k) := by kernel_rfl
theorem cLen : LenC P 121 := lenC_of mixed num (noF_q P) (noF_p P) ln1 ln2 ln3 ln4 ln5
noncomputable abbrev fnI : Func := P.funcs[101]!
noncomputable abbrev bodyI : Code := (fnI.body).getD .skip
noncomputable abbrev BI : Code := cb (cb ((flat bodyI).getD 9 .skip))
noncomputable abbrev XI : Code := cb ((flat BI).getD 2 .skip)
noncomputable abbrev B2I : Code := cb (cb ((flat XI).getD 4 .skip))
abbrev ty : Nat := 42
noncomputable abbrev cI : Operand := match (flat XI).getD 25 .skip with | .cond c _ _ => c | _ => .tmp 0
noncomputable abbrev TI : Code := match (flat XI).getD 25 .skip with | .cond _ t _ => t | _ => .skip
noncomputable abbrev EI : Code := match (flat XI).getD 25 .skip with | .cond _ _ t => t | _ => .skip
theorem i_fB : flat BI = (flat BI).take 2 ++ ([.block 1 XI] ++ (flat BI).drop 3) := by kernel_rfl
theorem i_fX : flat XI = (flat XI).take 1 ++ (((flat XI).drop 1).take 1 ++ (((flat XI).drop 2).take 2 ++ ([.block 2 (.loop B2I)] ++ (((flat XI).drop 5).take 3 ++ (((flat XI).drop 8).take 1 ++ (((flat XI).drop 9).take 2 ++ (((flat XI).drop 11).take 4 ++
    (((flat XI).drop 15).take 2 ++ (((flat XI).drop 17).take 1 ++ (((flat XI).drop 18).take 2 ++ (((flat XI).drop 20).take 4 ++ (((flat XI).drop 24).take 1 ++ [.cond cI TI EI])))))))))))) := by kernel_rfl
theorem i_fT : flat TI = (flat TI).take 2 ++ (((flat TI).drop 2).take 1 ++ (flat TI).drop 3) := by kernel_rfl
theorem i_7 (d : Bool) : sxs P qb noF 300 (((flat XI).drop 24).take 1) (ivP ty d p6al []).st (kC cI (ivP ty d p6al [])) = some (t7c d) := by cases d <;> kernel_rfl
theorem i_7a (d : Bool) : okIvO d 9 4 (niO d 9) (sxs P qb noF 300 ((flat TI).take 2) (ivP ty d p6al []).st (kM fun _ => ivP ty d p6al [])) = true := by cases d <;> kernel_rfl
theorem i_7b (d : Bool) : okIvO d 9 4 (niO d 9) (sxs P qb noF 300 (((flat TI).drop 2).take 1) (ivP ty d p6al []).st (kM fun _ => ivP ty d p6al [])) = true := by cases d <;> kernel_rfl
theorem i_7d (d : Bool) : okIvO d 9 0 (niO d 9) (sxs P qb noF 300 ((flat TI).drop 3) (ivP ty d p6al []).st (kM fun _ => ivP ty d hdT [])) = true := by cases d <;> kernel_rfl
theorem i_7e (d : Bool) : okIvO d 9 0 (niO d 9) (sxs P qb noF 300 (flat EI) (ivP ty d p6al []).st (kM fun _ => ivP ty d hdT [])) = true := by cases d <;> kernel_rfl
theorem i_10 (d : Bool) : sxs P qb noF 300 ((flat BI).drop 3) (ivP ty d hdT []).st (kM fun _ => ivP ty d hdT []) = some (t10 d) := by cases d <;> kernel_rfl
theorem i_H (d : Bool) : sxs P qb noF 300 ((flat BI).take 2) (ivP ty d hdT []).st (kM fun _ => ivP ty d hdT []) = some (tH d) := by cases d <;> kernel_rfl
theorem i_11 (d : Bool) : sxs P (lenF 121) noF 300 ((flat XI).take 1) (ivP ty d hdT []).st (kM fun _ => ivP ty d pNl []) = some (t11 d) := by cases d <;> kernel_rfl
theorem i_13 (d : Bool) : sxs P qb noF 300 (((flat XI).drop 2).take 2) (ivP ty d pABl []).st (kM fun _ => pIn ty d 0) = some (t13 d) := by cases d <;> kernel_rfl
theorem i_In (d : Bool) : (List.range 31).map (fun k => sxs P qb noF 300 (flat B2I) (pIn ty d k).st (kM fun _ => pIn ty d (k + 1))) = (List.range 31).map fun _ => some (tIn d) := by cases d <;> kernel_rfl
theorem i_InE (d : Bool) : sxs P qb noF 300 (flat B2I) (pIn ty d 31).st (kM fun _ => ivP ty d p4l []) = some (tInE d) := by cases d <;> kernel_rfl
theorem i_5a (d : Bool) : sxs P qb noF 300 (((flat XI).drop 5).take 3) (ivP ty d p4l []).st (kM fun _ => ivP ty d p5al []) = some (t5a d) := by cases d <;> kernel_rfl
theorem i_5b (d : Bool) : sxs P qb noF 300 (((flat XI).drop 8).take 1) (ivP ty d p5al []).st (kM fun _ => ivP ty d p5bl []) = some (t5b d) := by cases d <;> kernel_rfl
theorem i_5c (d : Bool) : sxs P qb noF 300 (((flat XI).drop 9).take 2) (ivP ty d p5bl []).st (kM fun _ => ivP ty d p5bl []) = some (t5c d) := by cases d <;> kernel_rfl
theorem i_5d (d : Bool) : sxs P qb noF 300 (((flat XI).drop 11).take 4) (ivP ty d p5bl []).st (kM fun _ => ivP ty d p5al []) = some (t5d d) := by cases d <;> kernel_rfl
theorem i_6a (d : Bool) : sxs P qb noF 300 (((flat XI).drop 15).take 2) (ivP ty d p5al []).st (kM fun _ => ivP ty d p6al []) = some (t6a d) := by cases d <;> kernel_rfl
theorem i_6b (d : Bool) : sxs P qb noF 300 (((flat XI).drop 17).take 1) (ivP ty d p6al []).st (kM fun _ => ivP ty d p6bl []) = some (t6b d) := by cases d <;> kernel_rfl
theorem i_6c (d : Bool) : sxs P qb noF 300 (((flat XI).drop 18).take 2) (ivP ty d p6bl []).st (kM fun _ => ivP ty d p6bl []) = some (t6c d) := by cases d <;> kernel_rfl
theorem i_6d (d : Bool) : sxs P qb noF 300 (((flat XI).drop 20).take 4) (ivP ty d p6bl []).st (kM fun _ => ivP ty d p6al []) = some (t6d d) := by cases d <;> kernel_rfl
theorem i_12a (d : Bool) : (List.range 65).map (fun n => sxs P qb noF 300 (((flat XI).drop 1).take 1) (pNc ty d n).st (kM fun _ => ivP ty d pABl [])) = (List.range 65).map fun n => some (t12 d n) := by cases d <;> kernel_rfl
theorem i_12b (d : Bool) : (List.range 64).map (fun n => sxs P qb noF 300 (((flat XI).drop 1).take 1) (pNc ty d (65 + n)).st (kM fun _ => ivP ty d pABl [])) = (List.range 64).map fun n => some (t12 d (65 + n)) := by cases d <;> kernel_rfl
theorem i_12c (d : Bool) : (List.range 64).map (fun n => sxs P qb noF 300 (((flat XI).drop 1).take 1) (pNc ty d (129 + n)).st (kM fun _ => ivP ty d pABl [])) = (List.range 64).map fun n => some (t12 d (129 + n)) := by cases d <;> kernel_rfl
theorem i_12d (d : Bool) : (List.range 64).map (fun n => sxs P qb noF 300 (((flat XI).drop 1).take 1) (pNc ty d (193 + n)).st (kM fun _ => ivP ty d pABl [])) = (List.range 64).map fun n => some (t12 d (193 + n)) := by cases d <;> kernel_rfl
theorem i_12 (d : Bool) (n : Nat) (h : n ≤ 256) : sxs P qb noF 300 (((flat XI).drop 1).take 1) (pNc ty d n).st (kM fun _ => ivP ty d pABl []) = some (t12 d n) := by
  rcases Nat.lt_or_ge n 65 with h1 | h1
  · exact range_get (i_12a d) h1
  rcases Nat.lt_or_ge n 129 with h2 | h2
  · have := range_get (i_12b d) (i := n - 65) (by omega)
    rwa [show 65 + (n - 65) = n by omega] at this
  rcases Nat.lt_or_ge n 193 with h3 | h3
  · have := range_get (i_12c d) (i := n - 129) (by omega)
    rwa [show 129 + (n - 129) = n by omega] at this
  · have := range_get (i_12d d) (i := n - 193) (by omega)
    rwa [show 193 + (n - 193) = n by omega] at this
theorem ivChk (d : Bool) : IvChk P qb (lenF 121) ty d BI XI B2I TI EI cI := ⟨i_fB, i_fX, i_fT, i_H d, i_11 d, i_12 d, i_13 d, fun _ h => range_get (i_In d) h, i_InE d, i_5a d, i_5b d, i_5c d, i_5d d, i_6a d, i_6b d, i_6c d, i_6d d, i_7 d, i_7a d, i_7b d, i_7d d, i_7e d, i_10 d⟩
end Go.Sx.Z
