import Derived.Test.YtolmolkcjoibiaaDoorOrd
import Derived.ProofKit
import Derived.LaidMore
import Derived.Stop.Joined
/- Aids to the claim: what is shown here is said at each theorem. -/
namespace Go.Sx
open Go
/-! ### Values that are rows of whole numbers, as data -/
section
variable {H : Type} {enc : TypeId × Value → H} {P : Program}
def flatFs (P : Program) (rec : TypeId → Option (List IntKind)) : Nat → List Field → Option (List IntKind)
  | _, [] => some []
  | o, f :: fs => match rec f.type with
    | some ks => bif Nat.beq f.offset o && Nat.beq (P.cellsOf f.type) ks.length then match flatFs P rec (o + ks.length) fs with
        | some ks' => some (ks ++ ks')
        | none => none
      else none
    | none => none
def flatT (P : Program) : Nat → TypeId → Option (List IntKind)
  | 0, _ => none
  | d + 1, t => match P.underlying t with
    | some (.int k) => some [k]
    | some (.array n e) => match flatT P d e with
      | some ks => bif Nat.beq (P.cellsOf e) ks.length && Nat.beq (P.cellsOf t) (n * ks.length) then some ((List.replicate n ks).flatten) else none
      | none => none
    | some (.struct fs) => match flatFs P (flatT P d) 0 fs.toList with
      | some ks => bif Nat.beq (P.cellsOf t) ks.length then some ks else none
      | none => none
    | _ => none
/-- Cells of these kinds, each within its range. -/
def Fits : List IntKind → List Value → Prop
  | [], [] => True
  | k :: ks, v :: vs => (∃ n, v = .int k n ∧ k.min ≤ n ∧ n ≤ k.max) ∧ Fits ks vs
  | _, _ => False
theorem Fits.append : ∀ {ks ks' : List IntKind} {vs vs' : List Value}, Fits ks vs → Fits ks' vs' → Fits (ks ++ ks') (vs ++ vs')
  | [], _, [], _, _, h => h
  | [], _, _ :: _, _, h, _ => h.elim
  | _ :: _, _, [], _, h, _ => h.elim
  | _ :: _, _, _ :: _, _, ⟨h1, h2⟩, h => ⟨h1, h2.append h⟩
theorem Fits.len : ∀ {ks : List IntKind} {vs : List Value}, Fits ks vs → vs.length = ks.length
  | [], [], _ => rfl
  | [], _ :: _, h => h.elim
  | _ :: _, [], h => h.elim
  | _ :: ks, _ :: vs, ⟨_, h⟩ => by simp [h.len]
/-- What is shown of a reading. -/
def Flat (enc : TypeId × Value → H) (P : Program) (fuel : Nat) (t : TypeId) (cs : List Value) (ks : List IntKind) (x : DataW H × List MemPlace) : Prop :=
  x.2 = [] ∧ Fits ks cs ∧ ∀ w b sp hd, DataW.trod enc P w b sp hd fuel t cs = some x
theorem mapM_opt {α β : Type} {f : α → Option β} : ∀ {l : List α} {ys : List β}, l.mapM f = some ys → ys.length = l.length ∧ ∀ (i : Nat) (a : α), l[i]? = some a → ∃ y, ys[i]? = some y ∧ f a = some y
  | [], ys, h => by
    have : ys = [] := by simpa using h.symm
    subst this
    exact ⟨rfl, by simp⟩
  | a :: l, ys, h => by
    rw [List.mapM_cons] at h
    cases hf : f a with
    | none => rw [hf] at h; simp at h
    | some y =>
      cases hl : l.mapM f with
      | none => rw [hf, hl] at h; simp at h
      | some ys' =>
        rw [hf, hl] at h
        have : ys = y :: ys' := by simpa using h.symm
        subst this
        obtain ⟨h1, h2⟩ := mapM_opt hl
        refine ⟨by simp [h1], fun i b hi => ?_⟩
        cases i with
        | zero => simp at hi; subst hi; exact ⟨y, rfl, hf⟩
        | succ i => simpa using h2 i b (by simpa using hi)
theorem mapM_congr_opt {α β : Type} {f g : α → Option β} : ∀ {l : List α}, (∀ a ∈ l, f a = g a) → l.mapM f = l.mapM g
  | [], _ => rfl
  | a :: l, h => by
    rw [List.mapM_cons, List.mapM_cons, h a (by simp), mapM_congr_opt fun b hb => h b (by simp [hb])]
theorem flatMap_nil {l : List (DataW H × List MemPlace)} (h : ∀ x ∈ l, x.2 = []) : l.flatMap (·.2) = [] := by
  induction l with
  | nil => rfl
  | cons x l ih => rw [List.flatMap_cons, h x (by simp), ih fun y hy => h y (by simp [hy])]; rfl
/-- Fields in a row. -/
theorem flatFs_spec {rec : TypeId → Option (List IntKind)} {fuel : Nat} {W : World} {b0 : Nat} {s0 : Nat → Bool} {h0 : Bool} {cs : List Value}
    (hrec : ∀ t ks cs' x, rec t = some ks → DataW.trod enc P W b0 s0 h0 fuel t cs' = some x → Flat enc P fuel t cs' ks x) :
    ∀ {fs : List Field} {o : Nat} {ks : List IntKind} {xs : List (DataW H × List MemPlace)}, flatFs P rec o fs = some ks →
      (fs.mapM fun f => DataW.trod enc P W b0 s0 h0 fuel f.type ((cs.drop f.offset).take (P.cellsOf f.type))) = some xs →
      (∀ x ∈ xs, x.2 = []) ∧ Fits ks ((cs.drop o).take ks.length) ∧ ∀ w b sp hd, (fs.mapM fun f => DataW.trod enc P w b sp hd fuel f.type ((cs.drop f.offset).take (P.cellsOf f.type))) = some xs
  | [], o, ks, xs, hf, hx => by
    cases hf
    have : xs = [] := by simpa using hx.symm
    subst this
    exact ⟨by simp, by simp [Fits], fun _ _ _ _ => rfl⟩
  | f :: fs, o, ks, xs, hf, hx => by
    unfold flatFs at hf
    split at hf
    · rename_i k1 hk1
      cases hb : (Nat.beq f.offset o && Nat.beq (P.cellsOf f.type) k1.length) with
      | false => rw [hb] at hf; cases hf
      | true =>
        rw [hb] at hf
        simp only [cond_true] at hf
        rw [Bool.and_eq_true] at hb
        have ho := Nat.eq_of_beq_eq_true hb.1
        have hc := Nat.eq_of_beq_eq_true hb.2
        split at hf
        · rename_i k2 hk2
          cases hf
          rw [List.mapM_cons] at hx
          cases h1 : DataW.trod enc P W b0 s0 h0 fuel f.type ((cs.drop f.offset).take (P.cellsOf f.type)) with
          | none => rw [h1] at hx; simp at hx
          | some x =>
            cases h2 : (fs.mapM fun f => DataW.trod enc P W b0 s0 h0 fuel f.type ((cs.drop f.offset).take (P.cellsOf f.type))) with
            | none => rw [h1, h2] at hx; simp at hx
            | some xs' =>
              rw [h1, h2] at hx
              have : xs = x :: xs' := by simpa using hx.symm
              subst this
              obtain ⟨g1, g2, g3⟩ := hrec _ _ _ _ hk1 h1
              obtain ⟨k1', k2', k3⟩ := flatFs_spec hrec hk2 h2
              refine ⟨fun y hy => ?_, ?_, fun w b sp hd => ?_⟩
              · rcases List.mem_cons.1 hy with hy | hy
                · subst hy; exact g1
                · exact k1' y hy
              · rw [List.length_append, List.take_add, List.drop_drop]
                rw [ho, hc] at g2
                exact g2.append k2'
              · rw [List.mapM_cons, g3, k3]; rfl
        · cases hf
    · cases hf
/-- Items in a row. -/
theorem flatIs_spec {e : TypeId} {fuel c : Nat} {W : World} {b0 : Nat} {s0 : Nat → Bool} {h0 : Bool} {cs : List Value} {k1 : List IntKind} (hc : P.cellsOf e = k1.length)
    (hrec : ∀ cs' x, DataW.trod enc P W b0 s0 h0 fuel e cs' = some x → Flat enc P fuel e cs' k1 x) :
    ∀ {n : Nat} {xs : List (DataW H × List MemPlace)}, ((List.range' c n).mapM fun i => DataW.trod enc P W b0 s0 h0 fuel e ((cs.drop (i * P.cellsOf e)).take (P.cellsOf e))) = some xs →
      (∀ x ∈ xs, x.2 = []) ∧ Fits ((List.replicate n k1).flatten) ((cs.drop (c * k1.length)).take (n * k1.length)) ∧ ∀ w b sp hd, ((List.range' c n).mapM fun i => DataW.trod enc P w b sp hd fuel e ((cs.drop (i * P.cellsOf e)).take (P.cellsOf e))) = some xs := by
  intro n
  induction n generalizing c with
  | zero =>
    intro xs hx
    have : xs = [] := by simpa using hx.symm
    subst this
    exact ⟨by simp, by simp [Fits], fun _ _ _ _ => rfl⟩
  | succ n ih =>
    intro xs hx
    rw [List.range'_succ, List.mapM_cons] at hx
    cases h1 : DataW.trod enc P W b0 s0 h0 fuel e ((cs.drop (c * P.cellsOf e)).take (P.cellsOf e)) with
    | none => rw [h1] at hx; simp at hx
    | some x =>
      cases h2 : ((List.range' (c + 1) n).mapM fun i => DataW.trod enc P W b0 s0 h0 fuel e ((cs.drop (i * P.cellsOf e)).take (P.cellsOf e))) with
      | none => rw [h1, h2] at hx; simp at hx
      | some xs' =>
        rw [h1, h2] at hx
        have : xs = x :: xs' := by simpa using hx.symm
        subst this
        obtain ⟨g1, g2, g3⟩ := hrec _ _ h1
        obtain ⟨k1', k2', k3⟩ := ih h2
        refine ⟨fun y hy => ?_, ?_, fun w b sp hd => ?_⟩
        · rcases List.mem_cons.1 hy with hy | hy
          · subst hy; exact g1
          · exact k1' y hy
        · rw [List.replicate_succ, List.flatten_cons, Nat.succ_mul, Nat.add_comm (n * k1.length), List.take_add, List.drop_drop, ← Nat.succ_mul]
          rw [hc] at g2
          exact g2.append k2'
        · rw [List.range'_succ, List.mapM_cons, g3, k3]; rfl
theorem flatT_spec {W : World} {b0 : Nat} {s0 : Nat → Bool} {h0 : Bool} : ∀ (d fuel : Nat) {t : TypeId} {cs : List Value} {ks : List IntKind} {x : DataW H × List MemPlace}, flatT P d t = some ks →
    DataW.trod enc P W b0 s0 h0 fuel t cs = some x → Flat enc P fuel t cs ks x
  | 0, _, _, _, _, _, h, _ => by cases h
  | d + 1, 0, _, _, _, _, _, h => by cases h
  | d + 1, fuel + 1, t, cs, ks, x, h, hx => by
    have ih := fun (t : TypeId) (ks : List IntKind) (cs' : List Value) (x : DataW H × List MemPlace) (h1 : flatT P d t = some ks) (h2 : DataW.trod enc P W b0 s0 h0 fuel t cs' = some x) => flatT_spec d fuel h1 h2
    unfold flatT at h
    split at h
    · rename_i k hu
      cases h
      obtain ⟨n, rfl, rfl, hwf⟩ := DataW.trod_int hu hx
      refine ⟨rfl, ⟨⟨n, rfl, by simpa [Lit.wf] using hwf⟩, trivial⟩, fun w b sp hd => ?_⟩
      simp only [DataW.trod, hu]
      rw [if_pos ⟨trivial, hwf⟩]
    · rename_i n e hu
      split at h
      · rename_i k1 hk1
        cases hb : (Nat.beq (P.cellsOf e) k1.length && Nat.beq (P.cellsOf t) (n * k1.length)) with
        | false => rw [hb] at h; cases h
        | true =>
          rw [hb] at h
          cases h
          rw [Bool.and_eq_true] at hb
          have hc := Nat.eq_of_beq_eq_true hb.1
          have hct := Nat.eq_of_beq_eq_true hb.2
          have key : ∀ w b sp hd, DataW.trod enc P w b sp hd (fuel + 1) t cs = if cs.length = P.cellsOf t then ((List.range n).mapM fun i => DataW.trod enc P w b sp hd fuel e ((cs.drop (i * P.cellsOf e)).take (P.cellsOf e))).map fun xs => (.agg (xs.map (·.1)), xs.flatMap (·.2)) else none := fun w b sp hd => by
            conv => lhs; unfold DataW.trod
            rw [hu]
          rw [key] at hx
          split at hx
          · rename_i hlen
            obtain ⟨xs, hxs, rfl⟩ := Option.map_eq_some_iff.1 hx
            rw [List.range_eq_range'] at hxs
            obtain ⟨g1, g2, g3⟩ := flatIs_spec hc (fun cs' x hx => ih e k1 cs' x hk1 hx) hxs
            refine ⟨flatMap_nil g1, ?_, fun w b sp hd => ?_⟩
            · rw [Nat.zero_mul, List.drop_zero, List.take_of_length_le (by rw [hlen, hct]; exact Nat.le_refl _)] at g2
              exact g2
            · rw [key, if_pos hlen, List.range_eq_range', g3]; rfl
          · cases hx
      · cases h
    · rename_i fs hu
      split at h
      · rename_i k1 hk1
        cases hb : Nat.beq (P.cellsOf t) k1.length with
        | false => rw [hb] at h; cases h
        | true =>
          rw [hb] at h
          cases h
          have hct := Nat.eq_of_beq_eq_true hb
          have key : ∀ w b sp hd, DataW.trod enc P w b sp hd (fuel + 1) t cs = if cs.length = P.cellsOf t then (fs.toList.mapM fun f => DataW.trod enc P w b sp hd fuel f.type ((cs.drop f.offset).take (P.cellsOf f.type))).map fun xs => (.agg (xs.map (·.1)), xs.flatMap (·.2)) else none := fun w b sp hd => by
            conv => lhs; unfold DataW.trod
            rw [hu]
          rw [key] at hx
          split at hx
          · rename_i hlen
            obtain ⟨xs, hxs, rfl⟩ := Option.map_eq_some_iff.1 hx
            obtain ⟨g1, g2, g3⟩ := flatFs_spec ih hk1 hxs
            refine ⟨flatMap_nil g1, ?_, fun w b sp hd => ?_⟩
            · rw [List.drop_zero, List.take_of_length_le (by rw [hlen, hct]; exact Nat.le_refl _)] at g2
              exact g2
            · rw [key, if_pos hlen, g3]; rfl
          · cases hx
      · cases h
    · cases h
end
end Go.Sx
