import Derived.Test.YtolmolkcjoibiaaDoorSb
import Derived.Laws.StructEq
import Derived.ChangeKeysEq
/- Aids to the claim: what is shown here is said at each theorem. -/
namespace Go.Sx
open Go

/-! ### Parts of a row of cells -/
def subL (xs : List Atom) (off n : Nat) : Option (List Atom) :=
  let s := (xs.drop off).take n
  bif Nat.beq s.length n then some s else none
theorem subL_spec {xs s : List Atom} {off n : Nat} (h : subL xs off n = some s) : s = (xs.drop off).take n ∧ s.length = n := by
  unfold subL at h
  simp only at h
  cases hb : Nat.beq ((xs.drop off).take n).length n with
  | false => rw [hb] at h; cases h
  | true =>
    rw [hb] at h
    simp only [cond_true, Option.some.injEq] at h
    subst h
    exact ⟨rfl, Nat.eq_of_beq_eq_true hb⟩

section
variable {P : Program} {e : Env} {β : Nat → Nat}

/-- The value of a type whose cells these are. -/
def valT (P : Program) (β : Nat → Nat) (e : Env) (t : TypeId) (cs : List Atom) : Value :=
  match P.underlying t with
  | some d => if aggD d = true then .agg (cs.map (Atom.den β e)).toArray else match cs with
    | [a] => a.den β e
    | _ => undef
  | none => undef

theorem run_part {t : TypeId} {d : TypeDesc} {i : TypeInfo} (hd : P.underlying t = some d) (hi : P.info? t = some i) {xs s : List Atom} {off : Nat} (hs : subL xs off i.size = some s)
    (h1 : aggD d = true ∨ i.size = 1) (w : World) : (part t (xs.map (Atom.den β e)).toArray off).run P w = .ok (valT P β e t s) w := by
  obtain ⟨h2, h3⟩ := subL_spec hs
  unfold part valT
  rw [Sem.run_bind, run_isAgg hd, Result.andThen_ok, hd]
  simp only
  cases ha : aggD d with
  | true =>
    simp only [if_true, Sem.run_bind, sizeOf, typeInfo, run_program, Result.andThen_ok, hi, Sem.run_pure]
    congr 2
    rw [h2]
    simp [List.map_take, List.map_drop, List.extract]
  | false =>
    rw [ha] at h1
    have h4 : i.size = 1 := by rcases h1 with h1 | h1; cases h1; exact h1
    simp only [Bool.false_eq_true, if_false]
    rw [h4] at h2 h3
    obtain ⟨a, rfl⟩ : ∃ a, s = [a] := by
      match s, h3 with
      | [a], _ => exact ⟨a, rfl⟩
    have h5 : xs[off]? = some a := by
      have : (List.take 1 (List.drop off xs))[0]? = some a := by rw [← h2]; rfl
      rw [List.getElem?_take_of_lt (by omega), List.getElem?_drop] at this
      simpa using this
    have h6 : (xs.map (Atom.den β e)).toArray[off]? = some (a.den β e) := by simp [h5]
    rw [h6]
    rfl

/-! ### '==' of structs and arrays -/
def eqFs (P : Program) (rec : TypeId → List Atom → List Atom → Option BE) (xs ys : List Atom) : List Field → Option BE
  | [] => some (.c true)
  | f :: fs => bif f.name == "_" then none else match P.info? f.type, P.underlying f.type with
    | some i, some d => bif aggD d || Nat.beq i.size 1 then match subL xs f.offset i.size, subL ys f.offset i.size with
        | some a, some b => match rec f.type a b, eqFs P rec xs ys fs with
          | some r, some r' => some (mkAnd r r')
          | _, _ => none
        | _, _ => none
      else none
    | _, _ => none
def eqIs (rec : TypeId → List Atom → List Atom → Option BE) (el : TypeId) (c : Nat) (xs ys : List Atom) : List Nat → Option BE
  | [] => some (.c true)
  | i :: is => match subL xs (i * c) c, subL ys (i * c) c with
    | some a, some b => match rec el a b, eqIs rec el c xs ys is with
      | some r, some r' => some (mkAnd r r')
      | _, _ => none
    | _, _ => none
def eqT (P : Program) : Nat → TypeId → List Atom → List Atom → Option BE
  | 0, _, _, _ => none
  | d + 1, t, xs, ys => match P.underlying t with
    | some (.int _) => match xs, ys with
      | [.int k a], [.int k' b] => bif decide (k = k') then some (eqI a b) else none
      | _, _ => none
    | some .bool => match xs, ys with
      | [.bool a], [.bool b] => some (equalB a b)
      | _, _ => none
    | some (.struct fs) => bif P.stoodInHeld t then none else eqFs P (eqT P d) xs ys fs.toList
    | some (.array n el) => match P.info? el, P.underlying el with
      | some i, some dd => bif aggD dd || Nat.beq i.size 1 then (eqIs (eqT P d) el i.size xs ys (List.range n)).map simpE else none
      | _, _ => none
    | _ => none

abbrev EqOk (P : Program) (dd : Nat) (rec : TypeId → List Atom → List Atom → Option BE) (β : Nat → Nat) (e : Env) : Prop :=
  ∀ t xs ys b, rec t xs ys = some b → ∀ w, (Op.equalIn dd t (valT P β e t xs) (valT P β e t ys)).run P w = .ok (b.den e) w

theorem eqFs_sound {dd : Nat} {rec : TypeId → List Atom → List Atom → Option BE} (hrec : EqOk P dd rec β e) {xs ys : List Atom} : ∀ (fs : List Field) {b : BE}, eqFs P rec xs ys fs = some b →
    ∀ w, (Op.eqFields dd (xs.map (Atom.den β e)).toArray (ys.map (Atom.den β e)).toArray fs).run P w = .ok (b.den e) w
  | [], b, h, w => by cases h; simp [Op.eqFields, BE.den]
  | f :: fs, b, h, w => by
    unfold eqFs at h
    cases hn : (f.name == "_") with
    | true => rw [hn] at h; cases h
    | false =>
      rw [hn] at h
      simp only [cond_false] at h
      split at h
      · rename_i i d hi hd
        cases hc : (aggD d || Nat.beq i.size 1) with
        | false => rw [hc] at h; cases h
        | true =>
          rw [hc] at h
          simp only [cond_true] at h
          have h1 : aggD d = true ∨ i.size = 1 := by
            rw [Bool.or_eq_true] at hc
            rcases hc with hc | hc
            · exact .inl hc
            · exact .inr (Nat.eq_of_beq_eq_true hc)
          split at h
          · rename_i a c ha hb
            split at h
            · rename_i r r' hr hr'
              cases h
              have hne : f.name ≠ "_" := by
                intro he; rw [he] at hn; simp at hn
              simp only [Op.eqFields, ne_eq, hne, not_false_eq_true, if_true, Sem.run_bind, run_part (β := β) (e := e) hd hi ha h1 w, run_part (β := β) (e := e) hd hi hb h1 w, Result.andThen_ok,
                hrec _ _ _ _ hr w, mkAnd_den]
              cases r.den e with
              | false => simp
              | true => simpa using eqFs_sound hrec fs hr' w
            · cases h
          · cases h
      · cases h

theorem eqIs_sound {dd : Nat} {rec : TypeId → List Atom → List Atom → Option BE} (hrec : EqOk P dd rec β e) {xs ys : List Atom} {el : TypeId} {i : TypeInfo} {d : TypeDesc} (hi : P.info? el = some i) (hd : P.underlying el = some d)
    (h1 : aggD d = true ∨ i.size = 1) : ∀ (is : List Nat) {b : BE}, eqIs rec el i.size xs ys is = some b →
    ∀ w, (Op.eqItems dd el i.size (xs.map (Atom.den β e)).toArray (ys.map (Atom.den β e)).toArray is).run P w = .ok (b.den e) w
  | [], b, h, w => by cases h; simp [Op.eqItems, BE.den]
  | j :: is, b, h, w => by
    unfold eqIs at h
    split at h
    · rename_i a c ha hb
      split at h
      · rename_i r r' hr hr'
        cases h
        simp only [Op.eqItems, Sem.run_bind, run_part (β := β) (e := e) hd hi ha h1 w, run_part (β := β) (e := e) hd hi hb h1 w, Result.andThen_ok, hrec _ _ _ _ hr w, mkAnd_den]
        cases r.den e with
        | false => simp
        | true => simpa using eqIs_sound hrec hi hd h1 is hr' w
      · cases h
    · cases h

theorem eqT_sound (d0 : Nat) : ∀ (d : Nat), EqOk P (d0 + d) (eqT P d) β e
  | 0 => fun _ _ _ _ h => by cases h
  | d + 1 => fun t xs ys b h w => by
    have ih := eqT_sound d0 d
    unfold eqT at h
    show (Op.equalIn ((d0 + d) + 1) t _ _).run P w = _
    split at h
    · rename_i kk hu
      split at h
      · rename_i k a k' c
        cases hk : decide (k = k') with
        | false => rw [hk] at h; cases h
        | true =>
          rw [hk] at h
          cases h
          have := of_decide_eq_true hk
          subst this
          simp only [valT, hu, aggD, Bool.false_eq_true, if_false, Atom.den, eqI_den]
          exact run_equalIn_int w _ t k kk _ _ hu
      · cases h
    · rename_i hu
      split at h
      · rename_i a c
        cases h
        simp only [valT, hu, aggD, Bool.false_eq_true, if_false, Atom.den, equalB_den]
        exact run_equalIn_bool' w _ t _ _ hu
      · cases h
    · rename_i fs hu
      cases hst : P.stoodInHeld t with
      | true => rw [hst] at h; cases h
      | false =>
        rw [hst] at h
        simp only [cond_false] at h
        have hf : P.fieldsOf t = fs := by unfold Program.fieldsOf; rw [hu]
        have hv : ∀ zs, valT P β e t zs = .agg (zs.map (Atom.den β e)).toArray := fun zs => by
          unfold valT; rw [hu]; rfl
        rw [hv, hv, run_equalIn_struct w _ t _ _ (by rw [hf]; exact hu) hst, hf]
        exact eqFs_sound ih fs.toList h w
    · rename_i n el hu
      split at h
      · rename_i i dd hi hd
        cases hc : (aggD dd || Nat.beq i.size 1) with
        | false => rw [hc] at h; cases h
        | true =>
          rw [hc] at h
          simp only [cond_true] at h
          have h1 : aggD dd = true ∨ i.size = 1 := by
            rw [Bool.or_eq_true] at hc
            rcases hc with hc | hc
            · exact .inl hc
            · exact .inr (Nat.eq_of_beq_eq_true hc)
          have hv : ∀ zs, valT P β e t zs = .agg (zs.map (Atom.den β e)).toArray := fun zs => by
            unfold valT; rw [hu]; rfl
          rw [hv, hv, run_equalIn_array w _ _ _ hu hi, show P.cellsOf el = i.size by simp [Program.cellsOf, hi]]
          obtain ⟨b', hb', rfl⟩ := Option.map_eq_some_iff.1 h
          rw [simpE_den]
          exact eqIs_sound ih hi hd h1 (List.range n) hb' w
      · cases h
    · cases h

theorem valT_agg {t : TypeId} (hw : (match P.underlying t with | some d => aggD d | none => false) = true) (zs : List Atom) :
    valT P β e t zs = .agg (zs.map (Atom.den β e)).toArray := by
  unfold valT
  split at hw
  · rename_i d hd
    rw [hw]
    rfl
  · cases hw

/-! ### Composite values -/
def setRow : List Atom → Nat → List Atom → List Atom
  | cs, _, [] => cs
  | cs, o, a :: l => setRow (cs.set o a) (o + 1) l
theorem setRow_length : ∀ (l cs : List Atom) (o : Nat), (setRow cs o l).length = cs.length
  | [], cs, o => rfl
  | a :: l, cs, o => by rw [setRow, setRow_length l]; simp
theorem setRow_mem {p : Atom → Prop} : ∀ (l cs : List Atom) (o : Nat), (∀ a ∈ cs, p a) → (∀ a ∈ l, p a) → ∀ a ∈ setRow cs o l, p a
  | [], _, _, h, _ => h
  | b :: l, cs, o, h, hl => setRow_mem l (cs.set o b) (o + 1) (fun a ha => by
      rcases List.mem_or_eq_of_mem_set ha with h1 | h1
      · exact h a h1
      · subst h1; exact hl _ (by simp)) (fun a ha => hl a (by simp [ha]))
def fillA (place : Nat → Option (Nat × Nat)) (cells : List Atom) : List (Nat × SV) → Option (List Atom)
  | [] => some cells
  | (i, v) :: rest => match place i, cellsOf v with
    | some (off, size), some l => bif Nat.beq l.length size && Nat.ble (off + l.length) cells.length then fillA place (setRow cells off l) rest else none
    | _, _ => none

theorem foldl_set (off : Nat) : ∀ (l : List Atom) (k : Nat) (cs : List Atom), ((l.map (Atom.den β e)).zipIdx k).foldl (fun (cs : Array Value) (c, j) => cs.setIfInBounds (off + j) c) (cs.map (Atom.den β e)).toArray =
    ((setRow cs (off + k) l).map (Atom.den β e)).toArray
  | [], k, cs => rfl
  | a :: l, k, cs => by
    rw [List.map_cons, List.zipIdx_cons, List.foldl_cons, setRow]
    have : ((cs.map (Atom.den β e)).toArray.setIfInBounds (off + k) (a.den β e)) = ((cs.set (off + k) a).map (Atom.den β e)).toArray := by
      simp [List.map_set]
    simp only
    rw [this]
    exact foldl_set off l (k + 1) (cs.set (off + k) a)

theorem fillA_sound {n : Nat} {place : Nat → Option (Nat × Nat)} : ∀ (ps : List (Nat × SV)) {cells out : List Atom}, fillA place cells ps = some out → (∀ x ∈ ps, x.2.ok n e) → (∀ a ∈ cells, a.ok n e) →
    Instr.fill place (cells.map (Atom.den β e)).toArray (ps.map fun x => (x.1, x.2.den β e)) = some (out.map (Atom.den β e)).toArray ∧ (∀ a ∈ out, a.ok n e) ∧ out.length = cells.length
  | [], cells, out, h, _, hc => by cases h; exact ⟨rfl, hc, rfl⟩
  | (i, v) :: rest, cells, out, h, hp, hc => by
    unfold fillA at h
    split at h
    · rename_i off size l hpl hcl
      cases hb : (Nat.beq l.length size && Nat.ble (off + l.length) cells.length) with
      | false => rw [hb] at h; cases h
      | true =>
        rw [hb] at h
        simp only [cond_true] at h
        rw [Bool.and_eq_true] at hb
        have h1 := Nat.eq_of_beq_eq_true hb.1
        have h2 := Nat.le_of_ble_eq_true hb.2
        have hv : v.ok n e := hp (i, v) (by simp)
        obtain ⟨g1, g2⟩ := cells_den (h := { blk := .leaf, cnt := n, ni := 0, nb := 0, nf := 0, ext := [], log := [], facts := [] }) (β := β) hv hcl
        have hlen : (v.den β e).cells.size = l.length := by rw [g1]; simp
        obtain ⟨k1, k2, k3⟩ := fillA_sound rest h (fun x hx => hp x (by simp [hx])) (setRow_mem l cells off hc g2)
        refine ⟨?_, k2, by rw [k3, setRow_length]⟩
        simp only [List.map_cons, Instr.fill, hpl]
        rw [if_neg (by rw [hlen]; simp; omega)]
        have : Array.foldl (fun (cs : Array Value) (x : Value × Nat) => match x with | (c, j) => cs.setIfInBounds (off + j) c) (cells.map (Atom.den β e)).toArray (v.den β e).cells.zipIdx = ((setRow cells off l).map (Atom.den β e)).toArray := by
          rw [g1]
          have := foldl_set (β := β) (e := e) off l 0 cells
          rw [Nat.add_zero] at this
          rw [← this, ← Array.foldl_toList]
          simp
        rw [this]
        exact k1
    · cases h

def zeroT (P : Program) (t : TypeId) : Option (List Atom) :=
  match P.info? t with
  | some i => match i.zero with
    | some v => match ofVal v with
      | some s => cellsOf s
      | none => none
    | none => none
  | none => none
theorem zeroT_sound {t : TypeId} {cs : List Atom} (h : zeroT P t = some cs) (β : Nat → Nat) (n : Nat) :
    ∃ v, (∀ w, (zeroValue t).run P w = .ok v w) ∧ v.cells = (cs.map (Atom.den β e)).toArray ∧ ∀ c ∈ cs, c.ok n e := by
  unfold zeroT at h
  split at h
  · rename_i i hi
    split at h
    · rename_i v hv
      split at h
      · rename_i s hs
        obtain ⟨h1, h2⟩ := ofVal_sound (β := β) (e := e) n hs
        have hh : s.ok ({ blk := .leaf, cnt := n, ni := 0, nb := 0, nf := 0, ext := [], log := [], facts := [] } : Hp).cnt e := h2
        obtain ⟨g1, g2⟩ := cells_den (β := β) hh h
        rw [h1] at g1
        refine ⟨v, fun w => ?_, g1, g2⟩
        unfold zeroValue typeInfo
        simp only [Sem.run_bind, run_program, Result.andThen_ok, hi, Sem.run_pure, hv]
      · cases h
    · cases h
  · cases h
def placesL (P : Program) : List Field → Option (List (Nat × Nat))
  | [] => some []
  | f :: fs => match P.info? f.type, placesL P fs with
    | some i, some l => some ((f.offset, i.size) :: l)
    | _, _ => none
theorem placesL_sound : ∀ (fs : List Field) {l : List (Nat × Nat)}, placesL P fs = some l → ∀ w, (fs.mapM fun f => do pure (f.offset, ← sizeOf f.type) : Sem (List (Nat × Nat))).run P w = .ok l w
  | [], l, h, w => by cases h; rfl
  | f :: fs, l, h, w => by
    unfold placesL at h
    split at h
    · rename_i i l' hi hl
      cases h
      simp only [List.mapM_cons, Sem.run_bind, run_sizeOf w hi, Result.andThen_ok, Sem.run_pure, placesL_sound fs hl w, Program.cellsOf, hi, Option.map_some, Option.getD_some]
    · cases h
def buildA (P : Program) (t : TypeId) (ps : List (Nat × SV)) : Option SV :=
  match zeroT P t, P.underlying t with
  | some z, some (.struct fs) => match placesL P fs.toList with
    | some pl => (fillA (fun i => pl[i]?) z ps).map fun l => .one (.agg l)
    | none => none
  | some z, some (.array _ el) => match P.info? el with
    | some i => (fillA (fun j => some (j * i.size, i.size)) z ps).map fun l => .one (.agg l)
    | none => none
  | _, _ => none
theorem buildA_sound {n : Nat} {t : TypeId} {ps : List (Nat × SV)} {s : SV} (h : buildA P t ps = some s) (hp : ∀ x ∈ ps, x.2.ok n e) :
    (∀ w, (Instr.build t (ps.map fun x => (x.1, x.2.den β e)).toArray).run P w = .ok (s.den β e) w) ∧ s.ok n e := by
  unfold buildA at h
  split at h
  · rename_i z fs hz hu
    split at h
    · rename_i pl hpl
      obtain ⟨l, hl, rfl⟩ := Option.map_eq_some_iff.1 h
      obtain ⟨v, z1, z2, z3⟩ := zeroT_sound (e := e) hz β n
      obtain ⟨g1, g2, _⟩ := fillA_sound (β := β) ps hl hp z3
      refine ⟨fun w => ?_, g2⟩
      have hm : (fs.mapM fun f => do pure (f.offset, ← sizeOf f.type) : Sem (Array (Nat × Nat))).run P w = .ok pl.toArray w := by
        rw [← Array.toArray_toList (xs := fs), List.mapM_toArray]
        simp only [map_eq_pure_bind, Sem.run_bind, placesL_sound fs.toList hpl w, Result.andThen_ok, Sem.run_pure]
      simp only [Instr.build, Sem.run_bind, z1, Result.andThen_ok, run_underlying hu, hm, z2]
      have : (fun i : Nat => pl.toArray[i]?) = fun i : Nat => pl[i]? := by funext i; simp
      rw [this, g1]
      rfl
    · cases h
  · rename_i z m el hz hu
    split at h
    · rename_i i hi
      obtain ⟨l, hl, rfl⟩ := Option.map_eq_some_iff.1 h
      obtain ⟨v, z1, z2, z3⟩ := zeroT_sound (e := e) hz β n
      obtain ⟨g1, g2, _⟩ := fillA_sound (β := β) ps hl hp z3
      refine ⟨fun w => ?_, g2⟩
      simp only [Instr.build, Sem.run_bind, z1, Result.andThen_ok, run_underlying hu, run_sizeOf w hi, z2, Program.cellsOf, hi, Option.map_some, Option.getD_some]
      rw [g1]
      rfl
    · cases h
  · cases h
end
end Go.Sx
namespace Go.Sx
open Go
section
variable {e : Env}
def isNilLit : Value → Bool
  | .nilIface => true
  | _ => false
def isNilPtr : Value → Bool
  | .pointer none => true
  | _ => false
def isNilSl : Value → Bool
  | .slice none 0 0 => true
  | _ => false
theorem isNilPtr_spec {v : Value} (h : isNilPtr v = true) : v = .pointer none := by
  unfold isNilPtr at h
  split at h
  · rfl
  · cases h
theorem isNilSl_spec {v : Value} (h : isNilSl v = true) : v = .slice none 0 0 := by
  unfold isNilSl at h
  split at h
  · rfl
  · cases h
def isConst : Operand → Bool
  | .const _ => true
  | _ => false

/-- '==' as a truth, by the shapes. 'ca': one of the operands is a constant. -/
def eqOp (P : Program) (t : TypeId) (ca : Bool) (x y : SV) : Option BE :=
  match x, y with
  | .one (.at (.bool a)), .one (.at (.bool b)) => match P.underlying t with
    | some .bool => some (equalB a b)
    | _ => none
  | .one (.at (.iface _ _)), .one (.at (.lit v)) => bif isNilLit v then match P.underlying t with
      | some (.interface _) => some (.c false)
      | _ => none
    else none
  | .one (.at (.lit v)), .one (.at (.lit u)) => bif isNilLit v && isNilLit u && ca then match P.underlying t with
      | some (.interface _) => some (.c true)
      | _ => none
    else bif isNilPtr v && isNilPtr u then match P.underlying t with
      | some (.pointer _) => some (.c true)
      | _ => none
    else none
  | .one (.agg xs), .one (.agg ys) => bif (match P.underlying t with | some d => aggD d | none => false) && !P.eqGuardType P.depth t then eqT P 8 t xs ys else none
  | .one (.at (.ptr _)), .one (.at (.lit v)) => bif isNilPtr v then match P.underlying t with
      | some (.pointer _) => some (.c false)
      | _ => none
    else none
  | .one (.at (.slice _ _ _)), .one (.at (.lit v)) => bif isNilSl v then match P.underlying t with
      | some (.slice _) => some (.c false)
      | _ => none
    else none
  | .one (.at (.slc _ _ _ _)), .one (.at (.lit v)) => bif isNilSl v then match P.underlying t with
      | some (.slice _) => some (.c false)
      | _ => none
    else none
  | _, _ => none

theorem isNilLit_spec {v : Value} (h : isNilLit v = true) : v = .nilIface := by
  cases v <;> first | rfl | cases h

def BinOp.isEq : BinOp → Bool
  | .eql => true
  | .neq => true
  | _ => false

theorem run_equal_bool {P : Program} {t : TypeId} (hd : P.underlying t = some .bool) (a b : Bool) (w : World) : (Op.equal t (.bool a) (.bool b)).run P w = .ok (a == b) w := by
  have key : ∀ d : Nat, (Op.equalIn (d + 1) t (.bool a) (.bool b)).run P w = .ok (a == b) w := fun d => by
    unfold Op.equalIn
    rw [Sem.run_bind, run_underlying hd]
    rfl
  exact key 9999
theorem run_equal_ifn {P : Program} {t : TypeId} {ms} (hd : P.underlying t = some (.interface ms)) (d' : TypeId) (v : Value) (w : World) : (Op.equal t (.iface d' v) .nilIface).run P w = .ok false w := by
  have key : ∀ d : Nat, (Op.equalIn (d + 1) t (.iface d' v) .nilIface).run P w = .ok false w := fun d => by
    unfold Op.equalIn
    rw [Sem.run_bind, run_underlying hd]
    rfl
  exact key 9999
theorem run_equal_nn {P : Program} {t : TypeId} {ms} (hd : P.underlying t = some (.interface ms)) (w : World) : (Op.equal t .nilIface .nilIface).run P w = .ok true w := by
  have key : ∀ d : Nat, (Op.equalIn (d + 1) t .nilIface .nilIface).run P w = .ok true w := fun d => by
    unfold Op.equalIn
    rw [Sem.run_bind, run_underlying hd]
    rfl
  exact key 9999
theorem run_binOp_eq {P : Program} {t : TypeId} {x y : Value} {b : Bool} {w : World} (h : (Op.equal t x y).run P w = .ok b w)
    (hne : ∀ op, op = .eql ∨ op = .neq → binOp op t x y = (match op with | .eql => do pure (.bool (← Op.equal t x y)) | _ => do pure (.bool (!(← Op.equal t x y)))))
    (op : BinOp) (hop : op = .eql ∨ op = .neq) : (binOp op t x y).run P w = .ok (.bool (if op = .eql then b else !b)) w := by
  rw [hne op hop]
  rcases hop with rfl | rfl
  · simp only [Sem.run_bind, h, Result.andThen_ok, Sem.run_pure, if_true]
  · simp only [Sem.run_bind, h, Result.andThen_ok, Sem.run_pure]
    rfl

theorem eqOp_sound {P : Program} {β : Nat → Nat} {t : TypeId} {ox oy : Operand} {x y : SV} {b : BE} (h : eqOp P t (isConst ox || isConst oy) x y = some b) (op : BinOp) (hop : op = .eql ∨ op = .neq) (w : World) :
    (do eqGuard op t ox oy (x.den β e) (y.den β e); binOp op t (x.den β e) (y.den β e) : Sem Value).run P w =
      .ok (.bool (if op = .eql then b.den e else !(b.den e))) w := by
  unfold eqOp at h
  split at h
  · rename_i a c
    split at h
    · rename_i hd
      simp only [Option.some.injEq] at h
      subst h
      simp only [SV.den, SV1.den, Atom.den, eqGuard_at_bool]
      rw [Sem.run_bind, Sem.run_pure, Result.andThen_ok, equalB_den]
      exact run_binOp_eq (run_equal_bool hd _ _ w) (fun op hop => by rcases hop with rfl | rfl <;> rfl) op hop
    · cases h
  · rename_i d a v
    cases hn : isNilLit v with
    | false => rw [hn] at h; cases h
    | true =>
      rw [hn] at h
      simp only [cond_true] at h
      have := isNilLit_spec hn
      subst this
      split at h
      · rename_i ms hd
        simp only [Option.some.injEq] at h
        subst h
        simp only [SV.den, SV1.den, Atom.den, eqGuard_at_iface]
        rw [Sem.run_bind, Sem.run_pure, Result.andThen_ok]
        exact run_binOp_eq (run_equal_ifn hd _ _ w) (fun op hop => by rcases hop with rfl | rfl <;> rfl) op hop
      · cases h
  · rename_i v u
    cases hn : (isNilLit v && isNilLit u && (isConst ox || isConst oy)) with
    | false =>
      rw [hn] at h
      simp only [cond_false] at h
      cases hn2 : (isNilPtr v && isNilPtr u) with
      | false => rw [hn2] at h; cases h
      | true =>
        rw [hn2] at h
        simp only [cond_true] at h
        simp only [Bool.and_eq_true] at hn2
        have h1 := isNilPtr_spec hn2.1
        have h2 := isNilPtr_spec hn2.2
        subst h1; subst h2
        split at h
        · rename_i el hd
          simp only [Option.some.injEq] at h
          subst h
          simp only [SV.den, SV1.den, Atom.den, eqGuard_at_pointer]
          rw [Sem.run_bind, Sem.run_pure, Result.andThen_ok]
          have hq : (Op.equal t (.pointer none) (.pointer none)).run P w = .ok true w := by
            have key : ∀ d : Nat, (Op.equalIn (d + 1) t (.pointer none) (.pointer none)).run P w = .ok true w := fun d => by
              unfold Op.equalIn
              rw [Sem.run_bind, run_underlying hd]
              rfl
            exact key 9999
          exact run_binOp_eq hq (fun op hop => by rcases hop with rfl | rfl <;> rfl) op hop
        · cases h
    | true =>
      rw [hn] at h
      simp only [cond_true] at h
      simp only [Bool.and_eq_true] at hn
      have h1 := isNilLit_spec hn.1.1
      have h2 := isNilLit_spec hn.1.2
      subst h1; subst h2
      split at h
      · rename_i ms hd
        simp only [Option.some.injEq] at h
        subst h
        simp only [SV.den, SV1.den, Atom.den]
        have hg : eqGuard op t ox oy .nilIface .nilIface = pure () := by
          have hc := hn.2
          rw [Bool.or_eq_true] at hc
          rcases hc with hc | hc
          · cases ox <;> first | (cases hc; done) | exact eqGuard_nil_constL op t _ _
          · cases oy <;> first | (cases hc; done) | exact eqGuard_nil_constR op t _ _
        rw [hg, Sem.run_bind, Sem.run_pure, Result.andThen_ok]
        exact run_binOp_eq (run_equal_nn hd w) (fun op hop => by rcases hop with rfl | rfl <;> rfl) op hop
      · cases h
  · rename_i xs ys
    cases hc : ((match P.underlying t with | some d => aggD d | none => false) && !P.eqGuardType P.depth t) with
    | false => rw [hc] at h; cases h
    | true =>
      rw [hc] at h
      simp only [cond_true] at h
      rw [Bool.and_eq_true, Bool.not_eq_true'] at hc
      have he := eqT_sound (P := P) (β := β) (e := e) 9992 8 t xs ys b h w
      rw [valT_agg hc.1, valT_agg hc.1] at he
      simp only [SV.den, SV1.den]
      rw [Sem.run_bind, run_eqGuard_agg w op t ox oy _ _ hc.2, Result.andThen_ok]
      exact run_binOp_eq he (fun op hop => by rcases hop with rfl | rfl <;> rfl) op hop
  · rename_i a v
    cases hn : isNilPtr v with
    | false => rw [hn] at h; cases h
    | true =>
      rw [hn] at h
      simp only [cond_true] at h
      have := isNilPtr_spec hn
      subst this
      split at h
      · rename_i el hd
        simp only [Option.some.injEq] at h
        subst h
        simp only [SV.den, SV1.den, Atom.den, eqGuard_at_pointer]
        rw [Sem.run_bind, Sem.run_pure, Result.andThen_ok]
        have hq : (Op.equal t (.pointer (some (a.den β e))) (.pointer none)).run P w = .ok false w := by
          have key : ∀ d : Nat, (Op.equalIn (d + 1) t (.pointer (some (a.den β e))) (.pointer none)).run P w = .ok false w := fun d => by
            unfold Op.equalIn
            rw [Sem.run_bind, run_underlying hd]
            rfl
          exact key 9999
        exact run_binOp_eq hq (fun op hop => by rcases hop with rfl | rfl <;> rfl) op hop
      · cases h
  · rename_i a l c v
    cases hn : isNilSl v with
    | false => rw [hn] at h; cases h
    | true =>
      rw [hn] at h
      simp only [cond_true] at h
      have := isNilSl_spec hn
      subst this
      split at h
      · rename_i el hd
        simp only [Option.some.injEq] at h
        subst h
        simp only [SV.den, SV1.den, Atom.den, eqGuard_at_slice]
        rw [Sem.run_bind, Sem.run_pure, Result.andThen_ok]
        have hq : (Op.equal t (.slice (some (a.den β e)) l c) (.slice none 0 0)).run P w = .ok false w := by
          have key : ∀ d : Nat, (Op.equalIn (d + 1) t (.slice (some (a.den β e)) l c) (.slice none 0 0)).run P w = .ok false w := fun d => by
            unfold Op.equalIn
            rw [Sem.run_bind, run_underlying hd]
            rfl
          exact key 9999
        exact run_binOp_eq hq (fun op hop => by rcases hop with rfl | rfl <;> rfl) op hop
      · cases h
  · rename_i a l m kc v
    cases hn : isNilSl v with
    | false => rw [hn] at h; cases h
    | true =>
      rw [hn] at h
      simp only [cond_true] at h
      have := isNilSl_spec hn
      subst this
      split at h
      · rename_i el hd
        simp only [Option.some.injEq] at h
        subst h
        simp only [SV.den, SV1.den, Atom.den, eqGuard_at_slice]
        rw [Sem.run_bind, Sem.run_pure, Result.andThen_ok]
        have hq : (Op.equal t (.slice (some (a.den β e)) l (m + β kc)) (.slice none 0 0)).run P w = .ok false w := by
          have key : ∀ d : Nat, (Op.equalIn (d + 1) t (.slice (some (a.den β e)) l (m + β kc)) (.slice none 0 0)).run P w = .ok false w := fun d => by
            unfold Op.equalIn
            rw [Sem.run_bind, run_underlying hd]
            rfl
          exact key 9999
        exact run_binOp_eq hq (fun op hop => by rcases hop with rfl | rfl <;> rfl) op hop
      · cases h
  · cases h

/-! ### The operations -/
def asOne : SV → Option SV1
  | .one x => some x
  | .tup _ => none
def nilcOp (x : SV) : Option SV :=
  match x with
  | .one (.at (.ptr _)) => some x
  | _ => none
def extrOp (t : SV) (i : Nat) : Option SV :=
  match t with
  | .tup l => (l[i]?).map .one
  | _ => none
def sizeT (P : Program) (t : TypeId) : Option Nat := (P.info? t).map (·.size)
def idxA (P : Program) (t : TypeId) (x ix : SV) : Option SV :=
  match ix with
  | .one (.at (.int _ (.c i))) => match P.underlying t with
    | some (.array len elem) => match x, sizeT P elem with
      | .one (.at (.ptr a)), some n => bif decide (0 ≤ i) && decide (i < len) then some (.one (.at (.ptr ⟨a.root, a.off + i.toNat * n⟩))) else none
      | _, _ => none
    | some (.slice elem) => match x, sizeT P elem with
      | .one (.at (.slice a len _)), some n => bif decide (0 ≤ i) && decide (i < len) then some (.one (.at (.ptr ⟨a.root, a.off + i.toNat * n⟩))) else none
      | .one (.at (.slc a len _ _)), some n => bif decide (0 ≤ i) && decide (i < len) then some (.one (.at (.ptr ⟨a.root, a.off + i.toNat * n⟩))) else none
      | _, _ => none
    | _ => none
  | _ => none
def fldA (P : Program) (t : TypeId) (x : SV) (f : Nat) : Option SV :=
  match x with
  | .one (.at (.ptr a)) => match P.underlying t with
    | some (.struct fs) => match fs.toList[f]? with
      | some fd => match sizeT P fd.type with
        | some n => bif Nat.beq n 0 then none else some (.one (.at (.ptr ⟨a.root, a.off + fd.offset⟩)))
        | none => none
      | none => none
    | _ => none
  | _ => none
def pickOp (c a b : SV) : Option SV :=
  match c with
  | .one (.at (.bool (.c true))) => some a
  | .one (.at (.bool (.c false))) => some b
  | .one (.at (.bool x)) => match a, b with
    | .one (.at (.bool y)), .one (.at (.bool z)) => some (.one (.at (.bool (mkOr (mkAnd x y) (mkAnd (mkNot x) z)))))
    | _, _ => none
  | _ => none
def notOp (x : SV) : Option SV :=
  match x with
  | .one (.at (.bool b)) => some (.one (.at (.bool (mkNot b))))
  | _ => none
def ifaceOp (P : Program) (t : TypeId) (x : SV) : Option SV :=
  match x with
  | .one (.at a) => match P.underlying t with
    | some (.interface _) => none
    | some _ => some (.one (.at (.iface t a)))
    | none => none
  | _ => none
/-- x[lo:hi] of a slice or of an array behind a pointer, the bounds known. -/
def bnd (y : Nat) (x : Option SV) (d : Nat) : Option Nat :=
  match x with
  | none => some d
  | some (.one (.at (.int _ (.c i)))) => bif decide (0 ≤ i) && decide (i ≤ y) then some i.toNat else none
  | _ => none

def sliceA (P : Program) (t : TypeId) (x : SV) (lo hi : Option SV) : Option SV :=
  match P.underlying t, x with
  | some (.array m el), .one (.at (.ptr a)) => match sizeT P el, bnd m hi m with
    | some sz, some hh => match bnd hh lo 0 with
      | some l => some (.one (.at (.slice (bif Nat.beq m l then a else ⟨a.root, a.off + l * sz⟩) (hh - l) (m - l))))
      | none => none
    | _, _ => none
  | some (.slice el), .one (.at (.slice a len cap)) => match sizeT P el, bnd cap hi len with
    | some sz, some hh => match bnd hh lo 0 with
      | some l => some (.one (.at (.slice (bif Nat.beq cap l then a else ⟨a.root, a.off + l * sz⟩) (hh - l) (cap - l))))
      | none => none
    | _, _ => none
  | some (.slice el), .one (.at (.slc a len m kc)) => match sizeT P el, bnd m hi len with
    | some sz, some hh => match bnd hh lo 0 with
      | some l => bif Nat.blt l m then some (.one (.at (.slc ⟨a.root, a.off + l * sz⟩ (hh - l) (m - l) kc))) else none
      | none => none
    | _, _ => none
  | _, _ => none
def arrA (P : Program) (t : TypeId) (x : SV) : Option SV :=
  match P.underlying t, x with
  | some (.array m _), .one (.at (.slice a len _)) => bif Nat.ble m len then some (.one (.at (.ptr a))) else none
  | some (.array m _), .one (.at (.slc a len _ _)) => bif Nat.ble m len then some (.one (.at (.ptr a))) else none
  | _, _ => none

variable {P : Program} {β : Nat → Nat} {n : Nat}

theorem run_sizeOf' {t : TypeId} {k : Nat} (h : sizeT P t = some k) (w : World) : (sizeOf t).run P w = .ok k w := by
  unfold sizeT at h
  obtain ⟨i, hi, rfl⟩ := Option.map_eq_some_iff.1 h
  simp only [sizeOf, typeInfo, Sem.run_bind, run_program, Result.andThen_ok, hi, Sem.run_pure]

theorem bnd_sound {y d r : Nat} {x : Option SV} (h : bnd y x d = some r) (code : BoundsCode) (w : World) :
    (match x with | some v => Instr.sliceBound (v.den β e) y code | none => pure d : Sem Nat).run P w = .ok r w := by
  unfold bnd at h
  split at h
  · cases h; rfl
  · rename_i k i
    simp only at h
    cases hb : (decide (0 ≤ i) && decide (i ≤ (y : Int))) with
    | false => rw [hb] at h; cases h
    | true =>
      rw [hb] at h
      simp only [cond_true, Option.some.injEq] at h
      subst h
      simp only [Bool.and_eq_true, decide_eq_true_eq] at hb
      simp only [SV.den, SV1.den, Atom.den, IE.den, Instr.sliceBound, asIntOf, Sem.run_bind, Sem.run_pure, Result.andThen_ok, if_pos hb]
  · cases h

theorem bnd_le {y y' d r : Nat} {x : Option SV} (h : bnd y x d = some r) (hy : y ≤ y') : bnd y' x d = some r := by
  unfold bnd at h ⊢
  split at h
  · exact h
  · rename_i k i
    cases hb : (decide (0 ≤ i) && decide (i ≤ (y : Int))) with
    | false => rw [hb] at h; cases h
    | true =>
      rw [hb] at h
      simp only [Bool.and_eq_true, decide_eq_true_eq] at hb
      have : (decide (0 ≤ i) && decide (i ≤ (y' : Int))) = true := by
        simp only [Bool.and_eq_true, decide_eq_true_eq]
        omega
      simp only [this]
      exact h
  · cases h
theorem sliceA_sound {t : TypeId} {x s : SV} {lo hi : Option SV} (h : sliceA P t x lo hi = some s) (hx : x.ok n e) (w : World) :
    (Instr.sliceAt t (x.den β e) (lo.map (SV.den β e)) (hi.map (SV.den β e)) none).run P w = .ok (s.den β e) w ∧ s.ok n e := by
  unfold sliceA at h
  split at h
  · rename_i m el a hu
    split at h
    · rename_i sz hh hsz hb1
      split at h
      · rename_i l hb2
        cases h
        have e1 := bnd_sound (P := P) (β := β) (e := e) hb1 .sliceAlen w
        have e2 := bnd_sound (P := P) (β := β) (e := e) hb2 .sliceB w
        have hsb : (Instr.sliceBounds false m m (lo.map (SV.den β e)) (hi.map (SV.den β e)) none).run P w = .ok (l, hh, m) w := by
          cases lo <;> cases hi <;> simp only [Option.map_some, Option.map_none, Instr.sliceBounds, Sem.run_bind, Sem.run_pure, Result.andThen_ok, Option.isSome_none, Bool.false_eq_true, if_false] at e1 e2 ⊢
          · cases e1; cases e2; rfl
          · rw [e1]; simp only [Result.andThen_ok, Sem.run_pure]; cases e2; rfl
          · cases e1; rw [e2]; rfl
          · rw [e1]; simp only [Result.andThen_ok]; rw [e2]; rfl
        constructor
        · unfold Instr.sliceAt
          simp only [Sem.run_bind, run_underlying hu, Result.andThen_ok, SV.den, SV1.den, Atom.den, Instr.sureAddr, Sem.run_pure, hsb, run_sizeOf' hsz]
          cases hm : Nat.beq m l with
          | true => rw [if_pos (Nat.eq_of_beq_eq_true hm)]; rfl
          | false => rw [if_neg (Nat.ne_of_beq_eq_false hm), cond_false, sa_add]
        · show Root.ok n (SA.root _)
          cases Nat.beq m l <;> exact hx
      · cases h
    · cases h
  · rename_i el a len cap hu
    split at h
    · rename_i sz hh hsz hb1
      split at h
      · rename_i l hb2
        cases h
        have e1 := bnd_sound (P := P) (β := β) (e := e) hb1 .sliceAcap w
        have e2 := bnd_sound (P := P) (β := β) (e := e) hb2 .sliceB w
        have hsb : (Instr.sliceBounds true len cap (lo.map (SV.den β e)) (hi.map (SV.den β e)) none).run P w = .ok (l, hh, cap) w := by
          cases lo <;> cases hi <;> simp only [Option.map_some, Option.map_none, Instr.sliceBounds, Sem.run_bind, Sem.run_pure, Result.andThen_ok, Option.isSome_none, Bool.false_eq_true, if_false, if_true] at e1 e2 ⊢
          · cases e1; cases e2; rfl
          · rw [e1]; simp only [Result.andThen_ok, Sem.run_pure]; cases e2; rfl
          · cases e1; rw [e2]; rfl
          · rw [e1]; simp only [Result.andThen_ok]; rw [e2]; rfl
        constructor
        · unfold Instr.sliceAt
          simp only [Sem.run_bind, run_underlying hu, Result.andThen_ok, SV.den, SV1.den, Atom.den, Instr.slice, Sem.run_pure, hsb, run_sizeOf' hsz]
          cases hm : Nat.beq cap l with
          | true => rw [if_pos (Nat.eq_of_beq_eq_true hm)]; rfl
          | false => rw [if_neg (Nat.ne_of_beq_eq_false hm), cond_false, Option.map_some, sa_add]
        · show Root.ok n (SA.root _)
          cases Nat.beq cap l <;> exact hx
      · cases h
    · cases h
  · rename_i el a len m kc hu
    split at h
    · rename_i sz hh hsz hb1
      split at h
      · rename_i l hb2
        cases hlt : Nat.blt l m with
        | false => rw [hlt] at h; cases h
        | true =>
        rw [hlt] at h
        cases h
        have hlm : l < m := by simpa [Nat.blt_eq] using hlt
        have e1 := bnd_sound (P := P) (β := β) (e := e) (bnd_le hb1 (Nat.le_add_right m (β kc))) .sliceAcap w
        have e2 := bnd_sound (P := P) (β := β) (e := e) hb2 .sliceB w
        have hsb : (Instr.sliceBounds true len (m + β kc) (lo.map (SV.den β e)) (hi.map (SV.den β e)) none).run P w = .ok (l, hh, m + β kc) w := by
          cases lo <;> cases hi <;> simp only [Option.map_some, Option.map_none, Instr.sliceBounds, Sem.run_bind, Sem.run_pure, Result.andThen_ok, Option.isSome_none, Bool.false_eq_true, if_false, if_true] at e1 e2 ⊢
          · cases e1; cases e2; rfl
          · rw [e1]; simp only [Result.andThen_ok, Sem.run_pure]; cases e2; rfl
          · cases e1; rw [e2]; rfl
          · rw [e1]; simp only [Result.andThen_ok]; rw [e2]; rfl
        constructor
        · unfold Instr.sliceAt
          simp only [Sem.run_bind, run_underlying hu, Result.andThen_ok, SV.den, SV1.den, Atom.den, Instr.slice, Sem.run_pure, hsb, run_sizeOf' hsz]
          rw [if_neg (by omega), Option.map_some, sa_add, show m + β kc - l = m - l + β kc by omega]
        · exact hx
      · cases h
    · cases h
  · cases h

theorem arrA_sound {t : TypeId} {x s : SV} (h : arrA P t x = some s) (hx : x.ok n e) (w : World) : (Instr.arrayAt t (x.den β e)).run P w = .ok (s.den β e) w ∧ s.ok n e := by
  unfold arrA at h
  split at h
  · rename_i m el a len cap hu
    cases hm : Nat.ble m len with
    | false => rw [hm] at h; cases h
    | true =>
      rw [hm] at h
      cases h
      refine ⟨?_, hx⟩
      have := Nat.le_of_ble_eq_true hm
      simp only [Instr.arrayAt, Sem.run_bind, run_underlying hu, Result.andThen_ok, SV.den, SV1.den, Atom.den]
      rw [if_neg (by omega)]
      rfl
  · rename_i m el a len m' kc hu
    cases hm : Nat.ble m len with
    | false => rw [hm] at h; cases h
    | true =>
      rw [hm] at h
      cases h
      refine ⟨?_, hx.1⟩
      have := Nat.le_of_ble_eq_true hm
      simp only [Instr.arrayAt, Sem.run_bind, run_underlying hu, Result.andThen_ok, SV.den, SV1.den, Atom.den]
      rw [if_neg (by omega)]
      rfl
  · cases h

theorem nilcOp_sound {x s : SV} (h : nilcOp x = some s) (hx : x.ok n e) {ρ : Operand → Value} {o : Oper} {ox : Operand} (hop : o.op = .nilCheck ox) (hρ : ρ ox = x.den β e) :
    (∀ w, (execOp ρ o).run P w = .ok (.value (s.den β e)) w) ∧ s.ok n e := by
  unfold nilcOp at h
  split at h
  · cases h
    refine ⟨fun w => ?_, hx⟩
    unfold execOp
    rw [hop]
    simp only [hρ]
    rfl
  · cases h

theorem extrOp_sound {x s : SV} {i : Nat} (h : extrOp x i = some s) (hx : x.ok n e) {ρ : Operand → Value} {o : Oper} {ox : Operand} (hop : o.op = .extract ox i) (hρ : ρ ox = x.den β e) :
    (∀ w, (execOp ρ o).run P w = .ok (.value (s.den β e)) w) ∧ s.ok n e := by
  unfold extrOp at h
  split at h
  · rename_i l
    obtain ⟨y, hy, rfl⟩ := Option.map_eq_some_iff.1 h
    refine ⟨fun w => ?_, hx y (List.mem_of_getElem? hy)⟩
    unfold execOp
    rw [hop]
    simp only [hρ, SV.den, Instr.extract]
    have hg : (l.map (SV1.den β e)).toArray[i]? = some (y.den β e) := by simp [hy]
    rw [hg]
    rfl
  · cases h

theorem run_sizeOf {t : TypeId} {k : Nat} (h : sizeT P t = some k) (w : World) : (sizeOf t).run P w = .ok k w := by
  unfold sizeT at h
  obtain ⟨i, hi, rfl⟩ := Option.map_eq_some_iff.1 h
  simp only [sizeOf, typeInfo, Sem.run_bind, run_program, Result.andThen_ok, hi, Sem.run_pure]

theorem idxA_sound {t : TypeId} {x ix s : SV} (h : idxA P t x ix = some s) (hx : x.ok n e) {ρ : Operand → Value} {o : Oper} {ox oi : Operand} (hop : o.op = .indexAddr t ox oi) (hρ : ρ ox = x.den β e) (hi : ρ oi = ix.den β e) :
    (∀ w, (execOp ρ o).run P w = .ok (.value (s.den β e)) w) ∧ s.ok n e := by
  have ex : ∀ w, (execOp ρ o).run P w = ((Instr.indexAt t (x.den β e) (ix.den β e)).run P w).andThen fun v w' => .ok (.value v) w' := fun w => by
    unfold execOp
    rw [hop]
    simp only [hρ, hi, Sem.run_bind, Sem.run_pure]
  unfold idxA at h
  split at h
  · rename_i k i
    split at h
    · rename_i len elem hd
      split at h
      · rename_i a m hs
        cases hb : (decide (0 ≤ i) && decide (i < (len : Int))) with
        | false => rw [hb] at h; cases h
        | true =>
          rw [hb] at h
          simp only [cond_true, Option.some.injEq] at h
          subst h
          simp only [Bool.and_eq_true, decide_eq_true_eq] at hb
          refine ⟨fun w => ?_, hx⟩
          rw [ex]
          have : (Instr.indexAt t (.pointer (some (a.den β e))) (.int k i)).run P w = .ok (.pointer (some ((⟨a.root, a.off + i.toNat * m⟩ : SA).den β e))) w := by
            simp only [Instr.indexAt, Sem.run_bind, run_underlying hd, asIntOf, Sem.run_pure, Result.andThen_ok, Instr.sureAddr, if_pos hb, run_sizeOf hs]
            rw [← sa_add]
          exact congrArg (fun r : Result Value => r.andThen fun v w' => (Result.ok (Next.value v) w' : Result Next)) this
      · cases h
    · rename_i elem hd
      split at h
      · rename_i a len cap m hs
        cases hb : (decide (0 ≤ i) && decide (i < (len : Int))) with
        | false => rw [hb] at h; cases h
        | true =>
          rw [hb] at h
          simp only [cond_true, Option.some.injEq] at h
          subst h
          simp only [Bool.and_eq_true, decide_eq_true_eq] at hb
          refine ⟨fun w => ?_, hx⟩
          rw [ex]
          have : (Instr.indexAt t (.slice (some (a.den β e)) len cap) (.int k i)).run P w = .ok (.pointer (some ((⟨a.root, a.off + i.toNat * m⟩ : SA).den β e))) w := by
            simp only [Instr.indexAt, Sem.run_bind, run_underlying hd, asIntOf, Sem.run_pure, Result.andThen_ok, if_pos hb, run_sizeOf hs]
            rw [← sa_add]
          exact congrArg (fun r : Result Value => r.andThen fun v w' => (Result.ok (Next.value v) w' : Result Next)) this
      · rename_i a len mm kc m hs
        cases hb : (decide (0 ≤ i) && decide (i < (len : Int))) with
        | false => rw [hb] at h; cases h
        | true =>
          rw [hb] at h
          simp only [cond_true, Option.some.injEq] at h
          subst h
          simp only [Bool.and_eq_true, decide_eq_true_eq] at hb
          refine ⟨fun w => ?_, hx.1⟩
          rw [ex]
          have : (Instr.indexAt t (.slice (some (a.den β e)) len (mm + β kc)) (.int k i)).run P w = .ok (.pointer (some ((⟨a.root, a.off + i.toNat * m⟩ : SA).den β e))) w := by
            simp only [Instr.indexAt, Sem.run_bind, run_underlying hd, asIntOf, Sem.run_pure, Result.andThen_ok, if_pos hb, run_sizeOf hs]
            rw [← sa_add]
          exact congrArg (fun r : Result Value => r.andThen fun v w' => (Result.ok (Next.value v) w' : Result Next)) this
      · cases h
    · cases h
  · cases h

theorem fldA_sound {t : TypeId} {x s : SV} {f : Nat} (h : fldA P t x f = some s) (hx : x.ok n e) {ρ : Operand → Value} {o : Oper} {ox : Operand} (hop : o.op = .fieldAddr t ox f) (hρ : ρ ox = x.den β e) :
    (∀ w, (execOp ρ o).run P w = .ok (.value (s.den β e)) w) ∧ s.ok n e := by
  unfold fldA at h
  split at h
  · rename_i a
    split at h
    · rename_i fs hd
      split at h
      · rename_i fd hf
        split at h
        · rename_i m hs
          cases hb : Nat.beq m 0 with
          | true => rw [hb] at h; cases h
          | false =>
            rw [hb] at h
            simp only [cond_false, Option.some.injEq] at h
            subst h
            have hm : m ≠ 0 := Nat.ne_of_beq_eq_false hb
            refine ⟨fun w => ?_, hx⟩
            unfold execOp
            rw [hop]
            have hf' : fs[f]? = some fd := by rw [← hf]; simp
            simp only [hρ, SV.den, SV1.den, Atom.den, Instr.fieldAt, fieldPlace, Sem.run_bind, run_underlying hd, Sem.run_pure, Result.andThen_ok, hf', Instr.sureAddr, run_sizeOf hs, if_neg hm]
            rw [sa_add]
        · cases h
      · cases h
    · cases h
  · cases h

theorem pickOp_sound {c a b s : SV} (h : pickOp c a b = some s) (ha : a.ok n e) (hb : b.ok n e) {ρ : Operand → Value} {o : Oper} {oc oa ob : Operand} (hop : o.op = .pick oc oa ob) (hc : ρ oc = c.den β e)
    (hρa : c.den β e = .bool true → ρ oa = a.den β e) (hρb : c.den β e = .bool false → ρ ob = b.den β e) :
    (∀ w, (execOp ρ o).run P w = .ok (.value (s.den β e)) w) ∧ s.ok n e := by
  have ex : ∀ t : Bool, c.den β e = .bool t → ∀ w, (execOp ρ o).run P w = .ok (.value (if t = true then ρ oa else ρ ob)) w := fun t ht w => by
    unfold execOp
    rw [hop]
    simp only [hc, ht, asBool, Sem.run_bind, Sem.run_pure, Result.andThen_ok]
  unfold pickOp at h
  split at h
  · cases h
    exact ⟨fun w => by rw [ex true rfl, if_pos rfl, hρa rfl], ha⟩
  · cases h
    exact ⟨fun w => by rw [ex false rfl, if_neg (by simp), hρb rfl], hb⟩
  · rename_i x _ _
    split at h
    · rename_i y z
      cases h
      refine ⟨fun w => ?_, trivial⟩
      cases hx : x.den e with
      | true =>
        have hden : (SV.one (.at (.bool x))).den β e = .bool true := by simp only [SV.den, SV1.den, Atom.den, hx]
        rw [ex true hden, if_pos rfl, hρa hden]
        simp only [SV.den, SV1.den, Atom.den, mkOr_den, mkAnd_den, mkNot_den, hx]
        simp
      | false =>
        have hden : (SV.one (.at (.bool x))).den β e = .bool false := by simp only [SV.den, SV1.den, Atom.den, hx]
        rw [ex false hden, if_neg (by simp), hρb hden]
        simp only [SV.den, SV1.den, Atom.den, mkOr_den, mkAnd_den, mkNot_den, hx]
        simp
    · cases h
  · cases h

theorem notOp_sound {x s : SV} (h : notOp x = some s) {ρ : Operand → Value} {o : Oper} {ox : Operand} {t : TypeId} (hop : o.op = .unOp .not t ox) (hρ : ρ ox = x.den β e) :
    (∀ w, (execOp ρ o).run P w = .ok (.value (s.den β e)) w) ∧ s.ok n e := by
  unfold notOp at h
  split at h
  · cases h
    refine ⟨fun w => ?_, trivial⟩
    unfold execOp
    rw [hop]
    simp only [hρ, SV.den, SV1.den, Atom.den, Op.unary, Sem.run_bind, Sem.run_pure, Result.andThen_ok, mkNot_den]
  · cases h

theorem ifaceOp_sound {x s : SV} {t : TypeId} (h : ifaceOp P t x = some s) (hx : x.ok n e) {ρ : Operand → Value} {o : Oper} {ox : Operand} (hop : o.op = .makeInterface t ox) (hρ : ρ ox = x.den β e) :
    (∀ w, (execOp ρ o).run P w = .ok (.value (s.den β e)) w) ∧ s.ok n e := by
  unfold ifaceOp at h
  split at h
  · rename_i a
    split at h
    · cases h
    · rename_i d hni hd
      cases h
      refine ⟨fun w => ?_, hx⟩
      unfold execOp
      rw [hop]
      have : (Instr.makeInterface t (ρ ox)).run P w = .ok (.iface t (ρ ox)) w := by
        unfold Instr.makeInterface
        rw [Sem.run_bind, run_underlying hd, Result.andThen_ok]
        split
        · exact absurd rfl (hni _)
        · rfl
      rw [hρ] at this
      simp only [Sem.run_bind, hρ, this, Result.andThen_ok, Sem.run_pure]
      rfl
    · cases h
  · cases h

/-! ### Comparisons, and all that hang on their operands alone -/
def cmpOp (P : Program) (op : BinOp) (t : TypeId) (ox oy : Operand) (x y : SV) : Option SV :=
  match x, y with
  | .one (.at (.int k a)), .one (.at (.int k' b)) => bif decide (k = k') then (cmpI op a b).map fun r => .one (.at (.bool r)) else none
  | _, _ => match op with
    | .eql => (eqOp P t (isConst ox || isConst oy) x y).map fun r => .one (.at (.bool r))
    | .neq => (eqOp P t (isConst ox || isConst oy) x y).map fun r => .one (.at (.bool (mkNot r)))
    | _ => none

theorem eqGuard_int (op : BinOp) (t : TypeId) (x y : Operand) (k : IntKind) (a : Int) (v : Value) : eqGuard op t x y (.int k a) v = pure () := eqGuard_at_int op t x y v k a

theorem cmpOp_sound {op : BinOp} {t t' : TypeId} {ox oy : Operand} {x y s : SV} (h : cmpOp P op t ox oy x y = some s) {ρ : Operand → Value} {o : Oper} (hop : o.op = .binOp op t ox oy t')
    (hρx : ρ ox = x.den β e) (hρy : ρ oy = y.den β e) : (∀ w, (execOp ρ o).run P w = .ok (.value (s.den β e)) w) ∧ s.ok n e := by
  have ex : ∀ (v : Value) w, (do eqGuard op t ox oy (x.den β e) (y.den β e); binOp op t (x.den β e) (y.den β e) : Sem Value).run P w = .ok v w → (execOp ρ o).run P w = .ok (.value v) w := fun v w hv => by
    unfold execOp
    rw [hop]
    simp only [hρx, hρy]
    rw [Sem.run_bind, hv]
    rfl
  unfold cmpOp at h
  split at h
  · rename_i k a k' b
    cases hk : decide (k = k') with
    | false => rw [hk] at h; cases h
    | true =>
      rw [hk] at h
      simp only [cond_true] at h
      obtain ⟨r, hr, rfl⟩ := Option.map_eq_some_iff.1 h
      have hkk : k = k' := of_decide_eq_true hk
      subst hkk
      refine ⟨fun w => ex _ w ?_, trivial⟩
      have hc := cmpI_den (e := e) hr P w
      simp only [SV.den, SV1.den, Atom.den, eqGuard_int, Sem.run_bind, Sem.run_pure, Result.andThen_ok]
      rw [← hc]
      unfold cmpI at hr
      cases op <;> first | (cases hr; done) | (simp [binOp])
  · split at h
    · obtain ⟨r, hr, rfl⟩ := Option.map_eq_some_iff.1 h
      refine ⟨fun w => ex _ w ?_, trivial⟩
      have := eqOp_sound (β := β) (e := e) hr .eql (.inl rfl) w
      rw [if_pos rfl] at this
      exact this
    · obtain ⟨r, hr, rfl⟩ := Option.map_eq_some_iff.1 h
      refine ⟨fun w => ex _ w ?_, trivial⟩
      have := eqOp_sound (β := β) (e := e) hr .neq (.inr rfl) w
      simpa [SV.den, SV1.den, Atom.den, mkNot_den] using this
    · cases h

/-- A conversion that changes nothing. -/
def convOp (P : Program) (src dst : TypeId) (x : SV) : Option SV :=
  match x with
  | .one (.at (.int k a)) => match P.underlying src, P.underlying dst with
    | some _, some (.int k') => bif decide (k'.min ≤ k.min) && decide (k.max ≤ k'.max) then some (.one (.at (.int k' a))) else none
    | _, _ => none
  | _ => none
theorem wrap_of_inR {k : IntKind} {n : Int} (h : inR k n) : k.wrap n = n := by
  cases k <;> simp only [inR, IntKind.min, IntKind.max, IntKind.bits, IntKind.signed] at h <;> simp at h <;>
    simp only [IntKind.wrap, IntKind.bits, IntKind.signed] <;> simp <;> omega
theorem convOp_sound {src dst : TypeId} {x s : SV} (h : convOp P src dst x = some s) (hx : x.ok n e) {ρ : Operand → Value} {o : Oper} {ox : Operand} (hop : o.op = .convert src dst ox) (hρ : ρ ox = x.den β e) :
    (∀ w, (execOp ρ o).run P w = .ok (.value (s.den β e)) w) ∧ s.ok n e := by
  unfold convOp at h
  split at h
  · rename_i k a
    split at h
    · rename_i ds k' hs hd
      cases hb : (decide (k'.min ≤ k.min) && decide (k.max ≤ k'.max)) with
      | false => rw [hb] at h; cases h
      | true =>
        rw [hb] at h
        cases h
        simp only [Bool.and_eq_true, decide_eq_true_eq] at hb
        have hr : inR k (a.den e) := hx
        have hr' : inR k' (a.den e) := ⟨Int.le_trans hb.1 hr.1, Int.le_trans hr.2 hb.2⟩
        refine ⟨fun w => ?_, hr'⟩
        unfold execOp
        rw [hop]
        have hc : (convert src dst (.int k (a.den e))).run P w = .ok (.int k' (k'.wrap (a.den e))) w := by
          simp [convert, run_underlying hs, run_underlying hd, Conv.intToInt]
        simp only [hρ, SV.den, SV1.den, Atom.den, Sem.run_bind, hc, Result.andThen_ok, Sem.run_pure, wrap_of_inR hr']
    · cases h
  · cases h

/-- Symbolic reading of operands. -/
def evO (tm : T SV) : Operand → Option SV
  | .tmp t => tm.get t
  | .const v => ofVal v
  | .global g => some (.one (.at (.ptr ⟨.glob g, 0⟩)))
  | .func f => some (.one (.at (.lit (.func (.func f) #[] #[]))))

def evPs (tm : T SV) : List (Nat × Operand) → Option (List (Nat × SV))
  | [] => some []
  | (i, x) :: l => match evO tm x, evPs tm l with
    | some s, some r => some ((i, s) :: r)
    | _, _ => none
def evQ (tm : T SV) : Option Operand → Option (Option SV)
  | none => some none
  | some x => match evO tm x with
    | some s => some (some s)
    | none => none
def slOp (P : Program) (tm : T SV) (t : TypeId) (x : Operand) (lo hi : Option Operand) : Option SV :=
  match evO tm x, evQ tm lo, evQ tm hi with
  | some x, some lo, some hi => sliceA P t x lo hi
  | _, _, _ => none
def ap2 (f : SV → SV → Option SV) (x y : Option SV) : Option SV :=
  match x, y with
  | some x, some y => f x y
  | _, _ => none
def ap1 (f : SV → Option SV) (x : Option SV) : Option SV :=
  match x with
  | some x => f x
  | none => none

def pickBy (fs : List (BE × Bool)) (c : Option SV) (a b : Option SV) : Option SV :=
  match c with
  | some (.one (.at (.bool x))) => match x.nb fs with
    | some true => a
    | some false => b
    | none => ap2 (pickOp (.one (.at (.bool x)))) a b
  | _ => none

/-- One byte of a constant text. -/
def strA (P : Program) (t : TypeId) (x ix : SV) : Option SV :=
  match P.underlying t, x, ix with
  | some .string, .one (.at (.lit (.string b))), .one (.at (.int _ (.c i))) => bif decide (0 ≤ i) then match b[i.toNat]? with
      | some u => some (.one (.at (.int .u8 (.c (u.toNat : Nat)))))
      | none => none
    else none
  | _, _, _ => none
theorem strA_sound {P : Program} {e : Env} {β : Nat → Nat} {n : Nat} {t : TypeId} {x ix s : SV} (h : strA P t x ix = some s) {ρ : Operand → Value} {o : Oper} {ox oi : Operand} (hop : o.op = .index t ox oi) (hρ : ρ ox = x.den β e) (hi : ρ oi = ix.den β e) :
    (∀ w, (execOp ρ o).run P w = .ok (.value (s.den β e)) w) ∧ s.ok n e := by
  unfold strA at h
  split at h
  · rename_i b k i hd
    cases hb : decide (0 ≤ i) with
    | false => rw [hb] at h; cases h
    | true =>
      rw [hb] at h
      simp only [cond_true] at h
      have hi0 := of_decide_eq_true hb
      split at h
      · rename_i u hu
        cases h
        have hlt := u.toNat_lt
        refine ⟨fun w => ?_, ⟨by simp [IntKind.min, IntKind.signed, IE.den], by simp [IntKind.max, IntKind.bits, IntKind.signed, IE.den]; omega⟩⟩
        unfold execOp
        rw [hop]
        simp only [hρ, hi, SV.den, SV1.den, Atom.den, IE.den, Instr.index, asIntOf, Sem.run_bind, Sem.run_pure, Result.andThen_ok, run_underlying hd, if_pos hi0, hu]
      · cases h
  · cases h

def pureOp (P : Program) (fs : List (BE × Bool)) (tm : T SV) : Op → Option SV
  | .move x => evO tm x
  | .assign x => evO tm x
  | .extract t i => ap1 (fun x => extrOp x i) (evO tm t)
  | .nilCheck x => ap1 nilcOp (evO tm x)
  | .indexAddr t x i => ap2 (idxA P t) (evO tm x) (evO tm i)
  | .fieldAddr t x f => ap1 (fun x => fldA P t x f) (evO tm x)
  | .pick c a b => pickBy fs (evO tm c) (evO tm a) (evO tm b)
  | .unOp .not _ x => ap1 notOp (evO tm x)
  | .makeInterface t x => ap1 (ifaceOp P t) (evO tm x)
  | .binOp op t x y _ => ap2 (cmpOp P op t x y) (evO tm x) (evO tm y)
  | .convert src dst x => ap1 (convOp P src dst) (evO tm x)
  | .build t ps => match evPs tm ps.toList with
    | some l => buildA P t l
    | none => none
  | .slice t x lo hi none => slOp P tm t x lo hi
  | .sliceToArrayPointer t x => ap1 (arrA P t) (evO tm x)
  | .index t x i => ap2 (strA P t) (evO tm x) (evO tm i)
  | _ => none

theorem ap1_some {f : SV → Option SV} {x : Option SV} {s : SV} (h : ap1 f x = some s) : ∃ y, x = some y ∧ f y = some s := by
  cases x with
  | none => cases h
  | some y => exact ⟨y, rfl, h⟩
theorem ap2_some {f : SV → SV → Option SV} {x y : Option SV} {s : SV} (h : ap2 f x y = some s) : ∃ a b, x = some a ∧ y = some b ∧ f a b = some s := by
  cases x with
  | none => cases h
  | some a => cases y with
    | none => cases h
    | some b => exact ⟨a, b, rfl, rfl, h⟩

/-- What a frame's table says of its temporaries. -/
def FOk (β : Nat → Nat) (e : Env) (n : Nat) (tm : T SV) (a : Act) : Prop :=
  ∀ t s, tm.get t = some s → a.tmps.getD t undef = s.den β e ∧ s.ok n e

theorem evO_sound {tm : T SV} {a : Act} (hf : FOk β e n tm a) {x : Operand} {s : SV} (h : evO tm x = some s) : a.eval x = s.den β e ∧ s.ok n e := by
  cases x with
  | tmp t => exact hf t s h
  | const v =>
    obtain ⟨h1, h2⟩ := ofVal_sound (β := β) (e := e) n h
    exact ⟨h1.symm, h2⟩
  | global g => cases h; exact ⟨rfl, trivial⟩
  | func f => cases h; exact ⟨rfl, rfl⟩

theorem evPs_sound {tm : T SV} {a : Act} (hf : FOk β e n tm a) : ∀ {l : List (Nat × Operand)} {r : List (Nat × SV)}, evPs tm l = some r →
    (l.map fun x => (x.1, a.eval x.2)) = r.map (fun x => (x.1, x.2.den β e)) ∧ ∀ x ∈ r, x.2.ok n e
  | [], r, h => by cases h; exact ⟨rfl, by simp⟩
  | (i, x) :: l, r, h => by
    unfold evPs at h
    split at h
    · rename_i s r' h1 h2
      cases h
      obtain ⟨g1, g2⟩ := evO_sound hf h1
      obtain ⟨g3, g4⟩ := evPs_sound hf h2
      refine ⟨by rw [List.map_cons, List.map_cons, g1, g3], fun z hz => ?_⟩
      rcases List.mem_cons.1 hz with hz | hz
      · subst hz; exact g2
      · exact g4 z hz
    · cases h
theorem evQ_sound {tm : T SV} {a : Act} (hf : FOk β e n tm a) {x : Option Operand} {s : Option SV} (h : evQ tm x = some s) : x.map a.eval = s.map (SV.den β e) := by
  unfold evQ at h
  split at h
  · cases h; rfl
  · split at h
    · rename_i s' h1
      cases h
      simp only [Option.map_some, (evO_sound hf h1).1]
    · cases h

theorem pureOp_sound {tm : T SV} {a : Act} (hf : FOk β e n tm a) {fs : List (BE × Bool)} (hfs : Facts e fs) {o : Oper} {s : SV} (h : pureOp P fs tm o.op = some s) :
    (∀ w, (execOp a.eval o).run P w = .ok (.value (s.den β e)) w) ∧ s.ok n e := by
  cases hop : o.op <;> rw [hop] at h <;> try simp only [pureOp] at h
  case move x =>
    obtain ⟨h1, h2⟩ := evO_sound hf h
    exact ⟨fun w => by unfold execOp; rw [hop]; simp only [h1]; rfl, h2⟩
  case assign x =>
    obtain ⟨h1, h2⟩ := evO_sound hf h
    exact ⟨fun w => by unfold execOp; rw [hop]; simp only [h1]; rfl, h2⟩
  case extract t i =>
    obtain ⟨y, hy, h⟩ := ap1_some h
    obtain ⟨h1, h2⟩ := evO_sound hf hy
    exact extrOp_sound h h2 hop h1
  case nilCheck x =>
    obtain ⟨y, hy, h⟩ := ap1_some h
    obtain ⟨h1, h2⟩ := evO_sound hf hy
    exact nilcOp_sound h h2 hop h1
  case indexAddr t x i =>
    obtain ⟨y, z, hy, hz, h⟩ := ap2_some h
    obtain ⟨h1, h2⟩ := evO_sound hf hy
    obtain ⟨h3, h4⟩ := evO_sound hf hz
    exact idxA_sound h h2 hop h1 h3
  case index t x i =>
    obtain ⟨y, z, hy, hz, h⟩ := ap2_some h
    obtain ⟨h1, h2⟩ := evO_sound hf hy
    obtain ⟨h3, h4⟩ := evO_sound hf hz
    exact strA_sound h hop h1 h3
  case fieldAddr t x f =>
    obtain ⟨y, hy, h⟩ := ap1_some h
    obtain ⟨h1, h2⟩ := evO_sound hf hy
    exact fldA_sound h h2 hop h1
  case pick c x y =>
    have ex : ∀ t : Bool, a.eval c = .bool t → ∀ w, (execOp a.eval o).run P w = .ok (.value (if t = true then a.eval x else a.eval y)) w := fun t ht w => by
      unfold execOp
      rw [hop]
      simp only [ht, asBool, Sem.run_bind, Sem.run_pure, Result.andThen_ok]
    unfold pickBy at h
    split at h
    · rename_i t hc
      obtain ⟨h1, _⟩ := evO_sound hf hc
      split at h
      · rename_i hb
        obtain ⟨h3, h4⟩ := evO_sound hf h
        have hd : a.eval c = .bool true := by rw [h1]; simp only [SV.den, SV1.den, Atom.den, BE.nb_sound hfs hb]
        exact ⟨fun w => by rw [ex true hd w, if_pos rfl, h3], h4⟩
      · rename_i hb
        obtain ⟨h3, h4⟩ := evO_sound hf h
        have hd : a.eval c = .bool false := by rw [h1]; simp only [SV.den, SV1.den, Atom.den, BE.nb_sound hfs hb]
        exact ⟨fun w => by rw [ex false hd w, if_neg (by simp), h3], h4⟩
      · obtain ⟨u, v, hu, hv, h⟩ := ap2_some h
        obtain ⟨h3, h4⟩ := evO_sound hf hu
        obtain ⟨h5, h6⟩ := evO_sound hf hv
        exact pickOp_sound h h4 h6 hop h1 (fun _ => h3) (fun _ => h5)
    · cases h
  case unOp op t x =>
    cases op <;> simp only [reduceCtorEq] at h
    obtain ⟨y, hy, h⟩ := ap1_some h
    obtain ⟨h1, h2⟩ := evO_sound hf hy
    exact notOp_sound h hop h1
  case makeInterface t x =>
    obtain ⟨y, hy, h⟩ := ap1_some h
    obtain ⟨h1, h2⟩ := evO_sound hf hy
    exact ifaceOp_sound h h2 hop h1
  case binOp op t x y t' =>
    obtain ⟨u, v, hu, hv, h⟩ := ap2_some h
    obtain ⟨h1, h2⟩ := evO_sound hf hu
    obtain ⟨h3, h4⟩ := evO_sound hf hv
    exact cmpOp_sound h hop h1 h3
  case convert src dst x =>
    obtain ⟨y, hy, h⟩ := ap1_some h
    obtain ⟨h1, h2⟩ := evO_sound hf hy
    exact convOp_sound h h2 hop h1
  case build t ps =>
    split at h
    · rename_i l hl
      obtain ⟨h1, h2⟩ := evPs_sound hf hl
      obtain ⟨h3, h4⟩ := buildA_sound (β := β) h h2
      refine ⟨fun w => ?_, h4⟩
      unfold execOp
      rw [hop]
      have : (ps.map fun (x : Nat × Operand) => match x with | (i, x) => (i, a.eval x)) = (l.map fun x => (x.1, x.2.den β e)).toArray := by
        rw [← h1]
        exact Array.toList_inj.1 (by simp)
      simp only [this, Sem.run_bind, h3, Result.andThen_ok, Sem.run_pure]
    · cases h
  case slice t x lo hi mx =>
    cases mx with
    | some _ => simp only [pureOp, reduceCtorEq] at h
    | none =>
      simp only [pureOp] at h
      unfold slOp at h
      split at h
      · rename_i x' lo' hi' hx hlo hhi
        obtain ⟨h1, h2⟩ := evO_sound hf hx
        have h3 := fun w => sliceA_sound (β := β) h h2 w
        refine ⟨fun w => ?_, (h3 default).2⟩
        unfold execOp
        rw [hop]
        simp only [h1, evQ_sound hf hlo, evQ_sound hf hhi, Option.map_none, Sem.run_bind, (h3 w).1, Result.andThen_ok, Sem.run_pure]
      · cases h
  case sliceToArrayPointer t x =>
    obtain ⟨y, hy, h⟩ := ap1_some h
    obtain ⟨h1, h2⟩ := evO_sound hf hy
    have h3 := fun w => arrA_sound (β := β) h h2 w
    refine ⟨fun w => ?_, (h3 default).2⟩
    unfold execOp
    rw [hop]
    simp only [h1, Sem.run_bind, (h3 w).1, Result.andThen_ok, Sem.run_pure]
  all_goals cases h
end
end Go.Sx
