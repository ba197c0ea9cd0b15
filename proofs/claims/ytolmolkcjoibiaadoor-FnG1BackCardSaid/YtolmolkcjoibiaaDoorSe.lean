import Derived.Test.YtolmolkcjoibiaaDoorSdb
/- Aids to the claim: what is shown here is said at each theorem. -/
namespace Go.Sx
open Go

theorem FOk.mono {β β' : Nat → Nat} {e : Env} {n n' : Nat} {tm : T SV} {a : Act} (hf : FOk β e n tm a) (ha : Agree n β β') (hn : n ≤ n') : FOk β' e n' tm a := fun t s hs => by
  obtain ⟨h1, h2⟩ := hf t s hs
  exact ⟨by rw [h1, SV.den_agree ha h2], SV.ok_le hn h2⟩
theorem FOk.put {β : Nat → Nat} {e : Env} {n : Nat} {tm : T SV} {a : Act} (hf : FOk β e n tm a) {d : Nat} (hd : d < a.tmps.size) {v : SV} (hv : v.ok n e) : FOk β e n (tm.set d v) (a.put (some d) (v.den β e)) := fun t s hs => by
  rw [T.get_set] at hs
  by_cases hdt : d = t
  · subst hdt
    rw [if_pos rfl] at hs
    cases hs
    refine ⟨?_, hv⟩
    simp [Act.put, hd]
  · rw [if_neg hdt] at hs
    obtain ⟨h1, h2⟩ := hf t s hs
    refine ⟨?_, h2⟩
    rw [← h1]
    simp [Act.put, Array.getElem?_setIfInBounds_ne hdt]

/-- The places that the walk has laid: before the region, or listed. -/
def UOk (s0 : Nat) (U : Nat → Prop) (β : Nat → Nat) (h : Hp) : Prop := ∀ k b, h.blk.get k = some b → β k < s0 ∨ U (β k)
def SameMem (h h' : Hp) : Prop := h'.blk = h.blk ∧ h'.cnt = h.cnt ∧ h'.ext = h.ext ∧ h'.log = h.log ∧ h'.facts = h.facts
theorem HRel.same {w0 : World} {e : Env} {β : Nat → Nat} {h h' : Hp} {w : World} (hr : HRel w0 e β h w) (hs : SameMem h h') : HRel w0 e β h' w := by
  obtain ⟨h1, h2, h3, h4, h5⟩ := hs
  refine ⟨hr.tape, hr.os, hr.output, hr.size, ?_, ?_, ?_, ?_, ?_, ?_, ?_, ?_, ?_, ?_⟩
  · rw [h1, h2]; exact hr.blk
  · rw [h1]; exact hr.inj
  · rw [h4]; exact hr.old
  · rw [h4, h2]; exact hr.logok
  · rw [h3]; exact hr.extb
  · rw [h3, h2]; exact hr.ext
  · rw [h3]; exact hr.frz
  · rw [h3]; exact hr.dis
  · rw [h3]; exact hr.gl
  · rw [h5]; exact hr.facts
theorem SameMem.ni (h : Hp) (n : Nat) : SameMem h { h with ni := n } := ⟨rfl, rfl, rfl, rfl, rfl⟩

/-- A table of calls that hand back a value and only make memory. -/
def QOk (P : Program) (qf : QSum) : Prop := ∀ f args h ds v h', qf f args h = some (ds, v, h') → SameMem h h' ∧
  ∀ (e : Env) (β : Nat → Nat), Facts e h.facts → (∀ s ∈ args, s.ok h.cnt e) → (∀ d ∈ ds, d.holds e) → v.ok h.cnt e ∧ ∀ w0 w, HRel w0 e β h w → QuietRun P (callFunc f (args.map (SV.den β e)).toArray) (v.den β e) w
/-- A table of calls that write into places that are there. -/
def POk (P : Program) (pf : QSum) : Prop := ∀ f args h ds v h', pf f args h = some (ds, v, h') → h'.cnt = h.cnt ∧
  ∀ (w0 : World) (e : Env) (β : Nat → Nat) (w : World), HRel w0 e β h w → (∀ s ∈ args, s.ok h.cnt e) → (∀ d ∈ ds, d.holds e) → v.ok h.cnt e ∧
    (callFunc f (args.map (SV.den β e)).toArray).run P w = .ok (.enter f (args.map (SV.den β e)).toArray) w ∧
    Calls P f (args.map (SV.den β e)).toArray w fun en w' => en = .returned (v.den β e) ∧ HRel w0 e β h' w' ∧ w.heap.size ≤ w'.heap.size

section
variable {L : Type} {P : Program} {w0 : World} {e : Env} {Φ : L → Prop}

def CallOk (P : Program) (w0 : World) (e : Env) (Φ : L → Prop) (callF : FuncId → List SV → Hp → (SV → Hp → Option (Tree L)) → Option (Tree L)) : Prop :=
  ∀ f args h kk tree, callF f args h kk = some tree → tree.holds e Φ → ∀ (β : Nat → Nat) (w : World), HRel w0 e β h w → (∀ s ∈ args, s.ok h.cnt e) → ∀ (R : Value → World → Prop),
    (∀ β' v h' tree' w', Agree h.cnt β β' → h.cnt ≤ h'.cnt → w.heap.size ≤ w'.heap.size → HRel w0 e β' h' w' → v.ok h'.cnt e → kk v h' = some tree' → tree'.holds e Φ → R (v.den β' e) w') →
    (callFunc f (args.map (SV.den β e)).toArray).run P w = .ok (.enter f (args.map (SV.den β e)).toArray) w ∧
    Calls P f (args.map (SV.den β e)).toArray w fun en w' => ∃ v, en = .returned v ∧ R v w'

theorem evs_sound {β : Nat → Nat} {n : Nat} {tm : T SV} {a : Act} (hf : FOk β e n tm a) : ∀ {l : List Operand} {args : List SV}, evs tm l = some args →
    l.map a.eval = args.map (SV.den β e) ∧ ∀ s ∈ args, s.ok n e
  | [], args, h => by cases h; exact ⟨rfl, by simp⟩
  | x :: xs, args, h => by
    unfold evs at h
    split at h
    · rename_i s l h1 h2
      cases h
      obtain ⟨g1, g2⟩ := evO_sound hf h1
      obtain ⟨g3, g4⟩ := evs_sound hf h2
      refine ⟨by rw [List.map_cons, List.map_cons, g1, g3], fun z hz => ?_⟩
      rcases List.mem_cons.1 hz with hz | hz
      · subst hz; exact g2
      · exact g4 z hz
    · cases h

theorem run_call {a : Act} {o : Oper} {c : Call} {f : FuncId} (hop : o.op = .call c) (hc : c.callee = .value (.func f)) (w : World) :
    (execOp a.eval o).run P w = (callFunc f (c.args.map a.eval)).run P w := by
  unfold execOp
  rw [hop]
  simp [resolve, hc, Act.eval, Deferred.ofValue, invoke]

theorem run_newVar (t : TypeId) (v : Value) (w : World) : (newVar t v).run P w = .ok ⟨w.heap.size, 0, none⟩ (World.push w (.cells v.cells t (0, 0))) := rfl

/-- A new place, wherever it lies. -/
theorem newH_sound {β : Nat → Nat} {h : Hp} {w : World} {cs : List Atom} {t : TypeId} {n : Nat} (hr : HRel w0 e β h w) (hc : ∀ c ∈ cs, c.ok h.cnt e) (hn0 : w0.heap.size ≤ n)
    (hn : w.heap[n]? = some (.cells (cs.map (Atom.den β e)).toArray t (0, 0))) (hf : ∀ k b, h.blk.get k = some b → β k ≠ n) :
    HRel w0 e (setβ β h.cnt n) (allocH h cs t) w ∧ (SV.one (.at (.ptr ⟨.own h.cnt, 0⟩))).ok (allocH h cs t).cnt e ∧
    (SV.one (.at (.ptr ⟨.own h.cnt, 0⟩))).den (setβ β h.cnt n) e = .pointer (some ⟨n, 0, none⟩) := by
  refine ⟨alloc_rel hr hc hn0 hn hf, Nat.lt_succ_self _, ?_⟩
  simp only [SV.den, SV1.den, Atom.den, SA.den, setβ_same]

theorem repL_den {β : Nat → Nat} {n : Nat} {z : List Atom} (hz : 0 < z.length) (m : Nat) (hok : ∀ a ∈ z, a.ok n e) :
    ((Array.range m).map fun j => ((z.map (Atom.den β e)).toArray)[j % (z.map (Atom.den β e)).toArray.size]!) = ((repL z m).map (Atom.den β e)).toArray ∧ ∀ a ∈ repL z m, a.ok n e := by
  have hj : ∀ j, j % z.length < z.length := fun j => Nat.mod_lt _ hz
  constructor
  · apply Array.toList_inj.1
    simp only [Array.toList_map, Array.toList_range, repL, List.map_map]
    refine List.map_congr_left fun j _ => ?_
    have : j % (z.map (Atom.den β e)).toArray.size = j % z.length := by simp
    rw [this]
    simp [hj j, List.getD_eq_getElem?_getD]
  · intro a ha
    simp only [repL, List.mem_map] at ha
    obtain ⟨j, _, rfl⟩ := ha
    rw [List.getD_eq_getElem?_getD, List.getElem?_eq_getElem (hj j)]
    exact hok _ (List.getElem_mem _)

theorem newH_push {β : Nat → Nat} {h : Hp} {w : World} {cs : List Atom} {t : TypeId} (hr : HRel w0 e β h w) (hc : ∀ c ∈ cs, c.ok h.cnt e) :
    let w' := World.push w (.cells (cs.map (Atom.den β e)).toArray t (0, 0))
    HRel w0 e (setβ β h.cnt w.heap.size) (allocH h cs t) w' ∧ (SV.one (.at (.ptr ⟨.own h.cnt, 0⟩))).ok (allocH h cs t).cnt e ∧
    (SV.one (.at (.ptr ⟨.own h.cnt, 0⟩))).den (setβ β h.cnt w.heap.size) e = .pointer (some ⟨w.heap.size, 0, none⟩) := by
  refine newH_sound (hr.grow (Grow.push w _)) hc hr.size ?_ fun k b hk he => ?_
  · show (w.heap.push _)[w.heap.size]? = _
    simp
  · obtain ⟨_, _, ⟨_, h3⟩, _⟩ := hr.blk k b hk
    have := (Array.getElem?_eq_some_iff.1 h3).1
    omega

/-- A new row, told by a slice. -/
theorem newS_push {β : Nat → Nat} {h : Hp} {w : World} {cs : List Atom} {t : TypeId} (l c : Nat) (hr : HRel w0 e β h w) (hc : ∀ c ∈ cs, c.ok h.cnt e) :
    let w' := World.push w (.cells (cs.map (Atom.den β e)).toArray t (0, 0))
    HRel w0 e (setβ β h.cnt w.heap.size) (allocH h cs t) w' ∧ (SV.one (.at (.slice ⟨.own h.cnt, 0⟩ l c))).ok (allocH h cs t).cnt e ∧
    (SV.one (.at (.slice ⟨.own h.cnt, 0⟩ l c))).den (setβ β h.cnt w.heap.size) e = .slice (some ⟨w.heap.size, 0, none⟩) l c := by
  refine ⟨(newH_push hr hc).1, Nat.lt_succ_self _, ?_⟩
  simp only [SV.den, SV1.den, Atom.den, SA.den, setβ_same]

theorem bsCells_sound {β : Nat → Nat} {n : Nat} {t el : TypeId} {len : Nat} {l : List (Nat × SV)} {cs : List Atom} (hu : P.underlying t = some (.slice el)) (h : bsCells P el len l = some cs) (hl : ∀ x ∈ l, x.2.ok n e) :
    (∀ w, (Instr.buildSlice t len (l.map fun x => (x.1, x.2.den β e)).toArray).run P w = .ok (.slice (some ⟨w.heap.size, 0, none⟩) len len) (World.push w (.cells (cs.map (Atom.den β e)).toArray el (0, 0)))) ∧ ∀ c ∈ cs, c.ok n e := by
  unfold bsCells at h
  split at h
  · rename_i i z hi hz
    cases hb : (Nat.blt 0 (len * i.size) && Nat.ble (len * i.size) 16777216 && Nat.blt 0 z.length) with
    | false =>
      rw [hb] at h
      simp only [cond_false] at h
      cases hc : (Nat.beq (len * i.size) 0 && l.isEmpty) with
      | false => rw [hc] at h; cases h
      | true =>
        rw [hc] at h
        cases h
        simp only [Bool.and_eq_true] at hc
        have h0 := Nat.eq_of_beq_eq_true hc.1
        have hl0 : l = [] := List.isEmpty_iff.1 hc.2
        subst hl0
        refine ⟨fun w => ?_, fun c hc => by cases hc⟩
        simp only [Instr.buildSlice, Sem.run_bind, run_underlying hu, Result.andThen_ok, Go.run_sizeOf w hi, Program.cellsOf, hi, Option.map_some, Option.getD_some]
        clear hb hc
        generalize len * i.size = N at h0
        subst h0
        have hr0 : Array.range 0 = #[] := by simp
        rw [if_neg (by omega), if_pos rfl, hr0]
        simp only [Sem.run_bind, Sem.run_pure, Result.andThen_ok, List.map_nil, Array.map_empty, Instr.fill]
        rfl
    | true =>
      rw [hb] at h
      simp only [cond_true] at h
      simp only [Bool.and_eq_true, Nat.blt_eq] at hb
      obtain ⟨⟨b1, b2⟩, b3⟩ := hb
      have b2 := Nat.le_of_ble_eq_true b2
      obtain ⟨v, z1, z2, z3⟩ := zeroT_sound (e := e) hz β n
      obtain ⟨r1, r2⟩ := repL_den (β := β) b3 (len * i.size) z3
      obtain ⟨g1, g2, _⟩ := fillA_sound (β := β) l h hl r2
      refine ⟨fun w => ?_, g2⟩
      have hn1 : ¬ (len * i.size > 2 ^ 24) := by omega
      have hn2 : ¬ (len * i.size = 0) := by omega
      simp only [Instr.buildSlice, Sem.run_bind, run_underlying hu, Result.andThen_ok, Go.run_sizeOf w hi, Program.cellsOf, hi, Option.map_some, Option.getD_some, if_neg hn1, if_neg hn2, Sem.run_pure, z1, z2, r1, g1]
      rfl
  · cases h

theorem msCells_sound {β : Nat → Nat} {n : Nat} {t el : TypeId} {k k' : IntKind} {l c : Int} {cs : List Atom} (hu : P.underlying t = some (.slice el)) (h : msCells P el l c = some cs) :
    (∀ w, (Instr.makeSlice t (.int k l) (.int k' c)).run P w = .ok (.slice (some ⟨w.heap.size, 0, none⟩) l.toNat c.toNat) (World.push w (.cells (cs.map (Atom.den β e)).toArray el (0, 0)))) ∧ ∀ c ∈ cs, c.ok n e := by
  unfold msCells at h
  split at h
  · rename_i i z hi hz
    cases hb : (decide (0 ≤ l) && decide (l ≤ c) && decide (c ≤ 1048576) && Nat.blt 0 (c.toNat * i.size) && Nat.ble (c.toNat * i.bytes) 16777216 && Nat.blt 0 z.length) with
    | false => rw [hb] at h; cases h
    | true =>
      rw [hb] at h
      simp only [cond_true, Option.some.injEq] at h
      subst h
      simp only [Bool.and_eq_true, Nat.blt_eq, decide_eq_true_eq] at hb
      obtain ⟨⟨⟨⟨⟨b1, b2⟩, b3⟩, b4⟩, b5⟩, b6⟩ := hb
      have b5 := Nat.le_of_ble_eq_true b5
      obtain ⟨v, z1, z2, z3⟩ := zeroT_sound (e := e) hz β n
      obtain ⟨r1, r2⟩ := repL_den (β := β) b6 (c.toNat * i.size) z3
      refine ⟨fun w => ?_, r2⟩
      have w1 : IntKind.i64.wrap l = l := wrap_of_inR (by simp only [inR, IntKind.min, IntKind.max, IntKind.bits, IntKind.signed]; simp; omega)
      have w2 : IntKind.i64.wrap c = c := wrap_of_inR (by simp only [inR, IntKind.min, IntKind.max, IntKind.bits, IntKind.signed]; simp; omega)
      have hcc : ((c.toNat : Nat) : Int) = c := Int.toNat_of_nonneg (by omega)
      have hbz : ¬ ((i.bytes : Int) * c > 2 ^ 48) := by
        have : (i.bytes : Int) * c = ((c.toNat * i.bytes : Nat) : Int) := by rw [Int.natCast_mul, hcc, Int.mul_comm]
        rw [this]
        omega
      have hroom : ¬ (c.toNat * i.bytes > roomBytes) := by unfold roomBytes; omega
      have hn2 : ¬ (c.toNat * i.size = 0) := by omega
      have hcond : ((decide (c < 0) || decide ((i.bytes : Int) * c > 2 ^ 48)) || decide (l < 0) || decide (l > c)) = false := by
        rw [decide_eq_false (by omega), decide_eq_false hbz, decide_eq_false (by omega), decide_eq_false (by omega)]
        rfl
      simp only [Instr.makeSlice, Sem.run_bind, run_underlying hu, Result.andThen_ok, asInt, asIntOf, Sem.run_pure, typeInfo, run_program, hi, w1, w2]
      rw [if_neg (by simp; omega)]
      simp only [askRoom, if_neg hroom, Sem.run_pure, Sem.run_bind, Result.andThen_ok, sizeOf, typeInfo, run_program, hi, if_neg hn2, z1, z2, r1]
      rfl
  · cases h

theorem inRs_spec {v : SV} (h : inRs v = true) (n : Nat) : v.ok n e := by
  unfold inRs at h
  split at h
  · exact inRb_spec h
  · cases h

theorem seqOf_den {x : SV} {b : SA} {n : Nat} (h : seqOf x = some (b, n)) (β : Nat → Nat) (e : Env) : ∃ c, x.den β e = .slice (some (b.den β e)) n c := by
  unfold seqOf at h
  split at h
  · cases h; exact ⟨_, rfl⟩
  · cases h; exact ⟨_, rfl⟩
  · cases h
theorem bltn_sound {β : Nat → Nat} {b : Builtin} {ts : Array TypeId} {args : List SV} {v : SV} (h : bltn P b ts args = some v) (type : TypeId) (cs : Array Bool) (w : World) :
    (builtin b ts type cs (args.map (SV.den β e)).toArray).run P w = .ok (.value (v.den β e)) w := by
  unfold bltn at h
  split at h
  · rename_i t x ht
    split at h
    · rename_i el b l hu hs
      obtain ⟨cc, hx⟩ := seqOf_den hs β e
      split at h
      · cases h
        simp only [builtin, Builtin.len_, ht, List.map_cons, List.map_nil, Sem.run_bind, hx]
        show ((Sem.run P _ w).andThen _) = _
        simp only [List.getElem?_toArray, List.getElem?_cons_zero, Sem.run_bind, run_underlying hu, Result.andThen_ok, SV.den, SV1.den, Atom.den, IE.den, Sem.run_pure, goInt]
      · cases h
    · cases h
  · cases h

theorem run_bcall {a : Act} {o : Oper} {c : Call} {b : Builtin} (hop : o.op = .call c) (hc : c.callee = .builtin b) (w : World) :
    (execOp a.eval o).run P w = (builtin b c.argTypes o.type (c.args.map fun | .const _ => true | _ => false) (c.args.map a.eval)).run P w := by
  unfold execOp
  rw [hop]
  simp only [resolve, hc, invoke, Sem.run_bind, Sem.run_pure, Result.andThen_ok]
  rfl

theorem seqOf_spec {x : SV} {b : SA} {n : Nat} (h : seqOf x = some (b, n)) {β : Nat → Nat} {m : Nat} (hx : x.ok m e) : b.root.ok m ∧ ∃ c, x.den β e = .slice (some (b.den β e)) n c := by
  unfold seqOf at h
  split at h
  · cases h; exact ⟨hx, _, rfl⟩
  · cases h; exact ⟨hx.1, _, rfl⟩
  · cases h
theorem grow_drew (w : World) (o : Obj) : Grow w (w.drew.alloc o) := by
  refine ⟨rfl, rfl, rfl, ?_, fun j hj => ?_⟩
  · show w.heap.size ≤ (w.heap.push o).size
    simp
  · show (w.heap.push o)[j]? = _
    simp [Array.getElem?_push, Nat.ne_of_lt hj]
theorem zeroCells_list (z : Array Value) (n : Nat) : ∃ l : List Value, Builtin.zeroCells z n = l.toArray := ⟨(Builtin.zeroCells z n).toList, by simp⟩
theorem appOp_sound {β : Nat → Nat} {h : Hp} {w : World} (hr : HRel w0 e β h w) {types : List TypeId} {args : List SV} {k : SV → Hp → Option (Tree L)} {tree : Tree L} (hd : appOp P types args h k = some tree) (ht : tree.holds e Φ)
    (hok : ∀ s ∈ args, s.ok h.cnt e) (ty : TypeId) : ∃ w' β' v h' tree', (Builtin.append_ types.toArray ty (args.map (SV.den β e)).toArray).run P w = .ok (v.den β' e) w' ∧ Agree h.cnt β β' ∧ h.cnt ≤ h'.cnt ∧ w.heap.size ≤ w'.heap.size ∧
      HRel w0 e β' h' w' ∧ v.ok h'.cnt e ∧ k v h' = some tree' ∧ tree'.holds e Φ := by
  unfold appOp at hd
  split at hd
  · rename_i t t' a l c y
    cases htt : Nat.beq t t' with
    | false => rw [htt] at hd; cases hd
    | true =>
    rw [htt] at hd
    have htt := Nat.eq_of_beq_eq_true htt
    subst htt
    simp only [cond_true] at hd
    split at hd
    · rename_i el b n hu hs
      split at hd
      · rename_i i hi
        cases hc : (Nat.beq i.size 1 && Nat.beq i.bytes 1 && Nat.blt c (l + n) && Nat.ble (l + n) 1000 && i.zero.isSome) with
        | false => rw [hc] at hd; cases hd
        | true =>
        rw [hc] at hd
        simp only [cond_true] at hd
        split at hd
        · rename_i x z hx hz
          simp only [Bool.and_eq_true] at hc
          obtain ⟨⟨⟨⟨hc1, hc2⟩, hc3⟩, hc4⟩, hc5⟩ := hc
          have hc1 := Nat.eq_of_beq_eq_true hc1
          have hc2 := Nat.eq_of_beq_eq_true hc2
          have hc3 : c < l + n := by simpa [Nat.blt_eq] using hc3
          have hc4 := Nat.le_of_ble_eq_true hc4
          obtain ⟨zv, hzv⟩ := Option.isSome_iff_exists.1 hc5
          obtain ⟨hyr, cy, hy⟩ := seqOf_spec (e := e) hs (β := β) (hok y (by simp))
          obtain ⟨x1, x2, x3⟩ := rd_sound hr hx
          obtain ⟨z1, z2, z3⟩ := rd_sound hr hz
          have hrun := run_append_grow (P := P) w t ty el i zv hu hi hzv (a.den β e) l c (x.map (Atom.den β e)) (by rw [List.length_map, x1, hc1, Nat.mul_one]) (fun j v hj => by
              rw [List.getElem?_map] at hj
              obtain ⟨u, hu', rfl⟩ := Option.map_eq_some_iff.1 hj
              rw [show a = ⟨a.root, a.off⟩ from rfl, sa_add]
              exact x3 j u hu') (b.den β e) n cy (z.map (Atom.den β e)) (by rw [List.length_map, z1, hc1, Nat.mul_one]) (fun j v hj => by
              rw [List.getElem?_map] at hj
              obtain ⟨u, hu', rfl⟩ := Option.map_eq_some_iff.1 hj
              rw [show b = ⟨b.root, b.off⟩ from rfl, sa_add]
              exact z3 j u hu') hc3 (by omega) (growslice_fits hc3 (by rw [hc2]; omega))
          have hge := grownCap_ge w (l + n) c el
          generalize hgc : grownCap w (l + n) c el = G at hrun hge
          obtain ⟨zl, hzl⟩ := zeroCells_list zv.cells (G - (l + n))
          rw [hzl] at hrun
          have hob : ((x.map (Atom.den β e)).toArray ++ (z.map (Atom.den β e)).toArray ++ zl.toArray) = (((x ++ z).map (Atom.den β e)) ++ zl).toArray := by
            apply Array.toList_inj.1
            simp
          rw [hob] at hrun
          have hg := grow_drew w (.cells (((x ++ z).map (Atom.den β e)) ++ zl).toArray el)
          have h1 := alloc_relT (hr.grow hg) (cells := x ++ z) (ty := el) (n := w.heap.size) (fun c' hc' => by
              rcases List.mem_append.1 hc' with hm | hm
              · exact x2 c' hm
              · exact z2 c' hm) hr.size ⟨zl, by show (w.heap.push _)[w.heap.size]? = _; simp⟩ (fun k' b' hk' he => by
              obtain ⟨_, _, ⟨_, h3⟩, _⟩ := hr.blk k' b' hk'
              have := (Array.getElem?_eq_some_iff.1 h3).1
              omega)
          have h2 := reserve_rel h1 (G - (l + n))
          refine ⟨_, _, _, _, tree, ?_, ?_, ?_, hg.size, h2, ?_, hd, ht⟩
          · have hv : (SV.one (.at (.slc ⟨.own h.cnt, 0⟩ (l + n) (l + n) (h.cnt + 1)))).den (setβ (setβ β h.cnt w.heap.size) (allocH h (x ++ z) el).cnt (G - (l + n))) e = .slice (some ⟨w.heap.size, 0, none⟩) (l + n) G := by
              simp only [SV.den, SV1.den, Atom.den, SA.den]
              rw [show (allocH h (x ++ z) el).cnt = h.cnt + 1 from rfl, setβ_same, agree_setβ _ (h.cnt + 1) _ h.cnt (Nat.lt_succ_self _), setβ_same]
              congr 1
              omega
            rw [hv]
            simp only [List.map_cons, List.map_nil, hy]
            exact hrun
          · intro k' hk'
            rw [show (allocH h (x ++ z) el).cnt = h.cnt + 1 from rfl, agree_setβ _ (h.cnt + 1) _ k' (by omega), agree_setβ _ h.cnt _ k' hk']
          · show h.cnt ≤ h.cnt + 1 + 1
            omega
          · show h.cnt < h.cnt + 1 + 1 ∧ h.cnt + 1 < h.cnt + 1 + 1
            omega
        · cases hd
      · cases hd
    · cases hd
  · cases hd
theorem copyOp_sound {β : Nat → Nat} {h : Hp} {w : World} (hr : HRel w0 e β h w) {types : List TypeId} {args : List SV} {k : SV → Hp → Option (Tree L)} {tree : Tree L} (hd : copyOp P types args h k = some tree) (ht : tree.holds e Φ)
    (hok : ∀ s ∈ args, s.ok h.cnt e) (ty : TypeId) : ∃ w' β' v h' tree', (Builtin.copy_ types.toArray ty (args.map (SV.den β e)).toArray).run P w = .ok (v.den β' e) w' ∧ Agree h.cnt β β' ∧ h.cnt ≤ h'.cnt ∧ w.heap.size ≤ w'.heap.size ∧
      HRel w0 e β' h' w' ∧ v.ok h'.cnt e ∧ k v h' = some tree' ∧ tree'.holds e Φ := by
  unfold copyOp at hd
  split at hd
  · rename_i t t' x y
    split at hd
    · rename_i el a l b n hu hsx hsy
      split at hd
      · rename_i i hi
        cases hc : (Nat.beq i.size 1 && Nat.ble (Nat.min n l) 1000) with
        | false => rw [hc] at hd; cases hd
        | true =>
        rw [hc] at hd
        simp only [cond_true] at hd
        split at hd
        · rename_i cs hcs
          split at hd
          · rename_i h' hw
            simp only [Bool.and_eq_true] at hc
            have hc1 := Nat.eq_of_beq_eq_true hc.1
            have hc2 := Nat.le_of_ble_eq_true hc.2
            obtain ⟨hxr, cx, hx⟩ := seqOf_spec (e := e) hsx (β := β) (hok x (by simp))
            obtain ⟨hyr, cy, hy⟩ := seqOf_spec (e := e) hsy (β := β) (hok y (by simp))
            obtain ⟨z1, z2, z3⟩ := rd_sound hr hcs
            obtain ⟨b1, b2, b3, _⟩ := wr_sound cs hr (r := a.root) (o := a.off) z2 hw
            have had : a.den β e = ⟨(a.den β e).block, (a.den β e).off, none⟩ := by
              obtain ⟨r, o⟩ := a
              cases r <;> rfl
            have hadd : ∀ j, (⟨(a.den β e).block, (a.den β e).off + j, none⟩ : Addr) = (⟨a.root, a.off + j⟩ : SA).den β e := fun j => by
              obtain ⟨r, o⟩ := a
              cases r <;> simp only [SA.den] <;> simp [Nat.add_assoc]
            have hrun := run_copy_cells (P := P) w t t' ty el (a.den β e).block (a.den β e).off l cx (b.den β e) n cy (cs.map (Atom.den β e)) hu (by rw [hi]; simp [hc1]) (by rw [List.length_map, z1])
              (fun j v hj => by
                rw [List.getElem?_map] at hj
                obtain ⟨u, hu', rfl⟩ := Option.map_eq_some_iff.1 hj
                rw [show b = ⟨b.root, b.off⟩ from rfl, sa_add]
                exact z3 j u hu')
              (fun j hj => by rw [hadd]; exact (b1 j (by simpa using hj)).1) (fun j hj => by rw [hadd]; exact (b1 j (by simpa using hj)).2)
              (fun v hv => by obtain ⟨c', hc', rfl⟩ := List.mem_map.1 hv; exact Atom.single_den (z2 c' hc'))
            refine ⟨_, β, _, _, tree, ?_, Agree.refl _ _, Nat.le_of_eq b3.symm, ?_, b2, ?_, hd, ht⟩
            · simp only [List.map_cons, List.map_nil, hx, hy]
              rw [had]
              refine hrun.trans ?_
              rw [List.length_map]
              rfl
            · rw [setCells_size]
              exact Nat.le_refl _
            · show inR .i64 (cs.length : Int)
              simp only [inR, IntKind.min, IntKind.max, IntKind.bits, IntKind.signed]
              simp
              omega
          · cases hd
        · cases hd
      · cases hd
    · cases hd
  · cases hd
variable {qf pf : QSum} {callF : FuncId → List SV → Hp → (SV → Hp → Option (Tree L)) → Option (Tree L)}

/-- What the walk goes on with. -/
def GoOn (w0 : World) (e : Env) (Φ : L → Prop) (g : Bool) (s0 : Nat) (β : Nat → Nat) (h : Hp) (a : Act) (dst : Option Tmp) (w : World) (k : SV → Hp → Option (Tree L)) (K : Kont) : Prop :=
  ∀ β' v h' tree' U' w', Agree h.cnt β β' → h.cnt ≤ h'.cnt → w.heap.size ≤ w'.heap.size → HRel w0 e β' h' w' → v.ok h'.cnt e → (g = true → UOk s0 U' β' h') →
    k v h' = some tree' → tree'.holds e Φ → K U' (a.put dst (v.den β' e)) w'

theorem effOp_sound (hq : QOk P qf) (hp : POk P pf) (hcf : CallOk P w0 e Φ callF) {g : Bool} {s0 : Nat} {β : Nat → Nat} {tm : T SV} {h : Hp} {a : Act} {w : World} {U : Nat → Prop} {o : Oper} {k : SV → Hp → Option (Tree L)} {tree : Tree L} {Q : Exit → Act → World → Prop} {K : Kont}
    (hd : effOp P qf pf callF g tm h k o.op = some tree) (ht : tree.holds e Φ) (hf : FOk β e h.cnt tm a) (hr : HRel w0 e β h w) (hs : w0.heap.size ≤ s0) (hU : g = true → UOk s0 U β h)
    (hk : GoOn w0 e Φ g s0 β h a o.dst w k K) : Done P ⟨g, s0⟩ Q o K U a w := by
  cases hop : o.op <;> rw [hop] at hd <;> simp only [effOp, reduceCtorEq] at hd
  case load t x =>
    split at hd
    · rename_i s hls
      obtain ⟨y, hy, hl⟩ := ap1_some hls
      obtain ⟨h1, h2⟩ := evO_sound hf hy
      obtain ⟨h3, h4⟩ := load_sound hr hl
      rw [Done.softCase (by rw [hop]; simp [pureK]) (by rw [hop]; simp [softK, readK])]
      refine ⟨s.den β e, fun w' hg => ?_, fun w' hg => hk β s h tree U w' (Agree.refl _ _) (Nat.le_refl _) hg.size (hr.grow hg) h4 hU hd ht⟩
      unfold QuietRun
      have : (execOp a.eval o).run P w' = .ok (.value (s.den β e)) w' := by
        unfold execOp
        rw [hop]
        simp only [h1, Sem.run_bind, h3 w' hg, Result.andThen_ok, Sem.run_pure]
      rw [this]
      exact ⟨rfl, Grow.refl _⟩
    · cases hd
  case store t x y =>
    split at hd
    · rename_i x' y' hx hy
      split at hd
      · rename_i h' hst
        obtain ⟨h1, h2⟩ := evO_sound hf hx
        obtain ⟨h3, h4⟩ := evO_sound hf hy
        obtain ⟨w', g1, g2, g3, g4, _⟩ := store_sound hr h4 hst
        have hblk : g = true → UOk s0 U β h' := by
          intro hg k b hk'
          obtain ⟨b0, hb0⟩ := storeOp_dom hst hk'
          exact hU hg k b0 hb0
        rw [Done.effCase (by rw [hop]; simp [pureK]) (by rw [hop]; simp [softK, readK, callK, pCall]) (by rw [hop]; simp [allocK])]
        unfold Oper.wp
        have : (execOp a.eval o).run P w = .ok .skip w' := by
          unfold execOp
          rw [hop]
          simp only [h1, h3, Sem.run_bind, g1, Result.andThen_ok, Sem.run_pure]
        rw [this]
        exact ⟨Nat.le_of_eq g2.symm, hk β (.tup []) h' tree U w' (Agree.refl _ _) (Nat.le_of_eq g4.symm) (Nat.le_of_eq g2.symm) g3 (by intro x hx; cases hx) hblk hd ht⟩
      · cases hd
    · cases hd
  case alloc t =>
    split at hd
    · rename_i cs hz
      obtain ⟨v, hzv, hcells, hok⟩ := zeroT_sound (e := e) hz β h.cnt
      have hrun : ∀ w', (execOp a.eval o).run P w' = .ok (.value (.pointer (some ⟨w'.heap.size, 0, none⟩))) (World.push w' (.cells (cs.map (Atom.den β e)).toArray t (0, 0))) := fun w' => by
        unfold execOp
        rw [hop]
        simp only [Instr.alloc, Sem.run_bind, hzv, Result.andThen_ok, run_newVar, Sem.run_pure, hcells]
      unfold newH at hd
      cases hgg : g with
      | true =>
        rw [Done.allocCase (by rw [hop]; simp [pureK]) (by rw [hop]; simp [softK, readK, callK, pCall]) (by rw [hop]; simp [allocK])]
        refine ⟨_, hrun, fun w' n hg hn hnu hcell => ?_⟩
        have hr' := hr.grow hg
        obtain ⟨k1, k2, k3⟩ := newH_sound (n := n) hr' hok (Nat.le_trans hs hn) hcell (fun k b hk' he => by
          rcases hU hgg k b hk' with h1 | h1
          · simp only at hn; omega
          · rw [he] at h1; exact hnu h1)
        have := hk (setβ β h.cnt n) _ _ tree (more U n) w' (agree_setβ β h.cnt n) (Nat.le_succ _) hg.size k1 k2 (fun _ k b hk' => by
          simp only [allocH, T.get_set] at hk'
          by_cases hkk : h.cnt = k
          · subst hkk; rw [setβ_same]; exact .inr (.inl rfl)
          · rw [if_neg hkk] at hk'
            rw [agree_setβ β h.cnt n k (hr.blk k b hk').1]
            rcases hU hgg k b hk' with h1 | h1
            · exact .inl h1
            · exact .inr (.inr h1)) hd ht
        rw [k3] at this
        exact this
      | false =>
        rw [Done.effCase (by rw [hop]; simp [pureK]) (by rw [hop]; simp [softK, readK, callK, pCall]) (by simp)]
        unfold Oper.wp
        rw [hrun w]
        obtain ⟨k1, k2, k3⟩ := newH_push (t := t) hr hok
        refine ⟨(Grow.push w _).size, ?_⟩
        have := hk (setβ β h.cnt w.heap.size) _ _ tree U _ (agree_setβ β h.cnt w.heap.size) (Nat.le_succ _) (Grow.push w _).size k1 k2 (fun hg => by rw [hgg] at hg; cases hg) hd ht
        rw [k3] at this
        exact this
    · cases hd
  case box t x =>
    cases hgg : g with
    | true => rw [hgg] at hd; cases hd
    | false =>
    rw [hgg] at hd
    simp only [cond_false] at hd
    split at hd
    · rename_i s hx
      split at hd
      · rename_i cs hcs
        obtain ⟨h1, h2⟩ := evO_sound hf hx
        obtain ⟨hcells, hok⟩ := cells_den (β := β) h2 hcs
        have hrun : (execOp a.eval o).run P w = .ok (.value (.pointer (some ⟨w.heap.size, 0, none⟩))) (World.push w (.cells (cs.map (Atom.den β e)).toArray t (0, 0))) := by
          unfold execOp
          rw [hop]
          simp only [Instr.box, Sem.run_bind, Result.andThen_ok, run_newVar, Sem.run_pure, h1, hcells]
        unfold newH at hd
        rw [Done.effCase (by rw [hop]; simp [pureK]) (by rw [hop]; simp [softK, readK, callK, pCall]) (by rw [hop]; simp [allocK])]
        unfold Oper.wp
        rw [hrun]
        obtain ⟨k1, k2, k3⟩ := newH_push (t := t) hr hok
        refine ⟨(Grow.push w _).size, ?_⟩
        have := hk (setβ β h.cnt w.heap.size) _ _ tree U _ (agree_setβ β h.cnt w.heap.size) (Nat.le_succ _) (Grow.push w _).size k1 k2 (fun hg => by rw [hgg] at hg; cases hg) hd ht
        rw [k3] at this
        exact this
      · cases hd
    · cases hd
  case call c =>
    split at hd
    · rename_i f hcl
      split at hd
      · rename_i args hargs
        obtain ⟨e1, e2⟩ := evs_sound hf hargs
        have hmap : c.args.map a.eval = (args.map (SV.den β e)).toArray := by
          rw [← e1]
          exact Array.toList_inj.1 (by simp)
        have hex : ∀ w', (execOp a.eval o).run P w' = (callFunc f (args.map (SV.den β e)).toArray).run P w' := fun w' => by
          rw [run_call hop hcl, hmap]
        split at hd
        · rename_i ds v h' hqf
          obtain ⟨hsm, hqq⟩ := hq f args h ds v h' hqf
          obtain ⟨hds, u, hu, hut⟩ := dns_holds hd ht
          obtain ⟨hv, hqr⟩ := hqq e β hr.facts e2 hds
          have hcnt : h'.cnt = h.cnt := hsm.2.1
          have goes : ∀ w', Grow w w' → K U (a.put o.dst (v.den β e)) w' := fun w' hg => by
            refine hk β v h' u U w' (Agree.refl _ _) (Nat.le_of_eq hcnt.symm) hg.size ((hr.grow hg).same hsm) (by rw [hcnt]; exact hv) (fun hgg k b hk' => ?_) hu hut
            rw [hsm.1] at hk'
            exact hU hgg k b hk'
          have hsoft : softK g o.op = (g || Nat.beq f pFn) := by rw [hop]; simp [softK, readK, callK, pCall, hcl]
          cases hgg : (g || Nat.beq f pFn) with
          | true =>
            rw [Done.softCase (by rw [hop]; simp [pureK]) (hsoft.trans hgg)]
            refine ⟨v.den β e, fun w' hg => ?_, goes⟩
            have := hqr w0 w' (hr.grow hg)
            unfold QuietRun at this ⊢
            rw [hex]
            exact this
          | false =>
            have hg0 : g = false := (Bool.or_eq_false_iff.1 hgg).1
            rw [Done.effCase (by rw [hop]; simp [pureK]) (by rw [show softK _ o.op = _ from hsoft.trans hgg]; simp) (by rw [show ((⟨g, _⟩ : Way).g) = false from hg0]; simp)]
            have hqw : QuietRun P (execOp a.eval o) (v.den β e) w := by
              have := hqr w0 w hr
              unfold QuietRun at this ⊢
              rw [hex]
              exact this
            exact hqw.wp fun w' hg => ⟨hg.size, goes w' hg⟩
        · rename_i hqf
          have hsoft : softK g o.op = (g || Nat.beq f pFn) := by rw [hop]; simp [softK, readK, callK, pCall, hcl]
          cases hgg' : (g || Nat.beq f pFn) with
          | true => rw [hgg'] at hd; cases hd
          | false =>
          rw [hgg'] at hd
          have hgg : g = false := (Bool.or_eq_false_iff.1 hgg').1
          dsimp only [cond_false] at hd
          rw [Done.effCase (by rw [hop]; simp [pureK]) (by rw [show softK _ o.op = _ from hsoft.trans hgg']; simp) (by rw [show ((⟨g, _⟩ : Way).g) = false from hgg]; simp)]
          unfold Oper.wp
          rw [hex]
          split at hd
          · rename_i ds v h' hpf
            obtain ⟨hds, u, hu, hut⟩ := dns_holds hd ht
            obtain ⟨hcnt, hpp⟩ := hp f args h ds v h' hpf
            obtain ⟨hv, hrun, hcalls⟩ := hpp w0 e β w hr e2 hds
            rw [hrun]
            refine hcalls.mono fun en w' ⟨he, hr', hsz⟩ => ?_
            subst he
            exact ⟨hsz, hk β v h' u U w' (Agree.refl _ _) (Nat.le_of_eq hcnt.symm) hsz hr' (by rw [hcnt]; exact hv) (fun hg => by rw [hgg] at hg; cases hg) hu hut⟩
          · obtain ⟨hrun, hcalls⟩ := hcf f args h k tree hd ht β w hr e2 (fun v w' => w.heap.size ≤ w'.heap.size ∧ K U (a.put o.dst v) w')
              (fun β' v h' tree' w' g1 g2 g3 g4 g5 g6 g7 => ⟨g3, hk β' v h' tree' U w' g1 g2 g3 g4 g5 (fun hg => by rw [hgg] at hg; cases hg) g6 g7⟩)
            rw [hrun]
            refine hcalls.mono fun en w' ⟨v, he, hR⟩ => ?_
            subst he
            exact hR
      · cases hd
    · rename_i b hcl
      split at hd
      · rename_i args hargs
        obtain ⟨e1, e2⟩ := evs_sound hf hargs
        have hmap : c.args.map a.eval = (args.map (SV.den β e)).toArray := by
          rw [← e1]
          exact Array.toList_inj.1 (by simp)
        split at hd
        · rename_i v hb
          cases hin : inRs v with
          | false => rw [hin] at hd; cases hd
          | true =>
            rw [hin] at hd
            simp only [cond_true] at hd
            have hv : v.ok h.cnt e := inRs_spec hin _
            have hex : ∀ w', (execOp a.eval o).run P w' = .ok (.value (v.den β e)) w' := fun w' => by
              rw [run_bcall hop hcl, hmap]
              exact bltn_sound hb _ _ w'
            cases hgg : g with
            | true =>
              rw [Done.softCase (by rw [hop]; simp [pureK]) (by rw [hop]; simp [softK, callK])]
              refine ⟨v.den β e, fun w' _ => ?_, fun w' hg => hk β v h tree U w' (Agree.refl _ _) (Nat.le_refl _) hg.size (hr.grow hg) hv hU hd ht⟩
              unfold QuietRun
              rw [hex]
              exact ⟨rfl, Grow.refl _⟩
            | false =>
              rw [Done.effCase (by rw [hop]; simp [pureK]) (by rw [hop]; simp [softK, readK, pCall, hcl]) (by simp)]
              unfold Oper.wp
              rw [hex]
              exact ⟨Nat.le_refl _, hk β v h tree U w (Agree.refl _ _) (Nat.le_refl _) (Nat.le_refl _) hr hv hU hd ht⟩
        · cases hgg : g with
          | true => rw [hgg] at hd; cases hd
          | false =>
            rw [hgg] at hd
            simp only [cond_false] at hd
            rw [Done.effCase (by rw [hop]; simp [pureK]) (by rw [hop]; simp [softK, readK, pCall, hcl]) (by simp)]
            unfold Oper.wp
            have hbe : ∀ {bf : Sem Value}, (∀ w', (builtin b c.argTypes o.type (c.args.map fun | .const _ => true | _ => false) (args.map (SV.den β e)).toArray).run P w' = (bf >>= fun v => pure (Next.value v)).run P w') → (∃ w' β' v h' tree', bf.run P w = .ok (v.den β' e) w' ∧ Agree h.cnt β β' ∧ h.cnt ≤ h'.cnt ∧ w.heap.size ≤ w'.heap.size ∧ HRel w0 e β' h' w' ∧ v.ok h'.cnt e ∧ k v h' = some tree' ∧ tree'.holds e Φ) →
                (match (execOp a.eval o).run P w with | .ok (.value v) w' => w.heap.size ≤ w'.heap.size ∧ K U (a.put o.dst v) w' | _ => False) := fun h1 h2 => by
              obtain ⟨w', β', v, h', tree', q1, q2, q3, q4, q5, q6, q7, q8⟩ := h2
              rw [run_bcall hop hcl, hmap, h1, Sem.run_bind, q1]
              exact ⟨q4, hk β' v h' tree' U w' q2 q3 q4 q5 q6 (fun hg => by rw [hgg] at hg; cases hg) q7 q8⟩
            unfold bOp at hd
            split at hd
            · have := hbe (bf := Builtin.append_ c.argTypes o.type (args.map (SV.den β e)).toArray) (fun _ => rfl) (appOp_sound hr hd ht e2 o.type)
              split at this
              · rename_i v w' hv
                rw [hv]
                exact this
              · exact this.elim
            · have := hbe (bf := Builtin.copy_ c.argTypes o.type (args.map (SV.den β e)).toArray) (fun _ => rfl) (copyOp_sound hr hd ht e2 o.type)
              split at this
              · rename_i v w' hv
                rw [hv]
                exact this
              · exact this.elim
            · unfold mmOp at hd
              split at hd
              · rename_i t x t' y _ _ _
                cases hkk : decide (t = t') with
                | false => rw [hkk] at hd; cases hd
                | true =>
                  rw [hkk] at hd
                  simp only [cond_true] at hd
                  have hke := of_decide_eq_true hkk
                  subst hke
                  have hx : inR t (x.den e) := e2 (.one (.at (.int t x))) (by simp)
                  have hy : inR t (y.den e) := e2 (.one (.at (.int t y))) (by simp)
                  have hex : (execOp a.eval o).run P w = .ok (.value (.int t (if y.den e > x.den e then y.den e else x.den e))) w := by
                    rw [run_bcall hop hcl, hmap]
                    simp only [builtin, Builtin.max_, List.map_cons, List.map_nil, SV.den, SV1.den, Atom.den, List.foldlM_cons, List.foldlM_nil, Builtin.max2, Sem.run_bind, Sem.run_pure, Result.andThen_ok]
                  rw [hex]
                  refine ⟨Nat.le_refl _, ?_⟩
                  refine decideB_sound 20 hd ht hr fun c fs tree' h2 h3 h4 h5 => ?_
                  rw [ltI_den] at h3
                  have := hk β (.one (.at (.int t (bif c then y else x)))) (withF h fs) tree' U w (Agree.refl _ _) (Nat.le_refl _) (Nat.le_refl _) h2 (by cases c; exact hx; exact hy) (fun hg => by rw [hgg] at hg; cases hg) h4 h5
                  have hv : (SV.one (.at (.int t (bif c then y else x)))).den β e = .int t (if y.den e > x.den e then y.den e else x.den e) := by
                    simp only [SV.den, SV1.den, Atom.den]
                    cases c with
                    | true => rw [if_pos (of_decide_eq_true h3)]; rfl
                    | false => rw [if_neg (of_decide_eq_false h3)]; rfl
                  rw [hv] at this
                  exact this
              · rename_i t x t' y _ _ _
                cases hkk : decide (t = t') with
                | false => rw [hkk] at hd; cases hd
                | true =>
                  rw [hkk] at hd
                  simp only [cond_true] at hd
                  have hke := of_decide_eq_true hkk
                  subst hke
                  have hx : inR t (x.den e) := e2 (.one (.at (.int t x))) (by simp)
                  have hy : inR t (y.den e) := e2 (.one (.at (.int t y))) (by simp)
                  have hex : (execOp a.eval o).run P w = .ok (.value (.int t (if y.den e < x.den e then y.den e else x.den e))) w := by
                    rw [run_bcall hop hcl, hmap]
                    simp only [builtin, Builtin.min_, List.map_cons, List.map_nil, SV.den, SV1.den, Atom.den, List.foldlM_cons, List.foldlM_nil, Builtin.min2, Sem.run_bind, Sem.run_pure, Result.andThen_ok]
                  rw [hex]
                  refine ⟨Nat.le_refl _, ?_⟩
                  refine decideB_sound 20 hd ht hr fun c fs tree' h2 h3 h4 h5 => ?_
                  rw [ltI_den] at h3
                  have := hk β (.one (.at (.int t (bif c then y else x)))) (withF h fs) tree' U w (Agree.refl _ _) (Nat.le_refl _) (Nat.le_refl _) h2 (by cases c; exact hx; exact hy) (fun hg => by rw [hgg] at hg; cases hg) h4 h5
                  have hv : (SV.one (.at (.int t (bif c then y else x)))).den β e = .int t (if y.den e < x.den e then y.den e else x.den e) := by
                    simp only [SV.den, SV1.den, Atom.den]
                    cases c with
                    | true => rw [if_pos (of_decide_eq_true h3)]; rfl
                    | false => rw [if_neg (of_decide_eq_false h3)]; rfl
                  rw [hv] at this
                  exact this
              · cases hd
      · cases hd
    · cases hd
  case buildSlice t len ps =>
    cases hgg : g with
    | true => rw [hgg] at hd; cases hd
    | false =>
    rw [hgg] at hd
    simp only [cond_false] at hd
    split at hd
    · rename_i el l hu hl
      split at hd
      · rename_i cs hcs
        obtain ⟨h1, h2⟩ := evPs_sound hf hl
        obtain ⟨g1, hok⟩ := bsCells_sound (β := β) hu hcs h2
        have hrun : (execOp a.eval o).run P w = .ok (.value (.slice (some ⟨w.heap.size, 0, none⟩) len len)) (World.push w (.cells (cs.map (Atom.den β e)).toArray el (0, 0))) := by
          unfold execOp
          rw [hop]
          have : (ps.map fun (x : Nat × Operand) => match x with | (i, x) => (i, a.eval x)) = (l.map fun x => (x.1, x.2.den β e)).toArray := by
            rw [← h1]
            exact Array.toList_inj.1 (by simp)
          simp only [this, Sem.run_bind, g1, Result.andThen_ok, Sem.run_pure]
        unfold newS at hd
        rw [Done.effCase (by rw [hop]; simp [pureK]) (by rw [hop]; simp [softK, readK, callK, pCall]) (by rw [hop]; simp [allocK])]
        unfold Oper.wp
        rw [hrun]
        obtain ⟨k1, k2, k3⟩ := newS_push (t := el) len len hr hok
        refine ⟨(Grow.push w _).size, ?_⟩
        have := hk (setβ β h.cnt w.heap.size) _ _ tree U _ (agree_setβ β h.cnt w.heap.size) (Nat.le_succ _) (Grow.push w _).size k1 k2 (fun hg => by rw [hgg] at hg; cases hg) hd ht
        rw [k3] at this
        exact this
      · cases hd
    · cases hd
  case makeSlice t x y =>
    cases hgg : g with
    | true => rw [hgg] at hd; cases hd
    | false =>
    rw [hgg] at hd
    simp only [cond_false] at hd
    split at hd
    · rename_i el k1 l k2 c hu hx hy
      split at hd
      · rename_i cs hcs
        obtain ⟨h1, _⟩ := evO_sound hf hx
        obtain ⟨h3, _⟩ := evO_sound hf hy
        obtain ⟨g1, hok⟩ := msCells_sound (e := e) (β := β) (n := h.cnt) (k := k1) (k' := k2) hu hcs
        have hrun : (execOp a.eval o).run P w = .ok (.value (.slice (some ⟨w.heap.size, 0, none⟩) l.toNat c.toNat)) (World.push w (.cells (cs.map (Atom.den β e)).toArray el (0, 0))) := by
          unfold execOp
          rw [hop]
          simp only [h1, h3, SV.den, SV1.den, Atom.den, IE.den, Sem.run_bind, g1, Result.andThen_ok, Sem.run_pure]
        unfold newS at hd
        rw [Done.effCase (by rw [hop]; simp [pureK]) (by rw [hop]; simp [softK, readK, callK, pCall]) (by rw [hop]; simp [allocK])]
        unfold Oper.wp
        rw [hrun]
        obtain ⟨k1, k2, k3⟩ := newS_push (t := el) l.toNat c.toNat hr hok
        refine ⟨(Grow.push w _).size, ?_⟩
        have := hk (setβ β h.cnt w.heap.size) _ _ tree U _ (agree_setβ β h.cnt w.heap.size) (Nat.le_succ _) (Grow.push w _).size k1 k2 (fun hg => by rw [hgg] at hg; cases hg) hd ht
        rw [k3] at this
        exact this
      · cases hd
    · cases hd

theorem doOp_sound (hq : QOk P qf) (hp : POk P pf) (hcf : CallOk P w0 e Φ callF) {g : Bool} {s0 : Nat} {β : Nat → Nat} {tm : T SV} {h : Hp} {a : Act} {w : World} {U : Nat → Prop} {o : Oper} {k : SV → Hp → Option (Tree L)} {tree : Tree L} {Q : Exit → Act → World → Prop} {K : Kont}
    (hd : doOp P qf pf callF g tm h o.op k = some tree) (ht : tree.holds e Φ) (hf : FOk β e h.cnt tm a) (hr : HRel w0 e β h w) (hs : w0.heap.size ≤ s0) (hU : g = true → UOk s0 U β h)
    (hk : GoOn w0 e Φ g s0 β h a o.dst w k K) : Done P ⟨g, s0⟩ Q o K U a w := by
  unfold doOp at hd
  split at hd
  · rename_i s hps
    obtain ⟨h1, h2⟩ := pureOp_sound hf hr.facts hps
    have hpk : pureK o.op = true := by
      cases hop : o.op <;> rw [hop] at hps <;> first | rfl | (simp only [pureOp] at hps; cases hps)
    rw [Done.pureCase hpk]
    exact ⟨_, h1, hk β s h tree U w (Agree.refl _ _) (Nat.le_refl _) (Nat.le_refl _) hr h2 hU hd ht⟩
  · split at hd
    · rename_i d hdd
      obtain ⟨h1, h2⟩ := defOp_sound (β := β) (e := e) hf hdd
      have hpk : pureK o.op = true := by
        cases hop : o.op <;> rw [hop] at hdd <;> first | rfl | (simp only [defOp] at hdd; cases hdd)
      rw [Done.pureCase hpk]
      split at hd
      · rename_i c hc
        have hcv := ID.cst_sound hc e
        refine ⟨_, h1, ?_⟩
        have := hk β (.one (.at (.int d.kind (.c c)))) h tree U w (Agree.refl _ _) (Nat.le_refl _) (Nat.le_refl _) hr (by rw [hcv] at h2; exact h2) hU hd ht
        rw [hcv]
        exact this
      · obtain ⟨t', ht', rfl⟩ := Option.map_eq_some_iff.1 hd
        obtain ⟨hdh, htt⟩ := ht
        have hdh' : e.i h.ni = d.ev (IE.den e) := hdh
        refine ⟨_, h1, ?_⟩
        have := hk β (.one (.at (.int d.kind (.v h.ni)))) { h with ni := h.ni + 1 } t' U w (Agree.refl _ _) (Nat.le_refl _) (Nat.le_refl _) (hr.same (SameMem.ni h _)) (by
          show inR d.kind (e.i h.ni)
          rw [hdh']; exact h2) hU ht' htt
        simp only [SV.den, SV1.den, Atom.den, IE.den, hdh'] at this
        exact this
    · exact effOp_sound hq hp hcf hd ht hf hr hs hU hk
end
end Go.Sx
namespace Go.Sx
open Go

structure Rel (w0 : World) (e : Env) (β : Nat → Nat) (st : St) (a : Act) (w : World) : Prop where
  nd : a.defers = []
  sz : a.tmps.size = st.n
  fr : FOk β e st.h.cnt st.tm a
  hp : HRel w0 e β st.h w

section
variable {L : Type} {P : Program} {w0 : World} {e : Env} {Φ : L → Prop}

theorem wantB_sound {β : Nat → Nat} {tm : T SV} {h : Hp} {o : Oper} {ops : Array Oper} {kk : Bool → Hp → Option (Tree L)} {tree : Tree L} {a : Act} {w : World} {C : Prop}
    (hd : wantB ops.toList tm h o kk = some tree) (ht : tree.holds e Φ) (hf : FOk β e h.cnt tm a) (hr : HRel w0 e β h w)
    (hk : ∀ b fs tree', HRel w0 e β (withF h fs) w → Region.wanted o (yielded ops a.tmps) = b → kk b (withF h fs) = some tree' → tree'.holds e Φ → C) : C := by
  unfold wantB at hd
  split at hd
  · rename_i hg
    exact hk true h.facts tree hr (by simp [Region.wanted, hg]) hd ht
  · rename_i j want hg
    split at hd
    · rename_i oj hoj
      have hoj' : ops[j]? = some oj := by simpa using hoj
      split at hd
      · rename_i d hdst
        split at hd
        · rename_i x hx
          obtain ⟨h1, _⟩ := hf d _ hx
          have h1' : a.tmps.getD d undef = .bool (x.den e) := h1
          refine decideB_sound 20 hd ht hr fun b fs tree' h2 h3 h4 h5 => hk (b == want) fs tree' h2 ?_ h4 h5
          have hy : yielded ops a.tmps j = some b := by
            unfold yielded
            rw [hoj', Option.bind_some, hdst, Option.bind_some]
            have hlt : d < a.tmps.size := by
              rcases Nat.lt_or_ge d a.tmps.size with h | h
              · exact h
              · simp [Array.getElem?_eq_none h] at h1'
                cases h1'
            simp [hlt] at h1' ⊢
            rw [h1', h3]
          unfold Region.wanted
          rw [hg]
          simp only [hy]
          cases b <;> cases want <;> rfl
        · rename_i l hx
          obtain ⟨h1, _⟩ := hf d _ hx
          refine hk false h.facts tree hr ?_ hd ht
          have hy : yielded ops a.tmps j = none := by
            unfold yielded
            rw [hoj', Option.bind_some, hdst, Option.bind_some]
            have h1' : a.tmps.getD d undef = .tuple (l.map (SV1.den β e)).toArray := h1
            rcases Nat.lt_or_ge d a.tmps.size with h | h
            · simp [h] at h1' ⊢
              rw [h1']
            · simp [Array.getElem?_eq_none h]
          unfold Region.wanted
          rw [hg]
          simp only [hy]
          cases want <;> rfl
        · cases hd
      · cases hd
    · cases hd

theorem putS_rel {β β' : Nat → Nat} {st st' : St} {a : Act} {w w' : World} {h' : Hp} {dst : Option Tmp} {v : SV} (hr : Rel w0 e β st a w) (ha : Agree st.h.cnt β β') (hc : st.h.cnt ≤ h'.cnt)
    (hh : HRel w0 e β' h' w') (hv : v.ok h'.cnt e) (hp : putS st h' dst v = some st') : Rel w0 e β' st' (a.put dst (v.den β' e)) w' ∧ st'.h = h' := by
  unfold putS at hp
  have hf := hr.fr.mono ha hc
  split at hp
  · cases hp
    exact ⟨⟨hr.nd, hr.sz, hf, hh⟩, rfl⟩
  · rename_i d
    cases hb : Nat.blt d st.n with
    | false => rw [hb] at hp; cases hp
    | true =>
      rw [hb] at hp
      cases hp
      have hd : d < a.tmps.size := by rw [hr.sz]; simpa [Nat.blt_eq] using hb
      exact ⟨⟨hr.nd, by simp [Act.put, hr.sz], hf.put hd hv, hh⟩, rfl⟩

variable {qf pf : QSum} {callF : FuncId → List SV → Hp → (SV → Hp → Option (Tree L)) → Option (Tree L)}

theorem sxOps_sound (hq : QOk P qf) (hp : POk P pf) (hcf : CallOk P w0 e Φ callF) {g : Bool} {s0 : Nat} (hs : w0.heap.size ≤ s0) {ops : Array Oper} {Q : Exit → Act → World → Prop} {k : St → Option (Tree L)} :
    ∀ (l : List Oper) {st : St} {tree : Tree L} {β : Nat → Nat} {U : Nat → Prop} {a : Act} {w : World}, sxOps P qf pf callF g ops.toList l st k = some tree → tree.holds e Φ → Rel w0 e β st a w →
    (g = true → UOk s0 U β st.h) →
    (∀ β' st' tree' a' w', Agree st.h.cnt β β' → st.h.cnt ≤ st'.h.cnt → w.heap.size ≤ w'.heap.size → k st' = some tree' → tree'.holds e Φ → Rel w0 e β' st' a' w' → Q .normal a' w') →
    wpL P ⟨g, s0⟩ ops Q l U a w
  | [], st, tree, β, U, a, w, hd, ht, hr, _, hk => hk β st tree a w (Agree.refl _ _) (Nat.le_refl _) (Nat.le_refl _) hd ht hr
  | o :: rest, st, tree, β, U, a, w, hd, ht, hr, hU, hk => by
    unfold sxOps at hd
    refine wantB_sound hd ht hr.fr hr.hp fun b fs tree' hr' hw hd' ht' => ?_
    show OpOk P ⟨g, s0⟩ ops Q o (wpL P ⟨g, s0⟩ ops Q rest) U a w
    unfold OpOk
    cases b with
    | true =>
      rw [if_pos hw]
      simp only [cond_true] at hd'
      refine doOp_sound hq hp hcf hd' ht' hr.fr hr' hs hU fun β' v h' tree2 U' w' g1 g2 g3 g4 g5 g6 g7 g8 => ?_
      split at g7
      · rename_i st' hput
        have hr2 : Rel w0 e β { st with h := withF st.h fs } a w := ⟨hr.nd, hr.sz, hr.fr, hr'⟩
        obtain ⟨hr3, hst⟩ := putS_rel hr2 g1 g2 g4 g5 (by unfold putS at hput ⊢; exact hput)
        refine sxOps_sound hq hp hcf hs rest g7 g8 hr3 (fun hg => by rw [hst]; exact g6 hg) fun β2 st2 tree3 a' w2 k1 k2 k3 k4 k5 k6 => ?_
        rw [hst] at k1 k2
        exact hk β2 st2 tree3 a' w2 (g1.trans g2 k1) (Nat.le_trans g2 k2) (Nat.le_trans g3 k3) k4 k5 k6
      · cases g7
    | false =>
      rw [if_neg (by rw [hw]; simp)]
      simp only [cond_false] at hd'
      split at hd'
      · rename_i st' hput
        have hr2 : Rel w0 e β { st with h := withF st.h fs } a w := ⟨hr.nd, hr.sz, hr.fr, hr'⟩
        obtain ⟨hr3, hst⟩ := putS_rel (v := .tup []) hr2 (Agree.refl _ _) (Nat.le_refl _) hr' (by intro x hx; cases hx) (by unfold putS at hput ⊢; exact hput)
        refine sxOps_sound hq hp hcf hs rest hd' ht' hr3 (fun hg => by rw [hst]; exact hU hg) fun β2 st2 tree3 a' w2 k1 k2 k3 k4 k5 k6 => ?_
        rw [hst] at k1 k2
        exact hk β2 st2 tree3 a' w2 k1 k2 k3 k4 k5 k6
      · cases hd'
end
end Go.Sx
namespace Go.Sx
open Go

/-- A loop, seen from the head of a round. -/
def LP (P : Program) (c : Code) (Q : Exit → Act → World → Prop) (a : Act) (w : World) : Prop :=
  ∀ (b : Frame) (k : List Item) (cs : List Frame), ∃ e a' w', Q e a' w' ∧ Arrives P (lone (b.at a (.code c :: .inLoop c :: k)) cs w) b k cs e a' w'
theorem wp_of_LP {P : Program} {c : Code} {Q : Exit → Act → World → Prop} {a : Act} {w : World} (h : LP P c Q a w) : (Code.loop c).wp P Q a w := by
  intro b k cs
  obtain ⟨e, a', w', hq, harr⟩ := h b k cs
  exact ⟨e, a', w', hq, .of_steps (.one step_loop) harr⟩
theorem LP_step {P : Program} {c : Code} {Q : Exit → Act → World → Prop} {a : Act} {w : World} (h : c.wp P (Exit.then (LP P c Q) Q) a w) : LP P c Q a w := by
  intro b k cs
  obtain ⟨e, a₁, w₁, hq, harr⟩ := h b (.inLoop c :: k) cs
  cases e with
  | normal =>
    obtain ⟨e₂, a₂, w₂, hq₂, harr₂⟩ := hq b k cs
    exact ⟨e₂, a₂, w₂, hq₂, .of_steps (Steps.trans harr (.one step_inLoop)) harr₂⟩
  | exit id => exact ⟨_, a₁, w₁, hq, .pass (x := .inLoop c) rfl (fun _ _ => .inl (by simp)) harr⟩
  | goto l => exact ⟨_, a₁, w₁, hq, .pass (x := .inLoop c) rfl (fun _ _ => .inl (by simp)) harr⟩
  | ret => exact ⟨_, a₁, w₁, hq, .pass (x := .inLoop c) rfl (fun _ _ => .inl (by simp)) harr⟩
  | panic ch => exact ⟨_, a₁, w₁, hq, .pass (x := .inLoop c) rfl (fun _ _ => .inl (by simp)) harr⟩
  | outgrown => exact ⟨_, a₁, w₁, hq, .pass (x := .inLoop c) rfl (fun _ _ => .inl (by simp)) harr⟩

theorem Calm.then {N : Act → World → Prop} {Q : Exit → Act → World → Prop} (h : Calm Q) : Calm (Exit.then N Q) := ⟨h.1, h.2⟩
theorem Calm.inBlock {id : Nat} {Q : Exit → Act → World → Prop} (h : Calm Q) : Calm (Exit.inBlock id Q) := ⟨h.1, h.2⟩

/-- No function of the program is the one call that the machine answers by itself. -/
def NumOk (P : Program) : Prop := ∀ (f : Nat) (fn : Func), P.funcs[f]? = some fn → (fn.name == "runtime.NumGoroutine") = false

theorem run_enter {P : Program} (hn : NumOk P) {f : FuncId} {fn : Func} {c : Code} (hf : P.funcs[f]? = some fn) (hb : fn.body = some c) (args : Array Value) (w : World) :
    (callFunc f args).run P w = .ok (.enter f args) w := by
  have h1 : fn.name ≠ "runtime.NumGoroutine" := by have := hn f fn hf; simpa using this
  simp [callFunc, hf, h1, hb]

theorem argsT_get : ∀ (l : List SV) (i : Nat) (tm : T SV) (t : Nat), (argsT l i tm).get t = if i ≤ t ∧ t < i + l.length then l[t - i]? else tm.get t
  | [], i, tm, t => by simp only [argsT, List.length_nil, Nat.add_zero]; rw [if_neg (by omega)]
  | s :: l, i, tm, t => by
    rw [argsT, argsT_get l (i + 1), T.get_set]
    simp only [List.length_cons]
    by_cases h1 : i = t
    · subst h1
      rw [if_neg (by omega), if_pos rfl, if_pos (by omega)]
      simp
    · by_cases h2 : i + 1 ≤ t ∧ t < i + 1 + l.length
      · rw [if_pos h2, if_pos (by omega), show t - i = (t - (i + 1)) + 1 by omega]
        simp
      · rw [if_neg h2, if_neg h1, if_neg (by omega)]

section
variable {L : Type} {P : Program} {w0 : World} {e : Env} {Φ : L → Prop}

theorem enter_rel {β : Nat → Nat} {h : Hp} {w : World} (hr : HRel w0 e β h w) {args : List SV} (ha : ∀ s ∈ args, s.ok h.cnt e) (m : Nat) :
    Rel w0 e β { tm := argsT args 0 .leaf, n := max m args.length, h := h } { tmps := (args.map (SV.den β e)).toArray ++ Array.replicate (m - (args.map (SV.den β e)).toArray.size) undef, defers := [] } w where
  nd := rfl
  sz := by simp; omega
  fr := fun t s hs => by
    rw [argsT_get] at hs
    by_cases h1 : 0 ≤ t ∧ t < 0 + args.length
    · rw [if_pos h1] at hs
      simp only [Nat.sub_zero] at hs
      refine ⟨?_, ha s (List.mem_of_getElem? hs)⟩
      have hlt : t < args.length := by omega
      have hs' : args[t] = s := by rw [List.getElem?_eq_getElem hlt] at hs; exact Option.some.inj hs
      simp [hlt, Array.getElem?_append, hs']
    · rw [if_neg h1] at hs
      cases hs
  hp := hr

def resSem (tmps : Array Value) : ResultVar → Sem Value
  | .tmp t => pure (tmps.getD t undef)
  | .cell a t => do loadVar t (← asAddr (tmps.getD a undef))
theorem results_eq (fn : Func) (tmps : Array Value) : results fn tmps = (do
    let vs ← fn.results.mapM (resSem tmps)
    pure (if h : vs.size = 1 then vs[0] else .tuple vs)) := by
  unfold results
  congr 1

theorem resV_sound {β : Nat → Nat} {st : St} {a : Act} {w : World} (hr : Rel w0 e β st a w) {r : ResultVar} {x : SV1} (h : resV P st.tm st.h r = some x) :
    (resSem a.tmps r).run P w = .ok (x.den β e) w ∧ x.ok st.h.cnt e := by
  cases r with
  | tmp t =>
    simp only [resV] at h
    split at h
    · rename_i y hy
      cases h
      obtain ⟨h1, h2⟩ := hr.fr t _ hy
      refine ⟨?_, h2⟩
      simp only [resSem, Sem.run_pure]
      rw [h1]
      rfl
    · cases h
  | cell ad t =>
    simp only [resV] at h
    split at h
    · rename_i y hy
      cases h
      obtain ⟨z, hz, hl⟩ := ap1_some hy
      obtain ⟨h1, h2⟩ := hr.fr ad _ hz
      obtain ⟨h3, h4⟩ := load_sound hr.hp hl
      refine ⟨?_, h4⟩
      have h5 := h3 w (Grow.refl w)
      unfold loadOp at hl
      split at hl
      · rename_i p
        simp only [SV.den, SV1.den, Atom.den, Instr.loadAt, Instr.sureAddr, Sem.run_bind, Sem.run_pure, Result.andThen_ok] at h5
        simp only [resSem, h1, SV.den, SV1.den, Atom.den, asAddr, Sem.run_bind, Sem.run_pure, Result.andThen_ok]
        exact h5
      · cases hl
    · cases h

theorem resVs_sound {β : Nat → Nat} {st : St} {a : Act} {w : World} (hr : Rel w0 e β st a w) : ∀ {rs : List ResultVar} {l : List SV1}, resVs P st.tm st.h rs = some l →
    (rs.mapM (resSem a.tmps)).run P w = .ok (l.map (SV1.den β e)) w ∧ ∀ x ∈ l, x.ok st.h.cnt e
  | [], l, h => by cases h; exact ⟨rfl, by simp⟩
  | r :: rs, l, h => by
    unfold resVs at h
    split at h
    · rename_i x l' h1 h2
      cases h
      obtain ⟨g1, g2⟩ := resV_sound hr h1
      obtain ⟨g3, g4⟩ := resVs_sound hr h2
      refine ⟨?_, fun z hz => ?_⟩
      · rw [List.mapM_cons]
        simp only [Sem.run_bind]
        rw [g1]
        simp only [Result.andThen_ok]
        rw [g3]
        rfl
      · rcases List.mem_cons.1 hz with hz | hz
        · subst hz; exact g2
        · exact g4 z hz
    · cases h

theorem results_sound {β : Nat → Nat} {st : St} {a : Act} {w : World} (hr : Rel w0 e β st a w) {fn : Func} {l : List SV1} (h : resVs P st.tm st.h fn.results.toList = some l) :
    (results fn a.tmps).run P w = .ok ((resS l).den β e) w ∧ (resS l).ok st.h.cnt e := by
  obtain ⟨h1, h2⟩ := resVs_sound hr h
  have h3 : (fn.results.mapM (resSem a.tmps)).run P w = .ok (l.map (SV1.den β e)).toArray w := by
    rw [Array.mapM_eq_mapM_toList, Sem.run_map, h1]
    rfl
  refine ⟨?_, ?_⟩
  · rw [results_eq, Sem.run_bind, h3, Result.andThen_ok, Sem.run_pure]
    congr 1
    cases l with
    | nil => rfl
    | cons x l => cases l with
      | nil => rfl
      | cons y l => simp [resS, SV.den]
  · cases l with
    | nil => exact h2
    | cons x l => cases l with
      | nil => exact h2 x (by simp)
      | cons y l => exact h2

variable {qf pf : QSum}

/-- What holds where the walk goes on. -/
def KOk (w0 : World) (e : Env) (Φ : L → Prop) (st : St) (β : Nat → Nat) (w : World) (k : Xt → St → Option (Tree L)) (Q : Exit → Act → World → Prop) : Prop :=
  ∀ β' x st' tree' a' w', Agree st.h.cnt β β' → st.h.cnt ≤ st'.h.cnt → w.heap.size ≤ w'.heap.size → k x st' = some tree' → tree'.holds e Φ → Rel w0 e β' st' a' w' → Q x.ex a' w'

/-- A call, by the walk of its body. -/
theorem call_of_body (hnum : NumOk P) {n : Nat}
    (ih : ∀ {c : Code} {st : St} {k : Xt → St → Option (Tree L)} {tree : Tree L} {β : Nat → Nat} {a : Act} {w : World} {Q : Exit → Act → World → Prop}, sx P qf pf n c st k = some tree → tree.holds e Φ →
      Rel w0 e β st a w → Calm Q → KOk w0 e Φ st β w k Q → c.wp P Q a w) :
    CallOk P w0 e Φ (sxCall P qf pf n) := by
  intro f args h kk tree hd ht β w hr ha R hR
  unfold sxCall at hd
  split at hd
  · rename_i fn hfn
    split at hd
    · rename_i body hb
      refine ⟨run_enter hnum hfn hb _ _, calls_of_wp hfn hb ?_⟩
      refine ih hd ht (enter_rel hr ha fn.ntmps) ⟨fun c a w hq => ?_, fun a w hq => ?_⟩ fun β' x st' tree' a' w' g1 g2 g3 g4 g5 g6 => ?_
      · obtain ⟨_, v, he, _⟩ := hq; cases he
      · obtain ⟨v, he, _⟩ := hq; cases he
      · have fin : ∀ l, resVs P st'.tm st'.h fn.results.toList = some l → kk (resS l) st'.h = some tree' →
            a'.defers = [] ∧ ∃ v, (results fn a'.tmps).run P w' = .ok v w' ∧ ∃ v', Ending.returned v = .returned v' ∧ R v' w' := fun l hl hkk => by
          obtain ⟨h1, h2⟩ := results_sound g6 hl
          exact ⟨g6.nd, _, h1, _, rfl, hR β' (resS l) st'.h tree' w' g1 g2 g3 g6.hp h2 hkk g5⟩
        cases x with
        | exit id => cases g4
        | normal =>
          simp only at g4
          split at g4
          · rename_i l hl; exact fin l hl g4
          · cases g4
        | ret =>
          simp only at g4
          split at g4
          · rename_i l hl; exact fin l hl g4
          · cases g4
    · cases hd
  · cases hd

theorem sx_sound (hm : P.follows .mixedOrders = true) (hnum : NumOk P) (hq : QOk P qf) (hp : POk P pf) : ∀ (n : Nat) {L : Type} {Φ : L → Prop} {c : Code} {st : St} {k : Xt → St → Option (Tree L)} {tree : Tree L} {β : Nat → Nat} {a : Act} {w : World}
    {Q : Exit → Act → World → Prop}, sx P qf pf n c st k = some tree → tree.holds e Φ → Rel w0 e β st a w → Calm Q → KOk w0 e Φ st β w k Q →
    c.wp P Q a w ∧ ∀ b, c = .loop b → LP P b Q a w := by
  intro n
  induction n with
  | zero => intro L Φ c st k tree β a w Q hd; cases hd
  | succ n ih =>
    intro L Φ c st k tree β a w Q hd ht hr hc hk
    unfold sx at hd
    have noLoop : ∀ {c' : Code}, (∀ b, c' ≠ .loop b) → c'.wp P Q a w → c'.wp P Q a w ∧ ∀ b, c' = .loop b → LP P b Q a w := fun hne hw => ⟨hw, fun b hb => absurd hb (hne b)⟩
    cases c <;> simp only [reduceCtorEq] at hd
    case skip => exact noLoop (by simp) (wp_skip (hk β .normal st tree a w (Agree.refl _ _) (Nat.le_refl _) (Nat.le_refl _) hd ht hr))
    case ret => exact noLoop (by simp) (wp_ret (hk β .ret st tree a w (Agree.refl _ _) (Nat.le_refl _) (Nat.le_refl _) hd ht hr))
    case exit id => exact noLoop (by simp) (wp_exit (hk β (.exit id) st tree a w (Agree.refl _ _) (Nat.le_refl _) (Nat.le_refl _) hd ht hr))
    case seq x y =>
      refine noLoop (by simp) (wp_seq ?_)
      refine (ih hd ht hr hc.then fun β' x' st' tree' a' w' g1 g2 g3 g4 g5 g6 => ?_).1
      cases x' with
      | normal => exact (ih g4 g5 g6 hc fun β2 x2 st2 tree2 a2 w2 k1 k2 k3 k4 k5 k6 => hk β2 x2 st2 tree2 a2 w2 (g1.trans g2 k1) (Nat.le_trans g2 k2) (Nat.le_trans g3 k3) k4 k5 k6).1
      | exit id => exact hk β' (.exit id) st' tree' a' w' g1 g2 g3 g4 g5 g6
      | ret => exact hk β' .ret st' tree' a' w' g1 g2 g3 g4 g5 g6
    case block id b =>
      refine noLoop (by simp) (wp_block ?_)
      refine (ih hd ht hr hc.inBlock fun β' x' st' tree' a' w' g1 g2 g3 g4 g5 g6 => ?_).1
      cases x' with
      | normal => exact hk β' .normal st' tree' a' w' g1 g2 g3 g4 g5 g6
      | ret => exact hk β' .ret st' tree' a' w' g1 g2 g3 g4 g5 g6
      | exit id' =>
        simp only at g4
        show (if id' = id then Q .normal a' w' else Q (.exit id') a' w')
        cases hb : Nat.beq id' id with
        | true =>
          rw [hb] at g4
          rw [if_pos (Nat.eq_of_beq_eq_true hb)]
          exact hk β' .normal st' tree' a' w' g1 g2 g3 g4 g5 g6
        | false =>
          rw [hb] at g4
          rw [if_neg (Nat.ne_of_beq_eq_false hb)]
          exact hk β' (.exit id') st' tree' a' w' g1 g2 g3 g4 g5 g6
    case loop b =>
      have hlp : LP P b Q a w := by
        refine LP_step ?_
        refine (ih hd ht hr hc.then fun β' x' st' tree' a' w' g1 g2 g3 g4 g5 g6 => ?_).1
        cases x' with
        | normal => exact (ih g4 g5 g6 hc fun β2 x2 st2 tree2 a2 w2 k1 k2 k3 k4 k5 k6 => hk β2 x2 st2 tree2 a2 w2 (g1.trans g2 k1) (Nat.le_trans g2 k2) (Nat.le_trans g3 k3) k4 k5 k6).2 b rfl
        | exit id => exact hk β' (.exit id) st' tree' a' w' g1 g2 g3 g4 g5 g6
        | ret => exact hk β' .ret st' tree' a' w' g1 g2 g3 g4 g5 g6
      exact ⟨wp_of_LP hlp, fun b' hb' => by cases hb'; exact hlp⟩
    case cond c x y =>
      refine noLoop (by simp) ?_
      split at hd
      · rename_i t hev
        obtain ⟨h1, _⟩ := evO_sound hr.fr hev
        refine decideB_sound 20 hd ht hr.hp fun b fs tree' h2 h3 h4 h5 => ?_
        have hcb : a.eval c = .bool b := by rw [h1, ← h3]; rfl
        have hr' : Rel w0 e β { st with h := withF st.h fs } a w := ⟨hr.nd, hr.sz, hr.fr, h2⟩
        refine wp_cond hcb ?_
        cases b with
        | true => exact (ih h4 h5 hr' hc hk).1
        | false => exact (ih h4 h5 hr' hc hk).1
      · cases hd
    case region id ops draw =>
      refine noLoop (by simp) ?_
      have hg : Grow w ({ w with drawn := w.drawn + 1 } : World) := ⟨rfl, rfl, rfl, Nat.le_refl _, fun _ _ => rfl⟩
      have hr' : Rel w0 e β st a { w with drawn := w.drawn + 1 } := ⟨hr.nd, hr.sz, hr.fr, hr.hp.grow hg⟩
      split at hd
      · rename_i t1 h0
        cases hdd : (draw && !(okDraw false ops)) with
        | false => rw [hdd] at h0; cases h0
        | true =>
        rw [hdd] at h0
        simp only [cond_true] at h0
        have hdraw : draw = true := by
          simp only [Bool.and_eq_true] at hdd
          exact hdd.1
        subst hdraw
        obtain ⟨g0, h0⟩ := twoE_spec h0
        unfold twoT at h0
        split at h0
        · rename_i i j l' _
          cases hB : twoB g0 ops i j l' with
          | false => rw [hB] at h0; cases h0
          | true =>
          rw [hB] at h0
          simp only [cond_true] at h0
          split at h0
          · rename_i t1' t2 h1 h2
            cases hq2 : eqTree t1' t2 with
            | false => rw [hq2] at h0; cases h0
            | true =>
            rw [hq2] at h0
            cases h0
            have hbt := bindT_holds hd ht
            have hte := eqTree_eq hq2
            have hcf := call_of_body (P := P) (qf := qf) (pf := pf) (w0 := w0) (e := e) (L := St) (Φ := fun s => ∃ v, k .normal s = some v ∧ v.holds e Φ) hnum (n := n) fun h1 h2 h3 h4 h5 => (ih h1 h2 h3 h4 h5).1
            refine region_two (m := ⟨g0, w.heap.size⟩) hm hc hB (Nat.le_refl _) ?_ ?_
            · refine sxOps_sound hq hp hcf hr.hp.size ops.toList h1 hbt hr' (fun _ k b hk' => .inl (by obtain ⟨_, _, ⟨_, h3⟩, _⟩ := hr.hp.blk k b hk'; exact (Array.getElem?_eq_some_iff.1 h3).1)) fun β' st' tree' a' w' g1 g2 g3 g4 g5 g6 => ?_
              cases g4
              obtain ⟨v, hv1, hv2⟩ := g5
              exact hk β' .normal st' v a' w' g1 g2 g3 hv1 hv2 g6
            · refine sxOps_sound hq hp hcf hr.hp.size _ h2 (by rw [← hte]; exact hbt) hr' (fun _ k b hk' => .inl (by obtain ⟨_, _, ⟨_, h3⟩, _⟩ := hr.hp.blk k b hk'; exact (Array.getElem?_eq_some_iff.1 h3).1)) fun β' st' tree' a' w' g1 g2 g3 g4 g5 g6 => ?_
              cases g4
              obtain ⟨v, hv1, hv2⟩ := g5
              exact hk β' .normal st' v a' w' g1 g2 g3 hv1 hv2 g6
          · cases h0
        · cases h0
      · split at hd
        · rename_i g hway
          have hcf := call_of_body (P := P) (qf := qf) (pf := pf) (w0 := w0) (e := e) (Φ := Φ) hnum (n := n) fun h1 h2 h3 h4 h5 => (ih h1 h2 h3 h4 h5).1
          unfold wayOf at hway
          cases draw with
          | false =>
            simp only [cond_false, Option.some.injEq] at hway
            subst hway
            refine wp_region_L (m := ⟨false, w0.heap.size⟩) hr.hp.size ?_
            exact sxOps_sound hq hp hcf (Nat.le_refl _) ops.toList hd ht hr (fun hg => by cases hg) fun β' st' tree' a' w' g1 g2 g3 g4 g5 g6 => hk β' .normal st' tree' a' w' g1 g2 g3 g4 g5 g6
          | true =>
            simp only [cond_true] at hway
            have hok : okDraw g ops = true := by
              cases h1 : okDraw false ops with
              | true => rw [h1] at hway; cases hway; exact h1
              | false =>
                rw [h1] at hway
                cases h2 : okDraw true ops with
                | true => rw [h2] at hway; cases hway; exact h2
                | false => rw [h2] at hway; cases hway
            refine wp_region_draws (m := ⟨g, w.heap.size⟩) hm hc hok (Nat.le_refl _) ?_
            refine sxOps_sound hq hp hcf hr.hp.size ops.toList hd ht hr' (fun _ k b hk' => .inl ?_) fun β' st' tree' a' w' g1 g2 g3 g4 g5 g6 => hk β' .normal st' tree' a' w' g1 g2 g3 g4 g5 g6
            exact (by obtain ⟨_, _, ⟨_, h3⟩, _⟩ := hr.hp.blk k b hk'; exact (Array.getElem?_eq_some_iff.1 h3).1)
        · cases hd
          exact False.elim ht

/-- The contract that a walk gives. -/
theorem sxCall_sound (hm : P.follows .mixedOrders = true) (hnum : NumOk P) (hq : QOk P qf) (hp : POk P pf) (n : Nat) : CallOk P w0 e Φ (sxCall P qf pf n) :=
  call_of_body hnum fun h1 h2 h3 h4 h5 => (sx_sound hm hnum hq hp n h1 h2 h3 h4 h5).1
end
end Go.Sx
