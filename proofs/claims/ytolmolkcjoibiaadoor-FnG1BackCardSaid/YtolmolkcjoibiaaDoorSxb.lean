import Derived.Test.YtolmolkcjoibiaaDoorSxa
/- Aids to the claim: what is shown here is said at each theorem. -/
namespace Go.Sx
open Go
set_option maxRecDepth 100000
/-! ### The contracts of impl.G1Parse and spec.Parsed1 -/
def byV (g : Nat → Fq) : List Value := (List.range 32).map fun j => .int .u8 ((g j).val : Nat)
def GpC (P : Program) (f : FuncId) (ty : TypeId) : Prop := ∀ (w : World) (x pe : Addr) (g : Nat → Fq), (∀ j, j < 32 → (g j).val < 256) → CellsAt w x (byV g) → CellsAt w ⟨0, 0, none⟩ [.iface ty (.pointer (some pe))] → pe.spot = none → pe.block < w.heap.size →
  Does P f #[.slice (some x) 32 32] (gV (gP (bL g))) w w
def SpC (P : Program) (f : FuncId) : Prop := ∀ (w : World) (x : Addr) (g : Nat → Fq), (∀ j, j < 32 → (g j).val < 256) → CellsAt w x (byV g) → Does P f #[.slice (some x) 32 32] (sV (sP (bL g))) w w
theorem hp0_relG {w : World} {e : Env} {β : Nat → Nat} {ext : List (List Atom)} {ni nf : Nat}
    (hcells : ∀ j c, ext[j]? = some c → (e.ext j).block < w.heap.size ∧ CellsAt w (e.ext j) (c.map (Atom.den β e)) ∧ ∀ a ∈ c, a.ok 0 e)
    (hfrz : ext[0]? = some []) (hgl : ∀ g c, ext[g + 7]? = some c → e.ext (g + 7) = ⟨g, 0, none⟩) : HRel w e β (hp0 ext ni nf) w where
  gl := hgl
  tape := rfl
  os := rfl
  output := rfl
  size := Nat.le_refl _
  blk := fun k b hk => by cases k <;> simp [hp0, T.get] at hk
  inj := fun k k' b b' hk => by cases k <;> simp [hp0, T.get] at hk
  old := fun j hj => rfl
  logok := fun x hx => by simp [hp0] at hx
  extb := fun j c hj => (hcells j c hj).1
  ext := fun j c hj i a ha => by
    obtain ⟨h1, h2, h3⟩ := hcells j c hj
    exact ⟨h2.2 i (a.den β e) (by simp [ha]), h3 a (List.mem_of_getElem? ha)⟩
  frz := fun c hc i hi => by
    have hc : ext[0]? = some c := hc
    rw [hfrz] at hc
    cases hc
    simp at hi
  dis := fun j c c0 hj hc hc0 i i' hi hi' => by
    have hc0 : ext[0]? = some c0 := hc0
    rw [hfrz] at hc0
    cases hc0
    simp at hi'
  facts := fun x hx => by simp [hp0] at hx
theorem cell_block {w : World} {x : Addr} {v : Value} {l : List Value} (h : CellsAt w x (v :: l)) : x.block < w.heap.size := by
  have := h.2 0 v rfl
  unfold World.cell? at this
  split at this
  · rename_i hb
    exact (Array.getElem?_eq_some_iff.1 hb).1
  · cases this
def byEnv (g : Nat → Fq) (ext : Nat → Addr) : Env := { i := fun j => ((g j).val : Nat), b := fun _ => false, f := fun _ => 0, ext := ext }
theorem by32_den {β : Nat → Nat} {e : Env} {g : Nat → Fq} (h : ∀ j, j < 32 → e.i j = ((g j).val : Nat)) : by32.map (Atom.den β e) = byV g := by
  rw [by32, byV, List.map_map]
  refine List.map_congr_left fun j hj => ?_
  have := h j (List.mem_range.1 hj)
  show Value.int .u8 (e.i j) = _
  rw [this]
theorem by32_ok {e : Env} {n : Nat} {g : Nat → Fq} (h : ∀ j, j < 32 → e.i j = ((g j).val : Nat) ∧ (g j).val < 256) : ∀ a ∈ by32, a.ok n e := fun a ha => by
  obtain ⟨j, hj, rfl⟩ := List.mem_map.1 ha
  obtain ⟨h1, h2⟩ := h j (List.mem_range.1 hj)
  show inR .u8 (e.i j)
  rw [h1]
  simp only [inR, IntKind.min, IntKind.max, IntKind.bits, IntKind.signed]
  simp
  omega
section
variable {P : Program} {qf pf : QSum} (hm : P.follows .mixedOrders = true) (hnum : NumOk P) (hq : QOk P qf) (hp : POk P pf) {f : FuncId}
include hm hnum hq hp
theorem sl_of {exts : List (List Atom)} {t : Tree Lf} {u : Value} (h : sxCall P qf pf 5000 f [sl32] (hp0 ([] :: by32 :: exts) 32 0) leafE = some t) (hbd : t.bd 32 0 0 = true) {w : World} {g : Nat → Fq} (hg : ∀ j, j < 32 → (g j).val < 256) (ext : Nat → Addr)
    (hx : CellsAt w (ext 1) (byV g)) (h0 : ext 0 = ⟨(ext 1).block, 0, none⟩)
    (hcells : ∀ j c, exts[j]? = some c → (ext (j + 2)).block < w.heap.size ∧ CellsAt w (ext (j + 2)) (c.map (Atom.den (fun _ => 0) (byEnv g ext))) ∧ ∀ a ∈ c, ∀ e', AgreeE 32 0 0 (byEnv g ext) e' → a.ok 0 e' ∧ a.den (fun _ => 0) e' = a.den (fun _ => 0) (byEnv g ext))
    (hgl : ∀ k c, exts[k + 5]? = some c → ext (k + 7) = ⟨k, 0, none⟩)
    (law : ∀ e, Bys e g → t.goal e fun l => (∀ β, l.1.den β e = u) ∧ l.2 = []) : Does P f #[.slice (some (ext 1)) 32 32] u w w := by
  have hxb : (ext 1).block < w.heap.size := cell_block (l := ((List.range' 1 31).map fun j => .int .u8 ((g j).val : Nat))) (v := .int .u8 ((g 0).val : Nat)) hx
  have hby : ∀ e', AgreeE 32 0 0 (byEnv g ext) e' → Bys e' g := fun e' ha j hj => ⟨ha.i j hj, hg j hj⟩
  have hargs : ∀ e', AgreeE 32 0 0 (byEnv g ext) e' → [sl32].map (SV.den (fun _ => 0) e') = [.slice (some (ext 1)) 32 32] := fun e' ha => by
    have hx1 : e'.ext = ext := ha.ext
    simp only [List.map_cons, List.map_nil, sl32, SV.den, SV1.den, Atom.den, SA.den, hx1, Nat.add_zero]
    have hs := hx.1
    generalize ext 1 = A at hs
    obtain ⟨b, o, s⟩ := A
    simp only at hs
    subst hs
    rfl
  have key := fn_of_tree hm hnum hq hp h hbd (w := w) (e := byEnv g ext) (β := fun _ => 0)
    (fun e' ha => by
      have hx1 : e'.ext = ext := ha.ext
      refine hp0_relG (fun j c hj => ?_) rfl (fun k c hk => ?_)
      · rw [hx1]
        match j, hj with
        | 0, hj => cases hj; rw [h0]; exact ⟨hxb, ⟨rfl, fun i v hi => by simp at hi⟩, fun a ha => by cases ha⟩
        | 1, hj =>
          cases hj
          refine ⟨hxb, ?_, by32_ok fun j hj => hby e' ha j hj⟩
          rw [by32_den fun j hj => (hby e' ha j hj).1]
          exact hx
        | j + 2, hj =>
          have hj : exts[j]? = some c := hj
          obtain ⟨g1, g2, g3⟩ := hcells j c hj
          refine ⟨g1, ?_, fun a hac => (g3 a hac e' ha).1⟩
          rw [List.map_congr_left fun a hac => (g3 a hac e' ha).2]
          exact g2
      · rw [hx1]
        exact hgl k c hk)
    (fun e' ha s hs => by cases List.mem_singleton.1 hs; trivial)
    (fun e' ha => by rw [hargs e' ha, hargs _ (AgreeE.refl _ _ _ _)])
    (fun e' l => (∀ β, l.1.den β e' = u) ∧ l.2 = []) (fun e' ha => law e' (hby e' ha))
  rw [hargs _ (AgreeE.refl _ _ _ _)] at key
  refine ⟨key.1, key.2.mono fun en w' ⟨v, log, β', e', cnt, g1, g2, g3, g4, g5, g6⟩ => ?_⟩
  obtain ⟨g51, g52⟩ := g5
  simp only at g51 g52
  subst g52
  exact ⟨by rw [g1, g51], g6⟩
theorem gp_of {ty : TypeId} (h : sxCall P qf pf 5000 f [sl32] (hp0 (gl8 by32 ty) 32 0) leafE = some tGp) : GpC P f ty := fun w x pe g hg hx hge hps hpb => by
  have hxb : x.block < w.heap.size := cell_block (l := ((List.range' 1 31).map fun j => .int .u8 ((g j).val : Nat))) (v := .int .u8 ((g 0).val : Nat)) hx
  have hgb : (0 : Nat) < w.heap.size := cell_block hge
  let ext : Nat → Addr := fun j => if j = 1 then x else if j = 6 then pe else if j = 7 then ⟨0, 0, none⟩ else ⟨x.block, 0, none⟩
  exact sl_of hm hnum hq hp (exts := [[], [], [], [], [], [.iface ty (.ptr ⟨.ext 6, 0⟩)]]) h (by decide +kernel) hg ext hx rfl
    (fun j c hj => by
      match j, hj with
      | 0, hj => cases hj; exact ⟨hxb, ⟨rfl, fun i v hi => by simp at hi⟩, fun a ha => by cases ha⟩
      | 1, hj => cases hj; exact ⟨hxb, ⟨rfl, fun i v hi => by simp at hi⟩, fun a ha => by cases ha⟩
      | 2, hj => cases hj; exact ⟨hxb, ⟨rfl, fun i v hi => by simp at hi⟩, fun a ha => by cases ha⟩
      | 3, hj => cases hj; exact ⟨hxb, ⟨rfl, fun i v hi => by simp at hi⟩, fun a ha => by cases ha⟩
      | 4, hj => cases hj; exact ⟨hpb, ⟨hps, fun i v hi => by simp at hi⟩, fun a ha => by cases ha⟩
      | 5, hj =>
        cases hj
        refine ⟨hgb, ?_, fun a ha e' hae => ?_⟩
        · have : ([Atom.iface ty (.ptr ⟨.ext 6, 0⟩)].map (Atom.den (fun _ => 0) (byEnv g ext))) = [.iface ty (.pointer (some pe))] := by
            show [Value.iface ty (.pointer (some ⟨pe.block, pe.off + 0, none⟩))] = _
            obtain ⟨b, o, s⟩ := pe
            simp only at hps
            subst hps
            rfl
          rw [this]
          exact hge
        · cases List.mem_singleton.1 ha
          refine ⟨trivial, ?_⟩
          have hx1 : e'.ext = ext := hae.ext
          simp only [Atom.den, SA.den, hx1]
          rfl
      | j + 6, hj => simp at hj)
    (fun k c hk => by
      match k, hk with
      | 0, hk => rfl
      | k + 1, hk => simp at hk)
    fun e hb => gp_goal hb
theorem sp_of (h : sxCall P qf pf 5000 f [sl32] (hp0 [[], by32] 32 0) leafE = some tSp) : SpC P f := fun w x g hg hx => by
  let ext : Nat → Addr := fun j => if j = 1 then x else ⟨x.block, 0, none⟩
  exact sl_of hm hnum hq hp (exts := []) h (by decide +kernel) hg ext hx rfl (fun j c hj => by simp at hj) (fun k c hk => by simp at hk) fun e hb => sp_goal hb
end
/-! ### Their tables -/
def byI : List Atom → Option (List IE)
  | [] => some []
  | .int .u8 x :: l => (byI l).map (x :: ·)
  | _ => none
theorem byI_spec : ∀ {l : List Atom} {xs : List IE}, byI l = some xs → l = xs.map (Atom.int .u8)
  | [], xs, h => by cases h; rfl
  | .int .u8 x :: l, xs, h => by
    unfold byI at h
    obtain ⟨ys, hy, rfl⟩ := Option.map_eq_some_iff.1 h
    rw [byI_spec hy]
    rfl
  | .int .i8 _ :: _, _, h => by cases h
  | .int .i16 _ :: _, _, h => by cases h
  | .int .i32 _ :: _, _, h => by cases h
  | .int .i64 _ :: _, _, h => by cases h
  | .int .u16 _ :: _, _, h => by cases h
  | .int .u32 _ :: _, _, h => by cases h
  | .int .u64 _ :: _, _, h => by cases h
  | .bool _ :: _, _, h => by cases h
  | .ptr _ :: _, _, h => by cases h
  | .slice _ _ _ :: _, _, h => by cases h
  | .slc _ _ _ _ :: _, _, h => by cases h
  | .lit _ :: _, _, h => by cases h
  | .iface _ _ :: _, _, h => by cases h
def by1 (x : IE) : FD := .w x (.c 0) (.c 0) (.c 0)
def glOk (h : Hp) (ty : TypeId) : Bool := match (h.ext[6]? : Option (List Atom)), (h.ext[7]? : Option (List Atom)) with
  | some [], some [Atom.iface t (Atom.ptr ⟨Root.ext 6, 0⟩)] => decide (t = ty)
  | _, _ => false
def bIs (n : Nat) : List Nat := (List.range 32).map (n + ·)
def gpF (fn : FuncId) (ty : TypeId) : QSum := fun f args h =>
  bif Nat.beq f fn then match args with
    | [.one (.at (.slice x 32 32))] => match rd h x 32 with
      | some l => match byI l with
        | some xs => bif glOk h ty then
            some (newEls h.nf (xs.map by1 ++ [.fn 16 (bIs h.nf), .fn 17 (bIs h.nf), .fn 18 (bIs h.nf)]), .tup [.agg (eps (h.nf + 32) ++ eps (h.nf + 33)), .at (.int .i64 (.ep (h.nf + 34) 0)), .at (.bool (.fn 6 (bIs h.nf)))], { h with nf := h.nf + 35 })
          else none
        | none => none
      | none => none
    | _ => none
  else none
def spF (fn : FuncId) : QSum := fun f args h =>
  bif Nat.beq f fn then match args with
    | [.one (.at (.slice x 32 32))] => match rd h x 32 with
      | some l => match byI l with
        | some xs => some (newEls h.nf (xs.map by1 ++ [.fn 19 (bIs h.nf), .fn 20 (bIs h.nf)]), .tup [.agg (eps (h.nf + 32) ++ eps (h.nf + 33)), .at (.bool (.fn 7 (bIs h.nf)))], { h with nf := h.nf + 34 })
        | none => none
      | none => none
    | _ => none
  else none
/-- What a slice's 32 bytes are, as elements. -/
theorem rdBy {w0 : World} {e : Env} {β : Nat → Nat} {h : Hp} {w : World} (hr : HRel w0 e β h w) {x : SA} {l : List Atom} {xs : List IE} {ds : List FD} (hl : rd h x 32 = some l) (hx : byI l = some xs) (hd : ∀ d ∈ newEls h.nf (xs.map by1 ++ ds), d.holds e) :
    (∀ j, j < 32 → (e.f (h.nf + j)).val < 256) ∧ CellsAt w (x.den β e) (byV fun j => e.f (h.nf + j)) ∧ (bIs h.nf).map e.f = bL (fun j => e.f (h.nf + j)) ∧ ∀ (j : Nat) (d : FD), ds[j]? = some d → e.f (h.nf + 32 + j) = d.ev e := by
  obtain ⟨r1, r2, r3⟩ := rd_sound hr hl
  have hxl := byI_spec hx
  have hlen : xs.length = 32 := by rw [← r1, hxl, List.length_map]
  have hval : ∀ j (hj : j < 32), ∃ y : IE, xs[j]? = some y ∧ y.den e = ((e.f (h.nf + j)).val : Nat) ∧ (e.f (h.nf + j)).val < 256 := fun j hj => by
    have hy : xs[j]? = some (xs[j]'(by omega)) := List.getElem?_eq_getElem (by omega)
    generalize xs[j]'(by omega) = y at hy
    have h1 := newEls_holds hd j (by1 y) (by rw [List.getElem?_append_left (by rw [List.length_map]; omega), List.getElem?_map, hy]; rfl)
    have hin : inR .u8 (y.den e) := r2 (.int .u8 y) (by rw [hxl]; exact List.mem_map.2 ⟨y, List.mem_of_getElem? hy, rfl⟩)
    simp only [inR, IntKind.min, IntKind.max, IntKind.bits, IntKind.signed] at hin
    simp at hin
    have h1 : e.f (h.nf + j) = Fin.ofNat q (v4 (y.den e) 0 0 0).toNat := h1
    have h2 : (e.f (h.nf + j)).val = (y.den e).toNat := by
      rw [h1]
      show (v4 (y.den e) 0 0 0).toNat % q = _
      have : v4 (y.den e) 0 0 0 = y.den e := by unfold v4; omega
      rw [this]
      exact Nat.mod_eq_of_lt (by unfold q; omega)
    exact ⟨y, hy, by omega, by omega⟩
  refine ⟨fun j hj => (hval j hj).choose_spec.2.2, ?_, ?_, fun j d hj => ?_⟩
  · obtain ⟨r, o⟩ := x
    have had : ((⟨r, o⟩ : SA).den β e).spot = none := by cases r <;> rfl
    refine ⟨had, fun i v hi => ?_⟩
    have hi32 : i < 32 := by
      have := (List.getElem?_eq_some_iff.1 hi).1
      simpa [byV] using this
    obtain ⟨y, hy, hy1, _⟩ := hval i hi32
    have hv : v = .int .u8 (y.den e) := by
      rw [byV, List.getElem?_map, List.getElem?_range hi32] at hi
      cases hi
      rw [hy1]
    have := r3 i (.int .u8 y) (by rw [hxl, List.getElem?_map, hy]; rfl)
    have hadd : (⟨((⟨r, o⟩ : SA).den β e).block, ((⟨r, o⟩ : SA).den β e).off + i, none⟩ : Addr) = (⟨r, o + i⟩ : SA).den β e := by cases r <;> simp only [SA.den] <;> simp [Nat.add_assoc]
    rw [hadd, hv]
    exact this
  · rw [bIs, bL, List.map_map]
    rfl
  · have := newEls_holds hd (32 + j) d (by rw [List.getElem?_append_right (by rw [List.length_map]; omega), List.length_map, hlen, show 32 + j - 32 = j by omega]; exact hj)
    rw [← this]
    congr 1
    omega
theorem w18 (b : Bool) : ((w4 ((if b = true then (32 : Fq) else 0)).val 0 : Nat) : Int) = if b = true then 32 else 0 := by cases b <;> decide
theorem sl_den {β : Nat → Nat} {e : Env} (x : SA) : SV.den β e (.one (.at (.slice x 32 32))) = .slice (some (x.den β e)) 32 32 := rfl
theorem gpF_p {P : Program} {fn : FuncId} {ty : TypeId} (hc : GpC P fn ty) : POk P (gpF fn ty) := by
  intro f args h ds v h' hh
  unfold gpF at hh
  cases hb : Nat.beq f fn with
  | false => rw [hb] at hh; cases hh
  | true =>
    rw [hb] at hh
    have hf := Nat.eq_of_beq_eq_true hb
    subst hf
    simp only [cond_true] at hh
    split at hh
    · rename_i x
      split at hh
      · rename_i l hl
        split at hh
        · rename_i xs hx
          cases hg : glOk h ty with
          | false => rw [hg] at hh; cases hh
          | true =>
            rw [hg] at hh
            cases hh
            refine ⟨rfl, fun w0 e β w hr hok hds => ?_⟩
            obtain ⟨b1, b2, b3, b4⟩ := rdBy hr hl hx hds
            have d0 : e.f (h.nf + 32) = ((gP ((bIs h.nf).map e.f)).getD (0, 0)).1 := b4 0 _ rfl
            have d1 : e.f (h.nf + 33) = ((gP ((bIs h.nf).map e.f)).getD (0, 0)).2 := b4 1 _ rfl
            have d2 : e.f (h.nf + 34) = if (gP ((bIs h.nf).map e.f)).isSome then 32 else 0 := b4 2 _ rfl
            unfold glOk at hg
            split at hg
            · rename_i t h6 h7
              have ht := of_decide_eq_true hg
              subst ht
              have g7 : e.ext 7 = ⟨0, 0, none⟩ := hr.gl 0 _ h7
              have g6 := hr.extb 6 _ h6
              have gc := (hr.ext 7 _ h7 0 _ rfl).1
              rw [g7] at gc
              obtain ⟨k1, k2⟩ := hc w (x.den β e) ⟨(e.ext 6).block, (e.ext 6).off + 0, none⟩ (fun j => e.f (h.nf + j)) b1 b2
                ⟨rfl, fun i v hi => by
                  match i, hi with
                  | 0, hi => cases hi; exact gc
                  | i + 1, hi => simp at hi⟩ rfl (Nat.lt_of_lt_of_le g6 hr.size)
              have hv : (SV.tup [.agg (eps (h.nf + 32) ++ eps (h.nf + 33)), .at (.int .i64 (.ep (h.nf + 34) 0)), .at (.bool (.fn 6 (bIs h.nf)))]).den β e = gV (gP (bL fun j => e.f (h.nf + j))) := by
                show Value.tuple #[.agg (epV (e.f (h.nf + 32)) ++ epV (e.f (h.nf + 33))).toArray, .int .i64 (w4 (e.f (h.nf + 34)).val 0 : Nat), .bool (gP ((bIs h.nf).map e.f)).isSome] = _
                rw [d0, d1, d2, b3, w18]
                rfl
              have hsz : ∀ w', Grow w w' → HRel w0 e β { h with nf := h.nf + 35 } w' := fun w' hgr => (hr.grow hgr).same (SameMem.nf _ _)
              refine ⟨fun y hy => ?_, k1, k2.mono fun en w' ⟨h1, h2⟩ => ⟨by rw [h1, hv], hsz w' h2, h2.size⟩⟩
              simp only [List.mem_cons, List.not_mem_nil, or_false] at hy
              rcases hy with rfl | rfl | rfl
              · intro a ha
                rcases List.mem_append.1 ha with h | h
                · exact eps_ok _ _ _ a h
                · exact eps_ok _ _ _ a h
              · show inR .i64 (w4 (e.f (h.nf + 34)).val 0 : Nat)
                rw [d2, w18]
                generalize (gP ((bIs h.nf).map e.f)).isSome = b
                cases b
                · show (IntKind.i64.min ≤ 0 ∧ (0 : Int) ≤ IntKind.i64.max)
                  decide
                · show (IntKind.i64.min ≤ 32 ∧ (32 : Int) ≤ IntKind.i64.max)
                  decide
              · trivial
            · cases hg
        · cases hh
      · cases hh
    · cases hh
theorem spF_p {P : Program} {fn : FuncId} (hc : SpC P fn) : POk P (spF fn) := by
  intro f args h ds v h' hh
  unfold spF at hh
  cases hb : Nat.beq f fn with
  | false => rw [hb] at hh; cases hh
  | true =>
    rw [hb] at hh
    have hf := Nat.eq_of_beq_eq_true hb
    subst hf
    simp only [cond_true] at hh
    split at hh
    · rename_i x
      split at hh
      · rename_i l hl
        split at hh
        · rename_i xs hx
          cases hh
          refine ⟨rfl, fun w0 e β w hr hok hds => ?_⟩
          obtain ⟨b1, b2, b3, b4⟩ := rdBy hr hl hx hds
          have d0 : e.f (h.nf + 32) = ((sP ((bIs h.nf).map e.f)).getD (0, 0)).1 := b4 0 _ rfl
          have d1 : e.f (h.nf + 33) = ((sP ((bIs h.nf).map e.f)).getD (0, 0)).2 := b4 1 _ rfl
          obtain ⟨k1, k2⟩ := hc w (x.den β e) (fun j => e.f (h.nf + j)) b1 b2
          have hv : (SV.tup [.agg (eps (h.nf + 32) ++ eps (h.nf + 33)), .at (.bool (.fn 7 (bIs h.nf)))]).den β e = sV (sP (bL fun j => e.f (h.nf + j))) := by
            show Value.tuple #[.agg (epV (e.f (h.nf + 32)) ++ epV (e.f (h.nf + 33))).toArray, .bool (sP ((bIs h.nf).map e.f)).isSome] = _
            rw [d0, d1, b3]
            rfl
          have hsz : ∀ w', Grow w w' → HRel w0 e β { h with nf := h.nf + 34 } w' := fun w' hgr => (hr.grow hgr).same (SameMem.nf _ _)
          refine ⟨fun y hy => ?_, k1, k2.mono fun en w' ⟨h1, h2⟩ => ⟨by rw [h1, hv], hsz w' h2, h2.size⟩⟩
          simp only [List.mem_cons, List.not_mem_nil, or_false] at hy
          rcases hy with rfl | rfl
          · intro a ha
            rcases List.mem_append.1 ha with h | h
            · exact eps_ok _ _ _ a h
            · exact eps_ok _ _ _ a h
          · trivial
        · cases hh
      · cases hh
    · cases hh
end Go.Sx
namespace Go.Sx
open Go
set_option maxRecDepth 100000
/-! ### A function that hands back fixed words -/
def cvL (l : List Int) : List Atom := l.map fun n => .int .u64 (.c n)
def CvC (P : Program) (f : FuncId) (l : List Int) : Prop := ∀ w, QuietRun P (callFunc f #[]) (.agg (l.map (Value.int .u64)).toArray) w
def cvF (fn : FuncId) (l : List Int) : QSum := fun f args h =>
  bif Nat.beq f fn && l.all (fun n => decide (0 ≤ n) && decide (n < 18446744073709551616)) then match args with
    | [] => some ([], .one (.agg (cvL l)), h)
    | _ => none
  else none
theorem cvL_den {β : Nat → Nat} {e : Env} (l : List Int) : (SV.one (.agg (cvL l))).den β e = .agg (l.map (Value.int .u64)).toArray := by
  show Value.agg ((cvL l).map (Atom.den β e)).toArray = _
  rw [cvL, List.map_map]
  rfl
theorem cv_of {P : Program} {qf pf : QSum} (hm : P.follows .mixedOrders = true) (hnum : NumOk P) (hq : QOk P qf) (hp : POk P pf) {f : FuncId} {l : List Int}
    (h : sxCall P qf pf 5000 f [] (hp0 [] 0 0) leafE = some (.leaf (.one (.agg (cvL l)), []))) : CvC P f l := fun w =>
  quiet_els hm hnum hq hp h rfl rfl rfl (fun _ => 0) (u := .agg (l.map (Value.int .u64)).toArray) (fun e _ => ⟨fun β => cvL_den l, rfl⟩) (vs := []) rfl w
theorem cvF_q {P : Program} {fn : FuncId} {l : List Int} (hc : CvC P fn l) : QOk P (cvF fn l) := by
  intro f args h ds v h' hh
  unfold cvF at hh
  cases hb : (Nat.beq f fn && l.all (fun n => decide (0 ≤ n) && decide (n < 18446744073709551616))) with
  | false => rw [hb] at hh; cases hh
  | true =>
    rw [hb] at hh
    rw [Bool.and_eq_true] at hb
    have hf := Nat.eq_of_beq_eq_true hb.1
    subst hf
    simp only [cond_true] at hh
    split at hh
    · cases hh
      refine ⟨SameMem.refl _, fun e β _ _ _ => ⟨fun a ha => ?_, fun w0 w _ => ?_⟩⟩
      · obtain ⟨n, hn, rfl⟩ := List.mem_map.1 ha
        have := List.all_eq_true.1 hb.2 n hn
        simp only [Bool.and_eq_true, decide_eq_true_eq] at this
        exact wd_inR this
      · rw [cvL_den]
        exact hc w
    · cases hh
end Go.Sx
namespace Go.Sx
open Go
set_option maxRecDepth 100000
/-! ### The law of 32 bytes: its tree -/
def dnsT (ds : List Dn) (t : Tree Lf) : Tree Lf := ds.foldr Tree.dn t
theorem dnsT_goal {e : Env} {Φ : Lf → Prop} {t : Tree Lf} : ∀ {ds : List Dn}, ((∀ d ∈ ds, d.holds e) → t.goal e Φ) → (dnsT ds t).goal e Φ
  | [], h => h (by simp)
  | d :: ds, h => fun hd => dnsT_goal (ds := ds) fun hds => h (by
      intro x hx
      rcases List.mem_cons.1 hx with hx | hx
      · subst hx; exact hd
      · exact hds x hx)
def lfY : Tree Lf := .leaf (.one (.at (.bool (.c true))), [])
def vB : List FD := (List.range 32).map fun j => by1 (.v j)
def cB (b : Int) : List FD := by1 (.c b) :: (List.replicate 30 (by1 (.c 0)) ++ [by1 (.c 1)])
def tEndP : Tree Lf := .br (.fn 6 (bIs 0)) (.br (.fn 7 (bIs 35)) (.br (.fe 32 67) (.br (.fe 33 68) (.leaf (.one (.at (.bool (.eq (.ep 34 0) (.c 32)))), [])) lfN) lfN) lfN) (.br (.fn 7 (bIs 35)) lfN lfY)
def eqs : List (Nat × Nat × Int) → Tree Lf → Tree Lf
  | [], t => t
  | (k, j, c) :: l, t => .br (.eq (.ep k j) (.c c)) (eqs l t) lfN
def tCst (b : Int) : Tree Lf := dnsT (newEls 70 (cB b ++ [.fn 16 (bIs 70), .fn 17 (bIs 70), .fn 18 (bIs 70)])) (.br (.fn 6 (bIs 70)) (eqs [(102, 0, 1), (102, 1, 0), (102, 2, 0), (102, 3, 0), (103, 0, 2), (103, 1, 0), (103, 2, 0), (103, 3, 0)] tEndP) lfN)
def tLawP : Tree Lf := .br (.lt (.v 0) (.c 128)) lfY (dnsT (newEls 0 (vB ++ [.fn 16 (bIs 0), .fn 17 (bIs 0), .fn 18 (bIs 0)])) (dnsT (newEls 35 (vB ++ [.fn 19 (bIs 35), .fn 20 (bIs 35)])) (.dn (.f 69 (.k 2)) (.br (.fn 0 [69]) (tCst 192) (tCst 128)))))
abbrev OkT (e : Env) (l : Lf) : Prop := (∀ β, l.1.den β e = .bool true) ∧ l.2 = []
theorem lfY_goal {e : Env} : lfY.goal e (OkT e) := ⟨fun _ => rfl, rfl⟩
theorem eqs_goal {e : Env} {t : Tree Lf} : ∀ {l : List (Nat × Nat × Int)}, (∀ x ∈ l, ((w4 (e.f x.1).val x.2.1 : Nat) : Int) = x.2.2) → t.goal e (OkT e) → (eqs l t).goal e (OkT e)
  | [], _, ht => ht
  | (k, j, c) :: l, h, ht => ⟨fun _ => eqs_goal (l := l) (fun x hx => h x (by simp [hx])) ht, fun hc => by
      have h1 : ((w4 (e.f k).val j : Nat) : Int) = c := h (k, j, c) (by simp)
      have hc : (((w4 (e.f k).val j : Nat) : Int) == c) = false := hc
      rw [h1] at hc
      simp at hc⟩
/-- The bytes of the group's generator, with their mark. -/
def genB : List Fq := 128 :: (List.replicate 30 0 ++ [1])
theorem gen_gP : gP genB = some (1, 2) := by decide +kernel
theorem by_ev {e : Env} {n : Nat} {l ds : List FD} {is : List Fq} (hl : l.map (FD.ev e) = is) (h : ∀ d ∈ newEls n (l ++ ds), d.holds e) (h32 : l.length = 32) :
    (bIs n).map e.f = is ∧ ∀ (j : Nat) (d : FD), ds[j]? = some d → e.f (n + 32 + j) = d.ev e := by
  refine ⟨?_, fun j d hj => ?_⟩
  · rw [← hl]
    refine List.ext_getElem? fun i => ?_
    rw [bIs, List.map_map, List.getElem?_map, List.getElem?_map]
    rcases Nat.lt_or_ge i 32 with hi | hi
    · rw [List.getElem?_range hi, List.getElem?_eq_getElem (by omega : i < l.length)]
      have := newEls_holds h i l[i] (by rw [List.getElem?_append_left (by omega), List.getElem?_eq_getElem (by omega : i < l.length)])
      show some (e.f (n + i)) = some _
      rw [this]
    · rw [List.getElem?_eq_none (l := List.range 32) (by rw [List.length_range]; exact hi), List.getElem?_eq_none (l := l) (by omega)]
      rfl
  · have := newEls_holds h (32 + j) d (by rw [List.getElem?_append_right (by omega), h32, show 32 + j - 32 = j by omega]; exact hj)
    rw [← this]
    congr 1
    omega
theorem vB_ev {e : Env} {g : Nat → Fq} (hb : Bys e g) : vB.map (FD.ev e) = bL g := by
  rw [vB, bL, List.map_map]
  refine List.map_congr_left fun j hj => ?_
  obtain ⟨h1, h2⟩ := hb j (List.mem_range.1 hj)
  show Fin.ofNat q (v4 (e.i j) 0 0 0).toNat = g j
  rw [h1]
  have : v4 ((g j).val : Nat) 0 0 0 = ((g j).val : Nat) := by unfold v4; omega
  rw [this, Int.toNat_natCast]
  exact Fin.ext (Nat.mod_eq_of_lt (g j).isLt)
theorem cB_ev {e : Env} : (cB 128).map (FD.ev e) = genB := rfl
theorem lawP_goal {e : Env} {g : Nat → Fq} (hb : Bys e g) : tLawP.goal e (OkT e) := by
  refine ⟨fun _ => lfY_goal, fun c => dnsT_goal fun h1 => dnsT_goal fun h2 => fun d69 => ⟨fun c2 => ?_, fun _ => dnsT_goal fun h3 => ?_⟩⟩
  · have d69 : e.f 69 = 2 := d69
    have c2 : decide (q < 2 * (e.f 69).val) = true := c2
    rw [d69] at c2
    exact absurd (of_decide_eq_true c2) (by decide)
  have hb0 := hb 0 (by omega)
  have c : decide (e.i 0 < 128) = false := c
  have c := of_decide_eq_false c
  obtain ⟨a1, a2⟩ := by_ev (vB_ev hb) h1 rfl
  obtain ⟨b1, b2⟩ := by_ev (vB_ev hb) h2 rfl
  obtain ⟨c1, c2⟩ := by_ev (cB_ev (e := e)) h3 rfl
  have hgs : gP (bL g) = sP (bL g) := by rw [bL_eq, gP, if_neg (by omega), if_neg (by omega)]
  have f32 : e.f 32 = ((gP ((bIs 0).map e.f)).getD (0, 0)).1 := a2 0 _ rfl
  have f33 : e.f 33 = ((gP ((bIs 0).map e.f)).getD (0, 0)).2 := a2 1 _ rfl
  have f34 : e.f 34 = if (gP ((bIs 0).map e.f)).isSome then 32 else 0 := a2 2 _ rfl
  have f67 : e.f 67 = ((sP ((bIs 35).map e.f)).getD (0, 0)).1 := b2 0 _ rfl
  have f68 : e.f 68 = ((sP ((bIs 35).map e.f)).getD (0, 0)).2 := b2 1 _ rfl
  have f102 : e.f 102 = ((gP ((bIs 70).map e.f)).getD (0, 0)).1 := c2 0 _ rfl
  have f103 : e.f 103 = ((gP ((bIs 70).map e.f)).getD (0, 0)).2 := c2 1 _ rfl
  rw [a1, hgs] at f32 f33 f34
  rw [b1] at f67 f68
  rw [c1, gen_gP] at f102 f103
  have f102 : e.f 102 = 1 := f102
  have f103 : e.f 103 = 2 := f103
  refine ⟨fun _ => eqs_goal (fun x hx => ?_) ?_, fun h => ?_⟩
  · simp only [List.mem_cons, List.not_mem_nil, or_false] at hx
    rcases hx with rfl | rfl | rfl | rfl | rfl | rfl | rfl | rfl
    · show ((w4 (e.f 102).val 0 : Nat) : Int) = 1
      rw [f102]; decide
    · show ((w4 (e.f 102).val 1 : Nat) : Int) = 0
      rw [f102]; decide
    · show ((w4 (e.f 102).val 2 : Nat) : Int) = 0
      rw [f102]; decide
    · show ((w4 (e.f 102).val 3 : Nat) : Int) = 0
      rw [f102]; decide
    · show ((w4 (e.f 103).val 0 : Nat) : Int) = 2
      rw [f103]; decide
    · show ((w4 (e.f 103).val 1 : Nat) : Int) = 0
      rw [f103]; decide
    · show ((w4 (e.f 103).val 2 : Nat) : Int) = 0
      rw [f103]; decide
    · show ((w4 (e.f 103).val 3 : Nat) : Int) = 0
      rw [f103]; decide
  · have n6 : (BE.fn 6 (bIs 0)).den e = (sP (bL g)).isSome := by
      show (gP ((bIs 0).map e.f)).isSome = _
      rw [a1, hgs]
    have n7 : (BE.fn 7 (bIs 35)).den e = (sP (bL g)).isSome := by
      show (sP ((bIs 35).map e.f)).isSome = _
      rw [b1]
    refine ⟨fun x => ⟨fun _ => ⟨fun _ => ⟨fun _ => ⟨fun β => ?_, rfl⟩, fun y => ?_⟩, fun y => ?_⟩, fun y => ?_⟩, fun x => ⟨fun y => ?_, fun _ => lfY_goal⟩⟩
    · rw [n6] at x
      rw [if_pos x] at f34
      show Value.bool (((w4 (e.f 34).val 0 : Nat) : Int) == 32) = _
      rw [f34]
      congr 1
    · exact absurd (by rw [f33, f68]) (fe_f y)
    · exact absurd (by rw [f32, f67]) (fe_f y)
    · rw [n6] at x; rw [n7, x] at y; cases y
    · rw [n6] at x; rw [n7, x] at y; cases y
  · have h : (gP ((bIs 70).map e.f)).isSome = false := h
    rw [c1, gen_gP] at h
    cases h
end Go.Sx
