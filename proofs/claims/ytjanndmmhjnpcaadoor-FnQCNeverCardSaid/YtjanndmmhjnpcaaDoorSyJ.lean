/- The symbolic machine: configurations, their meaning, steps, runs, and that a run's leaves suffice. -/
import Derived.Test.YtjanndmmhjnpcaaDoorSyZ
import Derived.Test.YtjanndmmhjnpcaaDoorSyW
set_option autoImplicit true
set_option relaxedAutoImplicit true
set_option linter.unusedVariables false
set_option linter.unusedSimpArgs false
namespace Go.Sy
open Go
variable {E : Env} {β : Nat → Bk} {p : Prm} {w : World} {Q : Exit → Act → World → Prop}
inductive SX where
  | normal
  | ex (id : Nat)
  | ret
def SX.den : SX → Exit
  | .normal => .normal
  | .ex id => .exit id
  | .ret => .ret
structure Rest where
  q : List (Nat × Oper)
  k : Nat := 0
  dn : List Nat := []
  M : List Nat := []
inductive KF where
  | seq (c : Code)
  | blk (id : Nat)
  | loop (c : Code)
  | ret (f : FuncId) (dst : Option Tmp) (tmps : Tm) (ds : List SD) (all : Array Oper) (rest : Rest) (fid : FuncId)
inductive Fo where
  | code (c : Code)
  | ops (all : Array Oper) (rest : Rest)
  | exit (e : SX)
structure Cf where
  tmps : Tm
  ds : List SD
  heap : List SBlk
  facts : Fx
  fo : Fo
  k : List KF
  fid : FuncId
  nv : Nat := 1000
def LoopC (P : Program) (c : Code) (Q : Exit → Act → World → Prop) (a : Act) (w : World) : Prop :=
  ∀ (b : Frame) (k : List Item) (cs : List Frame), ∃ e a' w', Q e a' w' ∧ Arrives P (lone (b.at a (.inLoop c :: k)) cs w) b k cs e a' w'
theorem round_of {P : Program} {c : Code} {a : Act} {w : World} (h : c.wp P (Exit.then (LoopC P c Q) Q) a w) (b : Frame) (k : List Item) (cs : List Frame) :
    ∃ e a' w', Q e a' w' ∧ Arrives P (lone (b.at a (.code c :: .inLoop c :: k)) cs w) b k cs e a' w' := by
  obtain ⟨e, a₁, w₁, hq, harr⟩ := h b (.inLoop c :: k) cs
  cases e with
  | normal =>
    obtain ⟨e₂, a₂, w₂, hq₂, harr₂⟩ := hq b k cs
    exact ⟨e₂, a₂, w₂, hq₂, .of_steps harr harr₂⟩
  | exit id => exact ⟨_, a₁, w₁, hq, .pass (x := .inLoop c) rfl (fun _ _ => .inl (by simp)) harr⟩
  | goto l => exact ⟨_, a₁, w₁, hq, .pass (x := .inLoop c) rfl (fun _ _ => .inl (by simp)) harr⟩
  | ret => exact ⟨_, a₁, w₁, hq, .pass (x := .inLoop c) rfl (fun _ _ => .inl (by simp)) harr⟩
  | panic ch => exact ⟨_, a₁, w₁, hq, .pass (x := .inLoop c) rfl (fun _ _ => .inl (by simp)) harr⟩
  | outgrown => exact ⟨_, a₁, w₁, hq, .pass (x := .inLoop c) rfl (fun _ _ => .inl (by simp)) harr⟩
theorem loop_of {P : Program} {c : Code} {a : Act} {w : World} (h : c.wp P (Exit.then (LoopC P c Q) Q) a w) : (Code.loop c).wp P Q a w := fun b k cs =>
  let ⟨e, a', w', hq, harr⟩ := round_of h b k cs
  ⟨e, a', w', hq, .of_steps (.one step_loop) harr⟩
theorem loopC_of {P : Program} {c : Code} {a : Act} {w : World} (h : c.wp P (Exit.then (LoopC P c Q) Q) a w) : LoopC P c Q a w := fun b k cs =>
  let ⟨e, a', w', hq, harr⟩ := round_of h b k cs
  ⟨e, a', w', hq, .of_steps (.one step_inLoop) harr⟩
def actS (E : Env) (β : Nat → Bk) (tmps : Tm) (ds : List SD) : Act := actD E β tmps (ds.map (SD.den E β))
def wpR (P : Program) (all : Array Oper) (Q : Exit → Act → World → Prop) (r : Rest) (a : Act) (w : World) : Prop := wpQ P all (LetsOut Q) (wpA P all r.M Q r.k r.dn) r.q a w
def retR (P : Program) (Q : Exit → Act → World → Prop) (all : Array Oper) (rest : Rest) (dst : Option Tmp) (a : Act) (e : Ending) (w : World) : Prop :=
  match e with
  | .returned v => wpR P all Q rest (a.put dst v) w
  | .panicked _ => False
  | .outgrown => LetsOut Q
def kpost (E : Env) (β : Nat → Bk) (p : Prm) (Q : Exit → Act → World → Prop) : List KF → Exit → Act → World → Prop
  | [] => Q
  | .seq c :: k => Exit.then (c.wp p.P (kpost E β p Q k)) (kpost E β p Q k)
  | .blk id :: k => Exit.inBlock id (kpost E β p Q k)
  | .loop c :: k => Exit.then (LoopC p.P c (kpost E β p Q k)) (kpost E β p Q k)
  | .ret f dst tmps ds all rest _ :: k =>
    match p.P.funcs[f]? with
    | some fn => bodyPostD p.P fn (retR p.P (kpost E β p Q k) all rest dst (actS E β tmps ds))
    | none => fun _ _ _ => False
def Cf.wp (E : Env) (β : Nat → Bk) (p : Prm) (Q : Exit → Act → World → Prop) (c : Cf) (w : World) : Prop :=
  match c.fo with
  | .code x => x.wp p.P (kpost E β p Q c.k) (actS E β c.tmps c.ds) w
  | .ops all rest => wpR p.P all (kpost E β p Q c.k) rest (actS E β c.tmps c.ds) w
  | .exit e => kpost E β p Q c.k e.den (actS E β c.tmps c.ds) w
def dsBnd (n : Nat) : List SD → Bool
  | [] => true
  | d :: r => d.bnd n && dsBnd n r
def KF.bnd (n : Nat) : KF → Bool
  | .ret _ _ tmps ds _ _ _ => tmps.bnd n && dsBnd n ds
  | _ => true
def kBnd (n : Nat) : List KF → Bool
  | [] => true
  | f :: r => f.bnd n && kBnd n r
theorem actS_agree {β β' : Nat → Bk} {n : Nat} (h : ∀ i, i < n → β' i = β i) {tmps : Tm} {ds : List SD} (ht : tmps.bnd n = true) (hd : dsBnd n ds = true) : actS E β' tmps ds = actS E β tmps ds := by
  unfold actS actD
  rw [Tm.den_agree h ht]
  have : ds.map (SD.den E β') = ds.map (SD.den E β) := by
    induction ds with
    | nil => rfl
    | cons d r ih =>
      simp only [dsBnd, Bool.and_eq_true] at hd
      simp only [List.map_cons, SD.agree h d hd.1, ih hd.2]
  rw [this]
theorem kpost_agree {β β' : Nat → Bk} {n : Nat} (h : ∀ i, i < n → β' i = β i) : ∀ {k : List KF}, kBnd n k = true → kpost E β' p Q k = kpost E β p Q k
  | [], _ => rfl
  | .seq c :: k, hk => by simp only [kBnd, Bool.and_eq_true] at hk; simp only [kpost, kpost_agree h hk.2]
  | .blk id :: k, hk => by simp only [kBnd, Bool.and_eq_true] at hk; simp only [kpost, kpost_agree h hk.2]
  | .loop c :: k, hk => by simp only [kBnd, Bool.and_eq_true] at hk; simp only [kpost, kpost_agree h hk.2]
  | .ret f dst tmps ds all rest fid :: k, hk => by
    simp only [kBnd, KF.bnd, Bool.and_eq_true] at hk
    simp only [kpost, kpost_agree h hk.2, actS_agree h hk.1.1 hk.1.2]
def SD.vb (n : Nat) (d : SD) : Bool := SV.vbL n d.cap && SV.vbL n d.args
def dsVb (n : Nat) : List SD → Bool
  | [] => true
  | d :: r => d.vb n && dsVb n r
def KF.vb (n : Nat) : KF → Bool
  | .ret _ _ tmps ds _ _ _ => tmps.vb n && dsVb n ds
  | _ => true
def kVb (n : Nat) : List KF → Bool
  | [] => true
  | f :: r => f.vb n && kVb n r
theorem actS_ag {E' : Env} {n : Nat} (H : AgE n E E') {tmps : Tm} {ds : List SD} (ht : tmps.vb n = true) (hd : dsVb n ds = true) : actS E' β tmps ds = actS E β tmps ds := by
  unfold actS actD
  rw [Tm.den_ag H ht]
  have : ds.map (SD.den E' β) = ds.map (SD.den E β) := by
    induction ds with
    | nil => rfl
    | cons d r ih =>
      simp only [dsVb, SD.vb, Bool.and_eq_true] at hd
      simp only [List.map_cons, SD.den, SV.denL_ag H β _ hd.1.1, SV.denL_ag H β _ hd.1.2, ih hd.2]
  rw [this]
theorem kpost_ag {E' : Env} {n : Nat} (H : AgE n E E') : ∀ {k : List KF}, kVb n k = true → kpost E' β p Q k = kpost E β p Q k
  | [], _ => rfl
  | .seq c :: k, hk => by simp only [kVb, Bool.and_eq_true] at hk; simp only [kpost, kpost_ag H hk.2]
  | .blk id :: k, hk => by simp only [kVb, Bool.and_eq_true] at hk; simp only [kpost, kpost_ag H hk.2]
  | .loop c :: k, hk => by simp only [kVb, Bool.and_eq_true] at hk; simp only [kpost, kpost_ag H hk.2]
  | .ret f dst tmps ds all rest fid :: k, hk => by
    simp only [kVb, KF.vb, Bool.and_eq_true] at hk
    simp only [kpost, kpost_ag H hk.2, actS_ag H hk.1.1 hk.1.2]
inductive Stp where
  | next (c : Cf)
  | fork (b : SB)
  | alts (l : List Fo)
  | dead
  | stop
def putS (tmps : Tm) (dst : Option Tmp) (v : SV) : Tm :=
  match dst with
  | some d => tmps.put d v
  | none => tmps
theorem putS_ok (tmps : Tm) (ds : List SD) (dst : Option Tmp) (v : SV) : actS E β (putS tmps dst v) ds = (actS E β tmps ds).put dst (v.den E β) := by
  cases dst with
  | none => rfl
  | some d => simp [actS, actD, putS, Act.put, Tm.den_put]
inductive GR where
  | run
  | skip
  | fork (b : SB)
  | no
def guardS (F : Fx) (all : Array Oper) (tmps : Tm) (g : Option (Nat × Bool)) : GR :=
  match g with
  | none => .run
  | some (j, want) =>
    match (all[j]?).bind (·.dst) with
    | none => .skip
    | some d => match tmps.get? d with
      | none => .skip
      | some (.bool s) => match dec F s with
        | some b => if b = want then .run else .skip
        | none => .fork s
      | some (.opq _) => .no
      | some (.q _ _) => .no
      | some _ => .skip
theorem yielded_eq (all : Array Oper) (tmps : Tm) (ds : List SD) (j : Nat) : yielded all (actS E β tmps ds).tmps j =
    match ((all[j]?).bind (·.dst)).bind (tmps.get? ·) with
    | some v => match v.den E β with
      | .bool b => some b
      | _ => none
    | none => none := by
  unfold yielded actS actD
  simp only
  cases (all[j]?).bind (·.dst) with
  | none => rfl
  | some d =>
    simp only [Option.bind_some]
    rw [Tm.den_get?]
    cases tmps.get? d with
    | none => rfl
    | some v => simp only [Option.map_some]; cases v.den E β <;> rfl
theorem guardS_run {F : Fx} (hF : Facts E F) {all : Array Oper} {tmps : Tm} {ds : List SD} {o : Oper} (h : guardS F all tmps o.guard = .run) : Region.wanted o (yielded all (actS E β tmps ds).tmps) = true := by
  unfold guardS at h
  unfold Region.wanted
  split at h
  · rename_i hg; simp [hg]
  · rename_i j want hg
    simp only [hg]
    rw [yielded_eq]
    split at h
    · cases h
    · rename_i d hd
      simp only [hd, Option.bind_some]
      split at h
      · cases h
      · rename_i s hs
        simp only [hs, SV.den]
        split at h
        · rename_i b hb
          split at h
          · rename_i hbw; rw [dec_ok hF hb, hbw]; simp
          · cases h
        · cases h
      all_goals cases h
theorem guardS_skip {F : Fx} (hF : Facts E F) {all : Array Oper} {tmps : Tm} {ds : List SD} {o : Oper} (h : guardS F all tmps o.guard = .skip) : Region.wanted o (yielded all (actS E β tmps ds).tmps) = false := by
  unfold guardS at h
  unfold Region.wanted
  split at h
  · cases h
  · rename_i j want hg
    simp only [hg]
    rw [yielded_eq]
    split at h
    · rename_i hd; simp [hd]
    · rename_i d hd
      simp only [hd, Option.bind_some]
      split at h
      · rename_i hs; simp [hs]
      · rename_i s hs
        simp only [hs, SV.den]
        split at h
        · rename_i b hb
          split at h
          · cases h
          · rename_i hbw; rw [dec_ok hF hb]; simpa using hbw
        · cases h
      · cases h
      · cases h
      · rename_i v h1 h2 h3 hs
        simp only [hs]
        cases v <;> simp [SV.den] at h1 h2 h3 ⊢
        case own b => cases hz : (β b).z <;> simp [Bk.v, hz]
        case pa e o => by_cases h : 0 ≤ e.den E <;> simp [h]
        case sa e o l c => by_cases h : 0 ≤ e.den E <;> simp [h]
def firstRegion : Code → Option Nat
  | .region id _ _ => some id
  | .seq a b => match firstRegion a with
    | some i => some i
    | none => firstRegion b
  | .cond _ a b => match firstRegion a with
    | some i => some i
    | none => firstRegion b
  | .block _ b => firstRegion b
  | .loop b => firstRegion b
  | .scope b => firstRegion b
  | _ => none
def stopsAt (p : Prm) (f : FuncId) (b : Code) : Bool :=
  match firstRegion b with
  | some i => p.sl.contains (f, i)
  | none => true
def readOp (P : Program) (gm : Gm) (F : Fx) (h : List SBlk) (tmps : Tm) (op : Op) : RP :=
  match op with
  | .load T a => bind1 (ev gm tmps a) (sLoad P F h T)
  | op => match sOwn P gm F h tmps op with
    | .no => pureOp P gm F h tmps op
    | r => r
def xOk (c : Cf) (nx : Nat) (S : Sub) (pat : List SBlk) (a : Alt) : Bool :=
  Nat.beq nx 0 || (Nat.ble (xb + nx) c.nv && S.vb c.nv && c.heap.all (SBlk.vb c.nv) && pat.all (SBlk.vb xb) && a.post.all (SBlk.vb c.nv) && a.res.vb c.nv && a.xf.all (fun q => q.1.vb c.nv) && a.facts.all (fun q => q.1.vb xb) &&
    c.facts.all (fun q => q.1.vb c.nv) && c.tmps.vb c.nv && dsVb c.nv c.ds && kVb c.nv c.k)
def ctNext (p : Prm) (c : Cf) (ct : Ct) (S : Sub) (a : Alt) (dst : Option Tmp) (all : Array Oper) (rest : Rest) : Stp :=
  let S' := (S.news ct.heap.length c.heap.length (a.post.length - ct.heap.length)).fresh c.nv ct.nx
  if chkPost S S' c.heap ct.heap a.post && a.res.okS S' && c.heap.all (SBlk.bnd c.heap.length) && c.tmps.bnd c.heap.length && dsBnd c.heap.length c.ds && kBnd c.heap.length c.k && xOk c ct.nx S ct.heap a then
    .next { c with heap := newHeap S S' c.heap ct.heap a.post, tmps := putS c.tmps dst (a.res.inst S'), facts := factsI S' a.xf ++ (factsI S' a.facts ++ c.facts), fo := .ops all rest, nv := c.nv + ct.nx }
  else .stop
def ctStep (p : Prm) (c : Cf) (ct : Ct) (args : List SV) (dst : Option Tmp) (all : Array Oper) (rest : Rest) : Stp :=
  let S := mCall p.gm ct args c.heap
  if chkCall p.gm c.facts ct args c.heap S then
    match ctSel c.facts S ct.alts ct.pre with
    | .ok a => ctNext p c ct S a dst all rest
    | .fork b => .fork b
    | .dead => .dead
    | .no => .stop
  else .stop
def btStep (p : Prm) (c : Cf) (all : Array Oper) (o : Oper) (rest : Rest) : List Bt → Option Stp
  | [] => none
  | b :: r => match b.sel o.op with
    | some xs => match evL p.gm c.tmps xs with
      | some args =>
        let S := mCall p.gm b.ct args c.heap
        if chkCall p.gm c.facts b.ct args c.heap S then
          match ctSel c.facts S b.ct.alts b.ct.pre with
          | .ok a => some (ctNext p c b.ct S a o.dst all rest)
          | .fork b => some (.fork b)
          | .dead => some .dead
          | .no => btStep p c all o rest r
        else btStep p c all o rest r
      | none => btStep p c all o rest r
    | none => btStep p c all o rest r
def btRead (p : Prm) (F : Fx) (h : List SBlk) (t : Tm) (op : Op) : List Bt → RP
  | [] => .no
  | b :: r => if b.rd && Nat.beq b.ct.nx 0 then
      match b.sel op with
      | some xs => match evL p.gm t xs with
        | some args =>
          let S := mCall p.gm b.ct args h
          if chkCall p.gm F b.ct args h S then
            match ctSel F S b.ct.alts b.ct.pre with
            | .ok a => if a.res.okS S && a.res.bnd b.ct.heap.length then .val (a.res.inst S) else .no
            | .fork b => .fork b
            | .dead => .dead
            | .no => btRead p F h t op r
          else btRead p F h t op r
        | none => btRead p F h t op r
      | none => btRead p F h t op r
    else btRead p F h t op r
def hintGo (F : Fx) : Fx → Option Stp
  | [] => none
  | (b, t) :: r => match dec F b with
    | some u => if u = t then hintGo F r else some .dead
    | none => some (.fork b)
def hintOf (f id : Nat) : List (Nat × Nat × Fx) → Fx
  | [] => []
  | (g, i, F) :: r => if g = f ∧ i = id then F else hintOf f id r
def partGo (F : Fx) : List SB → Option Stp
  | [] => none
  | b :: r => match dec F b with
    | some _ => partGo F r
    | none => some (.fork b)
def partOf (f id : Nat) : List (Nat × Nat × List SB) → List SB
  | [] => []
  | (g, i, l) :: r => if g = f ∧ i = id then l else partOf f id r
def hintS (p : Prm) (c : Cf) (x : Code) : Option Stp :=
  match x with
  | .region id _ _ => match hintGo c.facts (hintOf c.fid id p.hint) with
    | some s => some s
    | none => partGo c.facts (partOf c.fid id p.part)
  | _ => none
def stepCode (p : Prm) (c : Cf) (x : Code) : Stp :=
  match x with
  | .skip => .next { c with fo := .exit .normal }
  | .seq a b => .next { c with fo := .code a, k := .seq b :: c.k }
  | .cond s a b => match ev p.gm c.tmps s with
    | some (.bool t) => match dec c.facts t with
      | some true => .next { c with fo := .code a }
      | some false => .next { c with fo := .code b }
      | none => .fork t
    | _ => .stop
  | .block id b => .next { c with fo := .code b, k := .blk id :: c.k }
  | .loop b => if stopsAt p c.fid b then .stop else .next { c with fo := .code b, k := .loop b :: c.k }
  | .exit id => .next { c with fo := .exit (.ex id) }
  | .ret => .next { c with fo := .exit .ret }
  | .region _ ops false => .next { c with fo := .ops ops { q := ops.toList.map fun o => (0, o) } }
  | .region _ ops true =>
    let M := allMasks ops
    if planOk ops M then .next { c with fo := .ops ops { q := itemsAt ops 1 (ableM ops M []), k := ops.size, dn := [], M := M } } else .stop
  | _ => .stop
def sAppA (P : Program) (gm : Gm) (F : Fx) (h : List SBlk) (tmps : Tm) (op : Op) : AR :=
  match sAppend P gm F h tmps op with
  | .no => sAppend2 P gm F h tmps op
  | r => r
def rowOf (p : Prm) (tmps : Tm) (op : Op) : Option (List SV × List SK × TypeId) :=
  match rowOp p.P p.gm tmps op with
  | some x => bif p.recs && x.2.1.contains .opq then none else some x
  | none => none
theorem rowOf_ok {p : Prm} {tmps : Tm} {op : Op} {x : List SV × List SK × TypeId} (h : rowOf p tmps op = some x) : rowOp p.P p.gm tmps op = some x := by
  unfold rowOf at h
  split at h
  · rename_i y hy
    cases hb : (p.recs && y.2.1.contains .opq) with
    | true => rw [hb] at h; cases h
    | false => rw [hb] at h; rw [hy]; exact h
  · cases h
def stepRest (p : Prm) (c : Cf) (all : Array Oper) (o : Oper) (rest : Rest) : Stp :=
  match o.op with
  | .store T a x => match ev p.gm c.tmps a, ev p.gm c.tmps x with
    | some a, some x => match sStore p.P c.heap T a x with
      | some h' => .next { c with heap := h', tmps := putS c.tmps o.dst (.tup []), fo := .ops all rest }
      | none => match sStore2 p.P c.facts c.heap T a x with
        | some h' => .next { c with heap := h', tmps := putS c.tmps o.dst (.tup []), fo := .ops all rest }
        | none => match sStore3 p.P c.facts c.heap T a x with
          | some h' => .next { c with heap := h', tmps := putS c.tmps o.dst (.tup []), fo := .ops all rest }
          | none => .stop
    | _, _ => .stop
  | .call cl => match sCall p c.tmps cl with
    | some (g, args) => if p.sc.contains g then .stop else match ctSelect (fun s => chkCall p.gm c.facts s args c.heap (mCall p.gm s args c.heap)) g p.ct with
      | some ct => ctStep p c ct args o.dst all rest
      | none => match p.P.funcs[g]? with
        | some fn => match fn.body with
          | some b => .next { c with tmps := Tm.entry args fn.ntmps, ds := [], fo := .code b, k := .ret g o.dst c.tmps c.ds all rest c.fid :: c.k, fid := g }
          | none => .stop
        | none => .stop
    | none => match sAppA p.P p.gm c.facts c.heap c.tmps (.call cl) with
      | .ok h' v => if c.tmps.bnd c.heap.length && dsBnd c.heap.length c.ds && kBnd c.heap.length c.k then
          .next { c with heap := h', tmps := putS c.tmps o.dst v, fo := .ops all rest }
        else .stop
      | .fork b => .fork b
      | .dead => .dead
      | .no => match sCopy p.P p.gm c.facts c.heap c.tmps (.call cl) with
        | .ok h' v => .next { c with heap := h', tmps := putS c.tmps o.dst v, fo := .ops all rest }
        | _ => .stop
  | .defer cl => match sDefer p c.tmps cl with
    | some d => .next { c with ds := d :: c.ds, tmps := putS c.tmps o.dst (.tup []), fo := .ops all rest }
    | none => .stop
  | .panic _ => .dead
  | op => match rowOf p c.tmps op with
    | some (l, ks, S) =>
      if c.heap.all (SBlk.bnd c.heap.length) && SV.bndL c.heap.length l && c.tmps.bnd c.heap.length && dsBnd c.heap.length c.ds && kBnd c.heap.length c.k then
        .next { c with heap := c.heap ++ [.row (.v 0) ks (.c 0) l S], tmps := putS c.tmps o.dst (.own c.heap.length), fo := .ops all rest }
      else .stop
    | none => match newOp p.P p.gm c.heap.length c.tmps op with
    | some (l, S, v) =>
      if c.heap.all (SBlk.bnd c.heap.length) && SV.bndL c.heap.length l && c.tmps.bnd c.heap.length && dsBnd c.heap.length c.ds && kBnd c.heap.length c.k then
        .next { c with heap := c.heap ++ [.cells l S], tmps := putS c.tmps o.dst v, fo := .ops all rest }
      else .stop
    | none => .stop
def stepOps (p : Prm) (c : Cf) (all : Array Oper) (o : Oper) (rest : Rest) : Stp :=
  match guardS c.facts all c.tmps o.guard with
  | .run => match readOp p.P p.gm c.facts c.heap c.tmps o.op with
    | .val v => .next { c with tmps := putS c.tmps o.dst v, fo := .ops all rest }
    | .fork b => .fork b
    | .dead => .dead
    | .no => match btStep p c all o rest p.bt with
      | some s => s
      | none => stepRest p c all o rest
  | .skip => .next { c with tmps := putS c.tmps o.dst (.tup []), fo := .ops all rest }
  | .fork b => .fork b
  | .no => .stop
def softV (p : Prm) (c : Cf) (all : Array Oper) (o : Oper) : RP :=
  match guardS c.facts all c.tmps o.guard with
  | .run => match readOp p.P p.gm c.facts c.heap c.tmps o.op with
    | .no => btRead p c.facts c.heap c.tmps o.op p.bt
    | r => r
  | .skip => .val (.tup [])
  | .fork b => .fork b
  | .no => .no
def sameS (tmps : Tm) (dst : Option Tmp) (v : SV) : Bool :=
  match dst with
  | none => true
  | some d => match tmps.get? d with
    | some u => SV.same v u
    | none => false
def stepSoft (p : Prm) (c : Cf) (all : Array Oper) (o : Oper) (rest : Rest) : Stp :=
  match softV p c all o with
  | .val v => .next { c with tmps := putS c.tmps o.dst v, fo := .ops all rest }
  | .fork b => .fork b
  | .dead => .dead
  | .no => .stop
def stepAgain (p : Prm) (c : Cf) (all : Array Oper) (o : Oper) (rest : Rest) : Stp :=
  match softV p c all o with
  | .val v => if sameS c.tmps o.dst v then .next { c with fo := .ops all rest } else .stop
  | .fork b => .fork b
  | .dead => .dead
  | .no => .stop
def hardS (all : Array Oper) (M : List Nat) (k : Nat) (dn : List Nat) (h : Nat) : Fo :=
  match all[h]? with
  | some o => .ops all { q := (0, o) :: behindM all M dn h, k := k, dn := h :: dn, M := M }
  | none => .exit .normal
def stepPlan (c : Cf) (all : Array Oper) (M : List Nat) (k : Nat) (dn : List Nat) : Stp :=
  match candsM all M dn with
  | [] => .next { c with fo := .exit .normal }
  | [h] => .next { c with fo := hardS all M k dn h }
  | l => .alts (l.map (hardS all M k dn))
def stepExit (p : Prm) (c : Cf) (e : SX) : Stp :=
  match c.k with
  | [] => .stop
  | .seq b :: k => match e with
    | .normal => .next { c with fo := .code b, k := k }
    | e => .next { c with fo := .exit e, k := k }
  | .blk id :: k => match e with
    | .ex j => if j = id then .next { c with fo := .exit .normal, k := k } else .next { c with fo := .exit (.ex j), k := k }
    | e => .next { c with fo := .exit e, k := k }
  | .loop b :: k => match e with
    | .normal => if stopsAt p c.fid b then .stop else .next { c with fo := .code b }
    | e => .next { c with fo := .exit e, k := k }
  | .ret f dst tmps ds all rest fid :: k => match e with
    | .ex _ => .stop
    | _ => if c.ds.all (SD.fine p) then
        match p.P.funcs[f]? with
        | some fn => match sRes p.P c.facts c.heap c.tmps fn.results.toList with
          | some v => .next { c with tmps := putS tmps dst v, ds := ds, fo := .ops all rest, k := k, fid := fid }
          | none => .stop
        | none => .stop
      else .stop
def step (p : Prm) (c : Cf) : Stp :=
  match c.fo with
  | .code x => match hintS p c x with
    | some s => s
    | none => stepCode p c x
  | .ops all ⟨[], 0, _, _⟩ => .next { c with fo := .exit .normal }
  | .ops all ⟨[], k + 1, dn, M⟩ => stepPlan c all M k dn
  | .ops all ⟨(0, o) :: q, k, dn, M⟩ => stepOps p c all o ⟨q, k, dn, M⟩
  | .ops all ⟨(1, o) :: q, k, dn, M⟩ => stepSoft p c all o ⟨q, k, dn, M⟩
  | .ops all ⟨(_ + 2, o) :: q, k, dn, M⟩ => stepAgain p c all o ⟨q, k, dn, M⟩
  | .exit e => stepExit p c e
def strip : SB → SB
  | .not x => x
  | b => b
def run (p : Prm) : Nat → Cf → List (Bool × Cf)
  | 0, c => [(false, c)]
  | n + 1, c => match step p c with
    | .next c' => bif Nat.ble c.nv c'.nv then run p n c' else [(false, c)]
    | .fork b => run p n { c with facts := (strip b, true) :: c.facts } ++ run p n { c with facts := (strip b, false) :: c.facts }
    | .alts l => l.flatMap fun fo => run p n { c with fo := fo }
    | .dead => [(true, c)]
    | .stop => [(false, c)]
def Sound (E : Env) (β : Nat → Bk) (p : Prm) (Q : Exit → Act → World → Prop) (c : Cf) (w : World) (c' : Cf) : Prop :=
  (∀ β' w', Ext E c.heap β w E c'.heap β' w' → HOk E β' c'.heap w' → c'.wp E β' p Q w') → c.wp E β p Q w
def RelE (p : Prm) (nv : Nat) (E : Env) (nv' : Nat) (E' : Env) : Prop := AgE nv E E' ∧ nv ≤ nv' ∧ (nv' = nv ∨ p.nox = true → E' = E)
theorem RelE.refl (p : Prm) (nv : Nat) (E : Env) : RelE p nv E nv E := ⟨AgE.refl _ _, Nat.le_refl _, fun _ => rfl⟩
theorem RelE.same {p : Prm} {n m : Nat} (h : n ≤ m) (E : Env) : RelE p n E m E := ⟨AgE.refl _ _, h, fun _ => rfl⟩
theorem RelE.trans {p : Prm} {n1 n2 n3 : Nat} {E1 E2 E3 : Env} (a : RelE p n1 E1 n2 E2) (b : RelE p n2 E2 n3 E3) : RelE p n1 E1 n3 E3 := by
  refine ⟨AgE.trans a.2.1 a.1 b.1, Nat.le_trans a.2.1 b.2.1, fun h => ?_⟩
  have ha := a.2.1
  have hb := b.2.1
  rcases h with h | h
  · rw [b.2.2 (.inl (by omega)), a.2.2 (.inl (by omega))]
  · rw [b.2.2 (.inr h), a.2.2 (.inr h)]
def SoundE (E : Env) (β : Nat → Bk) (p : Prm) (Q : Exit → Act → World → Prop) (c : Cf) (w : World) (c' : Cf) : Prop :=
  (∀ E' β' w', RelE p c.nv E c'.nv E' → Ext E c.heap β w E' c'.heap β' w' → HOk E' β' c'.heap w' → Facts E' c'.facts → c'.wp E' β' p Q w') → c.wp E β p Q w
theorem SoundE.of {c c' : Cf} (hn : c.nv ≤ c'.nv) (h : Sound E β p Q c w c' ∧ Facts E c'.facts) : SoundE E β p Q c w c' :=
  fun H => h.1 fun β' w' x hw => H E β' w' (RelE.same hn E) x hw h.2
end Go.Sy
