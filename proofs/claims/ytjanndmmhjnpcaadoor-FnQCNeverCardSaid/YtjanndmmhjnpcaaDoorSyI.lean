/- New blocks by operations; calls; results. -/
import Derived.Test.YtjanndmmhjnpcaaDoorSyV
import Derived.Defers
set_option autoImplicit true
set_option relaxedAutoImplicit true
set_option linter.unusedVariables false
set_option linter.unusedSimpArgs false
namespace Go.Sy
open Go
variable {E : Env} {β : Nat → Bk} {P : Program} {w : World}
def zeros (z : List SV) (n : Nat) : List SV := (List.range n).map fun i => z.getD (i % z.length) (.tup [])
theorem zeros_ok (z : List SV) (n : Nat) (hz : n = 0 ∨ z ≠ []) : (Array.range n).map (fun i => ((SV.denL E β z).toArray)[i % ((SV.denL E β z).toArray).size]!) = (SV.denL E β (zeros z n)).toArray := by
  rw [SV.denL_map, SV.denL_map]
  apply Array.ext'
  simp only [zeros, Array.toList_map, Array.toList_range, List.map_map]
  apply List.map_congr_left
  intro i hi
  have hz' : z ≠ [] := by
    rcases hz with h | h
    · subst h; simp at hi
    · exact h
  have hlt : i % z.length < z.length := Nat.mod_lt _ (by cases z <;> simp_all)
  simp [hlt]
def newOp (P : Program) (gm : Gm) (n : Nat) (tmps : Tm) (op : Op) : Option (List SV × TypeId × SV) :=
  match op with
  | .alloc T => match sZero P T with
    | some l => some (l, T, .ptr n Off.z)
    | none => none
  | .box T x => match ev gm tmps x with
    | some v => match v.cells with
      | some l => some (l, T, .ptr n Off.z)
      | none => none
    | none => none
  | .buildSlice T len parts => match P.underlying T, evParts gm tmps parts.toList with
    | some (.slice e), some ps => match sizeT P e, sZero P e with
      | some sz, some z => if len * sz ≤ 2 ^ 24 ∧ len * sz ≠ 0 ∧ z.isEmpty = false then
          match sFill (fun i => some (i * sz, sz)) (zeros z (len * sz)) ps with
          | some out => some (out, e, .slice n Off.z (.c len) (.c len))
          | none => none
        else none
      | _, _ => none
    | _, _ => none
  | _ => none
theorem newOp_ok {gm : Gm} (hg : gm.ok β) {n : Nat} {tmps : Tm} {ds : List Deferred} {o : Oper} {l : List SV} {S : TypeId} {v : SV} {β' : Nat → Bk} (hβ : (β' n).a = w.heap.size) (hβo : (β' n).o = 0)
    (hr : newOp P gm n tmps o.op = some (l, S, v)) : (execOp (actD E β tmps ds).eval o).run P w = .ok (.value (v.den E β')) (w.alloc (.cells (SV.denL E β l).toArray S)) := by
  unfold execOp
  cases ho : o.op <;> simp only [ho, newOp] at hr <;> try (first | (cases hr; done))
  case alloc T =>
    split at hr
    · rename_i l' hl
      cases hr
      obtain ⟨z, h1, h2⟩ := sZero_ok (E := E) (β := β) (w := w) hl
      simp [Instr.alloc, h1, newVar, newRow, h2, SV.den, Off.den, Off.z, SE.den, hβ, hβo]
    · cases hr
  case box T x =>
    split at hr
    · rename_i u hu
      split at hr
      · rename_i l' hl
        cases hr
        simp [Instr.box, ev_ok hg hu, newVar, newRow, cells_ok hl, SV.den, Off.den, Off.z, SE.den, hβ, hβo]
      · cases hr
    · cases hr
  case buildSlice T len parts =>
    split at hr
    · rename_i e ps hd hps
      split at hr
      · rename_i sz z hsz hz
        split at hr
        · rename_i hc
          split at hr
          · rename_i out hout
            cases hr
            obtain ⟨zv, h1, h2⟩ := sZero_ok (E := E) (β := β) (w := w) hz
            have h3 : ¬ (len * sz > 2 ^ 24) := by omega
            have hpp : (parts.map fun (x : Nat × Operand) => match x with | (i, x) => (i, (actD E β tmps ds).eval x)).toList = ps.map fun p => (p.1, p.2.den E β) := by
              rw [← evParts_ok (E := E) (ds := ds) hg hps]; simp
            have hfill := sFill_ok (E := E) (β := β) hout
            rw [← zeros_ok z (len * sz) (Or.inr (by intro h; simp [h] at hc))] at hfill
            simp only [Instr.buildSlice, underlying, Sem.run_bind, run_program, Result.andThen_ok, hd, Sem.run_pure, sizeT_ok hsz, h3, if_false, hc.2.1, h1]
            simp only [h2]
            rw [hpp, hfill]
            simp [newRow, SV.den, Off.den, Off.z, SE.den, hβ, hβo]
          · cases hr
        · cases hr
      · cases hr
    · cases hr
structure Alt where
  c : SB := .c true
  res : SV
  post : List SBlk
  facts : Fx := []
  xf : Fx := []
structure Ct where
  g : FuncId
  gm : Gm := []
  args : List SV
  heap : List SBlk
  pre : Fx := []
  alts : List Alt
  /-- So many new numbers, truth values, arrays (from xb on) may stand in what is behind it; its facts xf tell of them. -/
  nx : Nat := 0
structure Bt where
  sel : Op → Option (List Operand)
  ct : Ct
  rd : Bool := false
structure Prm where
  P : Program
  gm : Gm
  okf : List Nat
  mts : List (Nat × String × Nat)
  dfr : List Nat
  sl : List (Nat × Nat)
  ct : List Ct
  sc : List Nat := []
  hint : List (Nat × Nat × Fx) := []
  bt : List Bt := []
  /-- What is to be parted at a region. -/
  part : List (Nat × Nat × List SB) := []
  /-- A written out slice of records with other than numbers in them is known cells, no row. -/
  recs : Bool := false
def Prm.nox (p : Prm) : Bool := p.ct.all (fun c => c.nx == 0) && p.bt.all (fun b => b.ct.nx == 0)
def altSel (E : Env) : List Alt → Option Alt
  | [] => none
  | a :: r => if a.c.den E then some a else altSel E r
def ctPost (E : Env) (β : Nat → Bk) (w : World) (c : Ct) (e : Ending) (w' : World) : Prop :=
  ∃ a β' V, altSel E c.alts = some a ∧ e = .returned (a.res.den (E.upd xb c.nx V) β') ∧ HOk (E.upd xb c.nx V) β' a.post w' ∧ Ext E c.heap β w (E.upd xb c.nx V) a.post β' w' ∧ Facts (E.upd xb c.nx V) a.xf
def CtOk (P : Program) (fn : Fns) (c : Ct) : Prop :=
  ∀ (E : Env) (β : Nat → Bk) (w : World), E.fn = fn → c.gm.ok β → HOk E β c.heap w → Facts E c.pre →
    (∀ a, altSel E c.alts = some a → Facts E a.facts) ∧ Calls P c.g (SV.denL E β c.args).toArray w (ctPost E β w c)
def BtOk (P : Program) (fn : Fns) (b : Bt) : Prop :=
  ∀ (E : Env) (β : Nat → Bk) (w : World), E.fn = fn → b.ct.gm.ok β → HOk E β b.ct.heap w → Facts E b.ct.pre →
    (∀ a, altSel E b.ct.alts = some a → Facts E a.facts) ∧ ∀ (eval : Operand → Value) (o : Oper) (xs : List Operand), b.sel o.op = some xs → xs.map eval = SV.denL E β b.ct.args →
      ∃ v w', ((execOp eval o).run P w = .ok (.value v) w' ∨ (b.rd = false ∧ (execOp eval o).run P w = .ok .skip w' ∧ v = undef)) ∧ (b.rd = true → w' = w) ∧ ctPost E β w b.ct (.returned v) w'
structure PrmOk (E : Env) (p : Prm) : Prop where
  bt : ∀ b ∈ p.bt, BtOk p.P E.fn b := by exact fun b hb => (List.not_mem_nil (a := b) hb).elim
  ct : ∀ c ∈ p.ct, CtOk p.P E.fn c
  mix : p.P.follows .mixedOrders = true
  okf : ∀ f ∈ p.okf, ∀ args w, (callFunc f args).run p.P w = .ok (.enter f args) w
  body : ∀ f ∈ p.okf, ∃ fn c, p.P.funcs[f]? = some fn ∧ fn.body = some c
  mts : ∀ x ∈ p.mts, ∀ a w, (method (p.P.types.size + Made.depth) x.1 (.pointer (some a)) x.2.1).run p.P w = .ok (x.2.2, .pointer (some a)) w
  dfr : ∀ f ∈ p.dfr, ∀ a w, CallsD p.P f #[a] .returning w fun e u w' => (∃ v, e = .returned v) ∧ u = .returning ∧ w' = w
  dfk : ∀ f ∈ p.dfr, f ∈ p.okf
variable {p : Prm}
def findM (t : TypeId) (name : String) : List (Nat × String × Nat) → Option Nat
  | [] => none
  | x :: r => if x.1 = t ∧ x.2.1 = name then some x.2.2 else findM t name r
theorem findM_ok {t : TypeId} {name : String} {f : Nat} : ∀ {l : List (Nat × String × Nat)}, findM t name l = some f → (t, name, f) ∈ l
  | [], h => by simp [findM] at h
  | x :: r, h => by
    simp only [findM] at h
    split at h
    · rename_i hx; cases h; obtain ⟨a, b, c⟩ := x; simp at hx ⊢; left; exact ⟨hx.1.symm, hx.2.symm⟩
    · simp [findM_ok h]
def sCall (p : Prm) (tmps : Tm) (c : Call) : Option (FuncId × List SV) :=
  match c.callee, evL p.gm tmps c.args.toList with
  | .value f, some l => match ev p.gm tmps f with
    | some (.func (.func g) first cap) => if g ∈ p.okf then some (g, first ++ l ++ cap) else none
    | _ => none
  | .invoke r name, some l => match ev p.gm tmps r with
    | some (.ifc t (.ptr b o)) => match findM t name p.mts with
      | some g => if g ∈ p.okf then some (g, .ptr b o :: l) else none
      | none => none
    | _ => none
  | _, _ => none
theorem sCall_ok (hp : PrmOk E p) (hg : p.gm.ok β) {tmps : Tm} {ds : List Deferred} {o : Oper} {c : Call} (ho : o.op = .call c) {g : FuncId} {args : List SV} (hr : sCall p tmps c = some (g, args)) :
    (execOp (actD E β tmps ds).eval o).run p.P w = .ok (.enter g (SV.denL E β args).toArray) w ∧ g ∈ p.okf := by
  unfold sCall at hr
  split at hr
  · rename_i f l hc hl
    split at hr
    · rename_i g' first cap hf
      split at hr
      · rename_i hin
        cases hr
        refine ⟨?_, hin⟩
        have he := ev_ok (E := E) (ds := ds) hg hf
        simp only [SV.den] at he
        simp only [execOp, ho, resolve, hc, he, Deferred.ofValue, Sem.run_bind, Sem.run_pure, Result.andThen_ok, invoke, evL_arr (E := E) (ds := ds) hg hl]
        rw [hp.okf _ hin]
        simp [SV.denL_map]
      · cases hr
    · cases hr
  · rename_i r name l hc hl
    split at hr
    · rename_i t b q hf
      split at hr
      · rename_i g' hm
        split at hr
        · rename_i hin
          cases hr
          refine ⟨?_, hin⟩
          have he := ev_ok (E := E) (ds := ds) hg hf
          simp only [SV.den] at he
          have hmt := hp.mts _ (findM_ok hm) ⟨(β b).a, (β b).o + q.den E, none⟩ w
          simp only at hmt
          simp only [execOp, ho, resolve, hc, he, Sem.run_bind, Sem.run_pure, Result.andThen_ok, invoke, evL_arr (E := E) (ds := ds) hg hl]
          simp [callMethod, hmt, hp.okf _ hin, SV.denL, SV.den]
        · cases hr
      · cases hr
    · cases hr
  · cases hr
def ctFind (g : FuncId) : List Ct → Option Ct
  | [] => none
  | s :: r => if s.g = g then some s else ctFind g r
theorem ctFind_ok {g : FuncId} {s : Ct} : ∀ {l : List Ct}, ctFind g l = some s → s ∈ l ∧ s.g = g
  | [], h => by simp [ctFind] at h
  | x :: r, h => by
    simp only [ctFind] at h
    split at h
    · rename_i hx; cases h; exact ⟨by simp, hx⟩
    · have := ctFind_ok h; exact ⟨by simp [this.1], this.2⟩
def ctPick (q : Ct → Bool) (g : FuncId) : List Ct → Option Ct
  | [] => none
  | s :: r => if s.g = g ∧ q s = true then some s else ctPick q g r
def ctSelect (q : Ct → Bool) (g : FuncId) (l : List Ct) : Option Ct :=
  match ctPick q g l with
  | some s => some s
  | none => ctFind g l
theorem ctPick_ok {q : Ct → Bool} {g : FuncId} {s : Ct} : ∀ {l : List Ct}, ctPick q g l = some s → s ∈ l ∧ s.g = g
  | [], h => by simp [ctPick] at h
  | x :: r, h => by
    simp only [ctPick] at h
    split at h
    · rename_i hx; cases h; exact ⟨by simp, hx.1⟩
    · have := ctPick_ok h; exact ⟨by simp [this.1], this.2⟩
theorem ctSelect_ok {q : Ct → Bool} {g : FuncId} {s : Ct} {l : List Ct} (h : ctSelect q g l = some s) : s ∈ l ∧ s.g = g := by
  unfold ctSelect at h
  split at h
  · rename_i t ht; cases h; exact ctPick_ok ht
  · exact ctFind_ok h
def Sub.setK (S : Sub) (j : Nat) (x : Option Nat) : Sub := if (fnd j S.k).isSome then S else { S with k := (j, x) :: S.k }
def mA (p s : AE) (S : Sub) : Sub :=
  match p with
  | .v i => if (fnd i S.a).isSome then S else { S with a := (i, s) :: S.a }
  | _ => S
def mE : SE → SE → Sub → Sub
  | .v i, s, S => if (fnd i S.i).isSome then S else { S with i := (i, s) :: S.i }
  | .rd a p, .rd a' s, S => mE p s (mA a a' S)
  | .add p q, .add s t, S => mE q t (mE p s S)
  | .sub p q, .sub s t, S => mE q t (mE p s S)
  | .mul p q, .mul s t, S => mE q t (mE p s S)
  | _, _, S => S
def mB (p s : SB) (S : Sub) : Sub :=
  match p with
  | .v i => if (fnd i S.b).isSome then S else { S with b := (i, s) :: S.b }
  | _ => S
mutual
def mV : SV → SV → Sub → Sub
  | .int _ p, .int _ s, S => mE p s S
  | .bool p, .bool s, S => mB p s S
  | .opq i, s, S => if (fnd i S.o).isSome then S else { S with o := (i, s) :: S.o }
  | .pa e o, .pa f q, S => mE o q (mE e f S)
  | .pa e o, .nilptr, S => mE o (.c 0) (mE e (.c (-1)) S)
  | .sa e o l c, .sa e' o' l' c', S => mE c c' (mE l l' (mE o o' (mE e e' S)))
  | .sa e o l c, .nilslice, S => mE c (.c 0) (mE l (.c 0) (mE o (.c 0) (mE e (.c (-1)) S)))
  | .ptr b o, .ptr c q, S => mE o.row q.row (S.setK b (some c))
  | .map b, .map c, S => S.setK b (some c)
  | .own b, .own c, S => S.setK b (some c)
  | .own b, .nilslice, S => S.setK b none
  | .slice b o l k, .slice c q l' k', S => mE k k' (mE l l' (mE o.row q.row (S.setK b (some c))))
  | .ifc _ v, .ifc _ u, S => mV v u S
  | .func _ f c, .func _ f' c', S => mVL c c' (mVL f f' S)
  | .agg l, .agg l', S => mVL l l' S
  | .tup l, .tup l', S => mVL l l' S
  | _, _, S => S
def mVL : List SV → List SV → Sub → Sub
  | v :: r, u :: r', S => mVL r r' (mV v u S)
  | _, _, S => S
end
def mSL : SL → SL → Sub → Sub
  | .i x r, .i y t, S => mSL r t (mE x y S)
  | .b x r, .b y t, S => mSL r t (mB x y S)
  | .a x r, .a y t, S => mSL r t (mA x y S)
  | _, _, S => S
def mBlk (h : List SBlk) (S : Sub) (p : SBlk × Nat) : Sub :=
  match fnd p.2 S.k with
  | some (some b) => match p.1, h[b]? with
    | .cells l _, some (.cells l' _) => mVL l l' S
    | .arr a _ n, some (.arr a' _ n') => mA a a' (mE n n' S)
    | .pr _ l, some (.pr _ l') => mSL l l' S
    | .row _ _ _ (x :: l) _, some (.row _ _ _ tail _) => mVL (x :: l) tail S
    | .row a ks n _ _, some (.row a' _ n' tail _) => mA a (tailA a' n' ks.length tail) (mE n (rowsN n' ks.length tail) S)
    | _, _ => S
  | some none => match p.1 with
    | .row a _ n _ _ => mE n (.c 0) S
    | .pr _ (.i n _) => mE n (.c 0) S
    | _ => S
  | none => S
def mPr (h : List SBlk) (S : Sub) (p : SBlk × Nat) : Sub :=
  match p.1 with
  | .pr k _ => if (fnd p.2 S.k).isSome || Nat.ble 1000 k then S else
    match h.findIdx? (fun s => match s with | .pr k' _ => Nat.beq k' k | _ => false) with
    | some b => S.setK p.2 (some b)
    | none => S
  | _ => S
def mHeap (pat h : List SBlk) : Nat → Sub → Sub
  | 0, S => S
  | n + 1, S => mHeap pat h n (pat.zipIdx.foldl (mBlk h) S)
def mGm (gm : Gm) : Gm → Sub → Sub
  | [], S => S
  | (g, j) :: r, S => match Gm.get g gm with
    | some b => mGm gm r (S.setK j (some b))
    | none => mGm gm r S
def mPrL (h : List SBlk) (S : Sub) (p : SBlk × Nat) : Sub :=
  match p.1 with
  | .pr k _ => if (fnd p.2 S.k).isSome then S else
    match h.findIdx? (fun s => match s with | .pr k' _ => Nat.beq k' k | _ => false) with
    | some b => S.setK p.2 (some b)
    | none => S
  | _ => S
def mCall (gm : Gm) (ct : Ct) (args : List SV) (h : List SBlk) : Sub :=
  let S := mHeap ct.heap h (ct.heap.length) (ct.heap.zipIdx.foldl (mPr h) (mVL ct.args args (mGm gm ct.gm {})))
  bif ct.heap.zipIdx.all (fun p => match p.1 with | .pr .. => (fnd p.2 S.k).isSome | _ => true) then S
  else mHeap ct.heap h (ct.heap.length) (ct.heap.zipIdx.foldl (mPrL h) S)
def chkV (S : Sub) (p s : SV) : Bool := p.okS S && SV.same (p.inst S) s
def chkVL (S : Sub) : List SV → List SV → Bool
  | [], [] => true
  | p :: r, s :: t => chkV S p s && chkVL S r t
  | _, _ => false
theorem chkVL_ok {S : Sub} {β0 : Nat → Bk} (hB : Bmap S β β0) : ∀ {l l' : List SV}, chkVL S l l' = true → SV.denL E β l' = SV.denL (E.sub β S) β0 l
  | [], [], _ => rfl
  | p :: r, s :: t, h => by
    simp only [chkVL, chkV, Bool.and_eq_true] at h
    have := SV.inst_ok (E := E) hB p h.1.1
    rw [SV.same_ok h.1.2] at this
    simp only [SV.denL, this, chkVL_ok hB h.2]
  | [], _ :: _, h => by simp [chkVL] at h
  | _ :: _, [], h => by simp [chkVL] at h
def chkCall (gm : Gm) (F : Fx) (ct : Ct) (args : List SV) (h : List SBlk) (S : Sub) : Bool :=
  chkVL S ct.args args && chkHeap S F ct.heap h && ct.gm.all (fun q => match fnd q.2 S.k with | some (some b) => Gm.get q.1 gm == some b | _ => false)
inductive CS where
  | ok (a : Alt)
  | fork (b : SB)
  | dead
  | no
def altS (F : Fx) (S : Sub) : List Alt → CS
  | [] => .no
  | a :: r => match dec F (a.c.inst S) with
    | some true => .ok a
    | some false => altS F S r
    | none => .fork (a.c.inst S)
def ctSel (F : Fx) (S : Sub) (alts : List Alt) : Fx → CS
  | [] => altS F S alts
  | (b, t) :: r => match dec F (b.inst S) with
    | some u => if u = t then ctSel F S alts r else .dead
    | none => .fork (b.inst S)
theorem altS_ok {F : Fx} (hF : Facts E F) {S : Sub} : ∀ {alts : List Alt} {a : Alt}, altS F S alts = .ok a → altSel (E.sub β S) alts = some a
  | [], a, h => by cases h
  | x :: r, a, h => by
    simp only [altS] at h
    split at h
    · rename_i hd
      cases h
      have := dec_ok hF hd
      rw [SB.inst_ok (β := β)] at this
      simp [altSel, this]
    · rename_i hd
      have := dec_ok hF hd
      rw [SB.inst_ok (β := β)] at this
      simp [altSel, this, altS_ok hF h]
    · cases h
theorem ctSel_ok {F : Fx} (hF : Facts E F) {S : Sub} {alts : List Alt} : ∀ {pre : Fx} {a : Alt}, ctSel F S alts pre = .ok a → Facts (E.sub β S) pre ∧ altSel (E.sub β S) alts = some a
  | [], a, h => ⟨fun p hp => (by cases hp), altS_ok hF h⟩
  | (b, t) :: r, a, h => by
    simp only [ctSel] at h
    split at h
    · rename_i u hd
      split at h
      · rename_i hu
        subst hu
        obtain ⟨h1, h2⟩ := ctSel_ok hF h
        refine ⟨fun p hp => ?_, h2⟩
        simp only [List.mem_cons] at hp
        rcases hp with rfl | hp
        · rw [← SB.inst_ok (β := β)]; exact dec_ok hF hd
        · exact h1 p hp
      · cases h
    · cases h
def factsI (S : Sub) (F : Fx) : Fx := F.map fun p => (p.1.inst S, p.2)
theorem factsI_ok {S : Sub} {F : Fx} (h : Facts (E.sub β S) F) : Facts E (factsI S F) := by
  intro p hp
  obtain ⟨q, hq, rfl⟩ := List.mem_map.1 hp
  simp only
  rw [SB.inst_ok (β := β)]
  exact h q hq
theorem chkCall_ok (hp : PrmOk E p) (hg : p.gm.ok β) {F : Fx} (hF : Facts E F) {h : List SBlk} (hw : HOk E β h w) {ct : Ct} (hct : ct ∈ p.ct) {args : List SV} {S : Sub} (hc : chkCall p.gm F ct args h S = true) {a : Alt} (hs : ctSel F S ct.alts ct.pre = .ok a) :
    Facts (E.sub β S) a.facts ∧ Calls p.P ct.g (SV.denL E β args).toArray w fun e w' => ∃ β0 V, e = .returned (a.res.den ((E.sub β S).upd xb ct.nx V) β0) ∧ HOk ((E.sub β S).upd xb ct.nx V) β0 a.post w' ∧
      Ext (E.sub β S) ct.heap (bsub E β h S) w ((E.sub β S).upd xb ct.nx V) a.post β0 w' ∧ Facts ((E.sub β S).upd xb ct.nx V) a.xf := by
  unfold chkCall at hc
  simp only [Bool.and_eq_true] at hc
  obtain ⟨⟨h1, h2⟩, h3⟩ := hc
  obtain ⟨h4, h5⟩ := ctSel_ok (β := β) hF hs
  have hgm : ct.gm.ok (bsub E β h S) := by
    intro q hq
    have := List.all_eq_true.1 h3 q hq
    split at this
    · rename_i b hb
      have hl := bsub_like (E := E) (β := β) (h := h) hb
      rw [hl.a, hl.o]
      exact Gm.get_ok hg (by simpa using this)
    · cases this
  obtain ⟨k1, k2⟩ := hp.ct ct hct (E.sub β S) (bsub E β h S) w rfl hgm (hok_match hF hw h2) h4
  refine ⟨k1 a h5, ?_⟩
  rw [chkVL_ok (E := E) (bsub_map (E := E) (β := β) (h := h) (S := S)) h1]
  refine k2.mono fun e w' ⟨a', β', V, e1, e2, e3, e4, e5⟩ => ?_
  rw [h5] at e1
  cases e1
  exact ⟨β', V, e2, e3, e4, e5⟩
theorem chkBt_ok (hp : PrmOk E p) (hg : p.gm.ok β) {F : Fx} (hF : Facts E F) {h : List SBlk} (hw : HOk E β h w) {b : Bt} (hbt : b ∈ p.bt) {args : List SV} {S : Sub} (hc : chkCall p.gm F b.ct args h S = true) {a : Alt} (hs : ctSel F S b.ct.alts b.ct.pre = .ok a)
    {eval : Operand → Value} {o : Oper} {xs : List Operand} (hsel : b.sel o.op = some xs) (hxs : xs.map eval = SV.denL E β args) :
    Facts (E.sub β S) a.facts ∧ ∃ v w', ((execOp eval o).run p.P w = .ok (.value v) w' ∨ (b.rd = false ∧ (execOp eval o).run p.P w = .ok .skip w' ∧ v = undef)) ∧ (b.rd = true → w' = w) ∧ ∃ β0 V, v = a.res.den ((E.sub β S).upd xb b.ct.nx V) β0 ∧ HOk ((E.sub β S).upd xb b.ct.nx V) β0 a.post w' ∧
      Ext (E.sub β S) b.ct.heap (bsub E β h S) w ((E.sub β S).upd xb b.ct.nx V) a.post β0 w' ∧ Facts ((E.sub β S).upd xb b.ct.nx V) a.xf := by
  unfold chkCall at hc
  simp only [Bool.and_eq_true] at hc
  obtain ⟨⟨h1, h2⟩, h3⟩ := hc
  obtain ⟨h4, h5⟩ := ctSel_ok (β := β) hF hs
  have hgm : b.ct.gm.ok (bsub E β h S) := by
    intro q hq
    have := List.all_eq_true.1 h3 q hq
    split at this
    · rename_i c hb
      have hl := bsub_like (E := E) (β := β) (h := h) hb
      rw [hl.a, hl.o]
      exact Gm.get_ok hg (by simpa using this)
    · cases this
  obtain ⟨k1, k2⟩ := hp.bt b hbt (E.sub β S) (bsub E β h S) w rfl hgm (hok_match hF hw h2) h4
  refine ⟨k1 a h5, ?_⟩
  obtain ⟨v, w', g1, g2, a', β', V, e1, e2, e3, e4, e5⟩ := k2 eval o xs hsel (by rw [hxs, chkVL_ok (E := E) (bsub_map (E := E) (β := β) (h := h) (S := S)) h1])
  rw [h5] at e1
  cases e1
  exact ⟨v, w', g1, g2, β', V, by cases e2; rfl, e3, e4, e5⟩
structure SD where
  fn : FuncId
  cap : List SV
  args : List SV
def SD.den (E : Env) (β : Nat → Bk) (d : SD) : Deferred := { target := .fn (.func d.fn) (SV.denL E β d.cap).toArray, args := (SV.denL E β d.args).toArray }
def SD.bnd (n : Nat) (d : SD) : Bool := SV.bndL n d.cap && SV.bndL n d.args
def SD.fine (p : Prm) (d : SD) : Bool := decide (d.fn ∈ p.dfr) && d.args.length + d.cap.length == 1
theorem SD.agree {β β' : Nat → Bk} {n : Nat} (h : ∀ i, i < n → β' i = β i) (d : SD) (hb : d.bnd n = true) : d.den E β' = d.den E β := by
  simp only [SD.bnd, Bool.and_eq_true] at hb
  simp only [SD.den, SV.denL_agree h _ hb.1, SV.denL_agree h _ hb.2]
def sDefer (p : Prm) (tmps : Tm) (c : Call) : Option SD :=
  match c.callee, evL p.gm tmps c.args.toList with
  | .value f, some l => match ev p.gm tmps f with
    | some (.func (.func g) first cap) => some ⟨g, cap, first ++ l⟩
    | _ => none
  | _, _ => none
theorem sDefer_ok (hg : p.gm.ok β) {tmps : Tm} {ds : List Deferred} {o : Oper} {c : Call} (ho : o.op = .defer c) {d : SD} (hr : sDefer p tmps c = some d) :
    (execOp (actD E β tmps ds).eval o).run p.P w = .ok (.defer (d.den E β)) w := by
  unfold sDefer at hr
  split at hr
  · rename_i f l hc hl
    split at hr
    · rename_i g first cap hf
      cases hr
      have he := ev_ok (E := E) (ds := ds) hg hf
      simp only [SV.den] at he
      simp only [execOp, ho, resolve, hc, he, Deferred.ofValue, Sem.run_bind, Sem.run_pure, Result.andThen_ok, evL_arr (E := E) (ds := ds) hg hl, SD.den]
      simp [SV.denL_map]
    · cases hr
  · cases hr
def sRes1 (P : Program) (F : Fx) (h : List SBlk) (tmps : Tm) : ResultVar → Option SV
  | .tmp t => some (tmps.get t)
  | .cell a T => match tmps.get a with
    | .ptr b o => match sLoad P F h T (.ptr b o) with
      | .val v => some v
      | _ => none
    | _ => none
def sResL (P : Program) (F : Fx) (h : List SBlk) (tmps : Tm) : List ResultVar → Option (List SV)
  | [] => some []
  | r :: rs => match sRes1 P F h tmps r, sResL P F h tmps rs with
    | some v, some l => some (v :: l)
    | _, _ => none
def sRes (P : Program) (F : Fx) (h : List SBlk) (tmps : Tm) (rs : List ResultVar) : Option SV :=
  match sResL P F h tmps rs with
  | some [v] => some v
  | some l => some (.tup l)
  | none => none
def resF (tmps : Array Value) : ResultVar → Sem Value
  | .tmp t => pure (tmps.getD t undef)
  | .cell a t => do loadVar t (← asAddr (tmps.getD a undef))
theorem results_eq (fn : Func) (tmps : Array Value) : results fn tmps = (do let vs ← fn.results.mapM (resF tmps); pure (if h : vs.size = 1 then vs[0] else .tuple vs)) := by
  unfold results
  have : (fun (r : ResultVar) => (match r with
    | .tmp t => pure (tmps.getD t undef)
    | .cell a t => do loadVar t (← asAddr (tmps.getD a undef)) : Sem Value)) = resF tmps := by
    funext r; cases r <;> rfl
  rw [← this]
  rfl
theorem sRes1_ok {F : Fx} (hF : Facts E F) {h : List SBlk} (hw : HOk E β h w) {tmps : Tm} {r : ResultVar} {v : SV} (hr : sRes1 P F h tmps r = some v) :
    (resF (tmps.den E β) r).run P w = .ok (v.den E β) w := by
  cases r with
  | tmp t => simp only [sRes1] at hr; cases hr; simp only [resF, Tm.den_getD, Sem.run_pure]
  | cell a T =>
    simp only [sRes1] at hr
    split at hr
    · rename_i b o ht
      split at hr
      · rename_i u hu
        cases hr
        have := sLoad_ok (P := P) hF hw hu
        simp only [Instr.loadAt, SV.den, Instr.sureAddr, Sem.run_bind, Sem.run_pure, Result.andThen_ok] at this
        simp only [resF, Tm.den_getD, ht, SV.den, asAddr, Sem.run_bind, Sem.run_pure, Result.andThen_ok, this]
      · cases hr
    · cases hr
theorem sResL_ok {F : Fx} (hF : Facts E F) {h : List SBlk} (hw : HOk E β h w) {tmps : Tm} : ∀ {rs : List ResultVar} {l : List SV}, sResL P F h tmps rs = some l →
    (List.mapM (resF (tmps.den E β)) rs).run P w = .ok (SV.denL E β l) w
  | [], l, h => by simp [sResL] at h; subst h; simp [SV.denL]
  | r :: rs, l, h => by
    simp only [sResL] at h
    split at h
    · rename_i v t hv ht
      cases h
      rw [List.mapM_cons, Sem.run_bind, sRes1_ok hF hw hv, Result.andThen_ok, Sem.run_bind, sResL_ok hF hw ht, Result.andThen_ok, Sem.run_pure]
      rfl
    · cases h
theorem sRes_ok {F : Fx} (hF : Facts E F) {h : List SBlk} (hw : HOk E β h w) {tmps : Tm} {fn : Func} {v : SV} (hr : sRes P F h tmps fn.results.toList = some v) :
    (results fn (tmps.den E β)).run P w = .ok (v.den E β) w := by
  rw [results_eq]
  unfold sRes at hr
  have hm : ∀ {l : List SV}, sResL P F h tmps fn.results.toList = some l → (Array.mapM (resF (tmps.den E β)) fn.results).run P w = .ok (SV.denL E β l).toArray w := fun hl => by
    rw [Array.mapM_eq_mapM_toList, Sem.run_map, sResL_ok hF hw hl]; rfl
  split at hr
  · rename_i u hu
    cases hr
    simp only [Sem.run_bind, hm hu, Result.andThen_ok, Sem.run_pure, SV.denL]
    simp
  · rename_i l hn hl
    cases hr
    have hne : ¬ ((SV.denL E β l).toArray.size = 1) := by
      simp only [List.size_toArray, denL_length]
      intro h1
      match l, h1 with
      | [u], _ => exact hn u rfl
    simp only [Sem.run_bind, hm hl, Result.andThen_ok, Sem.run_pure, SV.den]
    rw [dif_neg hne]
  · cases hr
end Go.Sy
