/- New blocks by operations; calls; results. -/
import Derived.Test.YtlkobjghpkifmaaSxH
import Derived.Defers
set_option linter.unusedVariables false
set_option linter.unusedSimpArgs false
namespace Go.Sx
open Go
variable {E : Env} {β : Nat → Nat} {P : Program} {w : World}

def zeros (z : List SV) (n : Nat) : List SV := (List.range n).map fun i => z.getD (i % z.length) (.tup [])
theorem zeros_ok (z : List SV) (n : Nat) (hz : n = 0 ∨ z ≠ []) : (Array.range n).map (fun i => ((SV.denL E β z).toArray)[i % ((SV.denL E β z).toArray).size]!) = (SV.denL E β (zeros z n)).toArray := by
  rw [SV.denL_map, SV.denL_map]
  apply Array.ext'
  simp only [zeros, Array.toList_map, Array.toList_range, List.map_map]
  apply List.map_congr_left
  intro i hi
  have hz' : z ≠ [] := by
    rcases hz with h | h
    · subst h; simp at hi
    · exact h
  have hlt : i % z.length < z.length := Nat.mod_lt _ (by cases z <;> simp_all)
  simp [hlt]
/-- Operations that make one new block: its cells, its type, the value. -/
def newOp (P : Program) (gm : Gm) (n : Nat) (tmps : List SV) (op : Op) : Option (List SV × TypeId × SV) :=
  match op with
  | .alloc T => match sZero P T with
    | some l => some (l, T, .ptr n Off.z)
    | none => none
  | .box T x => match ev gm tmps x with
    | some v => match v.cells with
      | some l => some (l, T, .ptr n Off.z)
      | none => none
    | none => none
  | .buildSlice T len parts => match P.underlying T, evParts gm tmps parts.toList with
    | some (.slice e), some ps => match sizeT P e, sZero P e with
      | some sz, some z => if len * sz ≤ 2 ^ 24 ∧ len * sz ≠ 0 ∧ z.isEmpty = false then
          match sFill (fun i => some (i * sz, sz)) (zeros z (len * sz)) ps with
          | some out => some (out, e, .slice n Off.z (.c len) (.c len))
          | none => none
        else none
      | _, _ => none
    | _, _ => none
  | _ => none
theorem newOp_ok {gm : Gm} (hg : gm.ok β) {n : Nat} {tmps : List SV} {ds : List Deferred} {o : Oper} {l : List SV} {S : TypeId} {v : SV} {β' : Nat → Nat} (hβ : β' n = w.heap.size)
    (hr : newOp P gm n tmps o.op = some (l, S, v)) : (execOp (actD E β tmps ds).eval o).run P w = .ok (.value (v.den E β')) (w.alloc (.cells (SV.denL E β l).toArray S)) := by
  unfold execOp
  cases ho : o.op <;> simp only [ho, newOp] at hr <;> try (first | (cases hr; done))
  case alloc T =>
    split at hr
    · rename_i l' hl
      cases hr
      obtain ⟨z, h1, h2⟩ := sZero_ok (E := E) (β := β) (w := w) hl
      simp [Instr.alloc, h1, newVar, newRow, h2, SV.den, Off.den, Off.z, SE.den, hβ]
    · cases hr
  case box T x =>
    split at hr
    · rename_i u hu
      split at hr
      · rename_i l' hl
        cases hr
        simp [Instr.box, ev_ok hg hu, newVar, newRow, cells_ok hl, SV.den, Off.den, Off.z, SE.den, hβ]
      · cases hr
    · cases hr
  case buildSlice T len parts =>
    split at hr
    · rename_i e ps hd hps
      split at hr
      · rename_i sz z hsz hz
        split at hr
        · rename_i hc
          split at hr
          · rename_i out hout
            cases hr
            obtain ⟨zv, h1, h2⟩ := sZero_ok (E := E) (β := β) (w := w) hz
            have h3 : ¬ (len * sz > 2 ^ 24) := by omega
            have hpp : (parts.map fun (x : Nat × Operand) => match x with | (i, x) => (i, (actD E β tmps ds).eval x)).toList = ps.map fun p => (p.1, p.2.den E β) := by
              rw [← evParts_ok (E := E) (ds := ds) hg hps]; simp
            have hfill := sFill_ok (E := E) (β := β) hout
            rw [← zeros_ok z (len * sz) (Or.inr (by intro h; simp [h] at hc))] at hfill
            simp only [Instr.buildSlice, underlying, Sem.run_bind, run_program, Result.andThen_ok, hd, Sem.run_pure, sizeT_ok hsz, h3, if_false, hc.2.1, h1]
            simp only [h2]
            rw [hpp, hfill]
            simp [newRow, SV.den, Off.den, Off.z, SE.den, hβ]
          · cases hr
        · cases hr
      · cases hr
    · cases hr

/- parameters -/
/-- A contract of a function of whole numbers: its number, a name, the kinds of its parameters, the kind of its result (none: a truth value), what it asks. -/
structure Sm where
  g : FuncId
  id : Nat
  ks : List IntKind
  k : Option IntKind
  pre : List SB
structure Prm where
  P : Program
  gm : Gm
  okf : List Nat
  mts : List (Nat × String × Nat)
  dfr : List Nat
  sl : List (Nat × Nat)
  sm : List Sm
def smArgs : List IntKind → List Int → List Value
  | k :: ks, x :: xs => .int k x :: smArgs ks xs
  | _, _ => []
def smRes (E : Env) (s : Sm) (xs : List Int) : Value :=
  match s.k with
  | some k => .int k (E.f s.id (xs.getD 0 0) (xs.getD 1 0) (xs.getD 2 0) (xs.getD 3 0))
  | none => .bool (E.g s.id (xs.getD 0 0) (xs.getD 1 0) (xs.getD 2 0) (xs.getD 3 0))
structure PrmOk (E : Env) (p : Prm) : Prop where
  sm : ∀ s ∈ p.sm, ∀ (xs : List Int) (w : World), xs.length = s.ks.length → (∀ b ∈ s.pre, b.den { E with i := fun j => xs.getD j 0 } = true) →
    Calls p.P s.g (smArgs s.ks xs).toArray w fun e w' => e = .returned (smRes E s xs) ∧ Go.RowKit.Below w.heap.size w w'
  mix : p.P.follows .mixedOrders = true
  okf : ∀ f ∈ p.okf, ∀ args w, (callFunc f args).run p.P w = .ok (.enter f args) w
  body : ∀ f ∈ p.okf, ∃ fn c, p.P.funcs[f]? = some fn ∧ fn.body = some c
  mts : ∀ x ∈ p.mts, ∀ a w, (method (p.P.types.size + Made.depth) x.1 (.pointer (some a)) x.2.1).run p.P w = .ok (x.2.2, .pointer (some a)) w
  dfr : ∀ f ∈ p.dfr, ∀ a w, CallsD p.P f #[a] .returning w fun e u w' => (∃ v, e = .returned v) ∧ u = .returning ∧ w' = w
  dfk : ∀ f ∈ p.dfr, f ∈ p.okf
variable {p : Prm}

def findM (t : TypeId) (name : String) : List (Nat × String × Nat) → Option Nat
  | [] => none
  | x :: r => if x.1 = t ∧ x.2.1 = name then some x.2.2 else findM t name r
theorem findM_ok {t : TypeId} {name : String} {f : Nat} : ∀ {l : List (Nat × String × Nat)}, findM t name l = some f → (t, name, f) ∈ l
  | [], h => by simp [findM] at h
  | x :: r, h => by
    simp only [findM] at h
    split at h
    · rename_i hx; cases h; obtain ⟨a, b, c⟩ := x; simp at hx ⊢; left; exact ⟨hx.1.symm, hx.2.symm⟩
    · simp [findM_ok h]
def sCall (p : Prm) (tmps : List SV) (c : Call) : Option (FuncId × List SV) :=
  match c.callee, evL p.gm tmps c.args.toList with
  | .value f, some l => match ev p.gm tmps f with
    | some (.func (.func g) first cap) => if g ∈ p.okf then some (g, first ++ l ++ cap) else none
    | _ => none
  | .invoke r name, some l => match ev p.gm tmps r with
    | some (.ifc t (.ptr b o)) => match findM t name p.mts with
      | some g => if g ∈ p.okf then some (g, .ptr b o :: l) else none
      | none => none
    | _ => none
  | _, _ => none
theorem sCall_ok (hp : PrmOk E p) (hg : p.gm.ok β) {tmps : List SV} {ds : List Deferred} {o : Oper} {c : Call} (ho : o.op = .call c) {g : FuncId} {args : List SV} (hr : sCall p tmps c = some (g, args)) :
    (execOp (actD E β tmps ds).eval o).run p.P w = .ok (.enter g (SV.denL E β args).toArray) w ∧ g ∈ p.okf := by
  unfold sCall at hr
  split at hr
  · rename_i f l hc hl
    split at hr
    · rename_i g' first cap hf
      split at hr
      · rename_i hin
        cases hr
        refine ⟨?_, hin⟩
        have he := ev_ok (E := E) (ds := ds) hg hf
        simp only [SV.den] at he
        simp only [execOp, ho, resolve, hc, he, Deferred.ofValue, Sem.run_bind, Sem.run_pure, Result.andThen_ok, invoke, evL_arr (E := E) (ds := ds) hg hl]
        rw [hp.okf _ hin]
        simp [SV.denL_map]
      · cases hr
    · cases hr
  · rename_i r name l hc hl
    split at hr
    · rename_i t b q hf
      split at hr
      · rename_i g' hm
        split at hr
        · rename_i hin
          cases hr
          refine ⟨?_, hin⟩
          have he := ev_ok (E := E) (ds := ds) hg hf
          simp only [SV.den] at he
          have hmt := hp.mts _ (findM_ok hm) ⟨β b, q.den E, none⟩ w
          simp only at hmt
          simp only [execOp, ho, resolve, hc, he, Sem.run_bind, Sem.run_pure, Result.andThen_ok, invoke, evL_arr (E := E) (ds := ds) hg hl]
          simp [callMethod, hmt, hp.okf _ hin, SV.denL, SV.den]
        · cases hr
      · cases hr
    · cases hr
  · cases hr

/- contracts of functions of whole numbers -/
def smFind (g : FuncId) : List Sm → Option Sm
  | [] => none
  | s :: r => if s.g = g then some s else smFind g r
theorem smFind_ok {g : FuncId} {s : Sm} : ∀ {l : List Sm}, smFind g l = some s → s ∈ l ∧ s.g = g
  | [], h => by simp [smFind] at h
  | x :: r, h => by
    simp only [smFind] at h
    split at h
    · rename_i hx; cases h; exact ⟨by simp, hx⟩
    · have := smFind_ok h; exact ⟨by simp [this.1], this.2⟩
def intArgs : List IntKind → List SV → Option (List SE)
  | [], [] => some []
  | k :: ks, .int j e :: r => if j = k then match intArgs ks r with
      | some l => some (e :: l)
      | none => none
    else none
  | _, _ => none
theorem intArgs_ok : ∀ {ks : List IntKind} {l : List SV} {es : List SE}, intArgs ks l = some es → SV.denL E β l = smArgs ks (es.map (SE.den E)) ∧ (es.map (SE.den E)).length = ks.length
  | [], [], es, h => by simp [intArgs] at h; subst h; simp [SV.denL, smArgs]
  | [], _ :: _, es, h => by simp [intArgs] at h
  | _ :: _, [], es, h => by simp [intArgs] at h
  | k :: ks, v :: r, es, h => by
    unfold intArgs at h
    split at h
    · rename_i h1 _; cases h1
    · rename_i k' ks' j e r' h1 h2
      cases h1; cases h2
      split at h
      · rename_i hj
        split at h
        · rename_i l hl
          cases h
          obtain ⟨e1, e2⟩ := intArgs_ok hl
          simp [SV.denL, SV.den, smArgs, e1, hj]
          simpa using e2
        · cases h
      · cases h
    · cases h
def preS (F : Fx) (es : List SE) : List SB → RP → RP
  | [], k => k
  | b :: r, k => onB F (b.puts es) (preS F es r k) .dead
theorem preS_val {F : Fx} (hF : Facts E F) {es : List SE} : ∀ {pre : List SB} {k : RP} {v : SV}, preS F es pre k = .val v → k = .val v ∧ ∀ b ∈ pre, b.den (E.subs es) = true
  | [], k, v, h => ⟨h, by simp⟩
  | b :: r, k, v, h => by
    simp only [preS] at h
    rcases onB_val hF h with ⟨h1, h2⟩ | ⟨_, h2⟩
    · obtain ⟨h3, h4⟩ := preS_val hF h2
      refine ⟨h3, fun c hc => ?_⟩
      simp only [List.mem_cons] at hc
      rcases hc with rfl | hc
      · rw [← SB.den_puts]; exact h1
      · exact h4 c hc
    · cases h2
def sumCall (p : Prm) (F : Fx) (g : FuncId) (args : List SV) : RP :=
  match smFind g p.sm with
  | some s => match intArgs s.ks args with
    | some es => preS F es s.pre (.val (match s.k with
        | some k => .int k (.ap s.id (es.getD 0 (.c 0)) (es.getD 1 (.c 0)) (es.getD 2 (.c 0)) (es.getD 3 (.c 0)))
        | none => .bool (.ap s.id (es.getD 0 (.c 0)) (es.getD 1 (.c 0)) (es.getD 2 (.c 0)) (es.getD 3 (.c 0)))))
    | none => .no
  | none => .no
theorem getD_map (es : List SE) (i : Nat) : (es.map (SE.den E)).getD i 0 = (es.getD i (.c 0)).den E := by
  simp only [List.getD_eq_getElem?_getD, List.getElem?_map]
  cases es[i]? <;> simp [SE.den]
theorem sumCall_ok (hp : PrmOk E p) {F : Fx} (hF : Facts E F) {g : FuncId} {args : List SV} {v : SV} (h : sumCall p F g args = .val v) :
    Calls p.P g (SV.denL E β args).toArray w fun e w' => e = .returned (v.den E β) ∧ Go.RowKit.Below w.heap.size w w' := by
  unfold sumCall at h
  split at h
  · rename_i s hs
    split at h
    · rename_i es hes
      obtain ⟨h1, h2⟩ := preS_val hF h
      obtain ⟨e1, e2⟩ := intArgs_ok (E := E) (β := β) hes
      obtain ⟨m1, m2⟩ := smFind_ok hs
      have := hp.sm s m1 (es.map (SE.den E)) w e2 (fun b hb => by
        have h3 := h2 b hb
        have e : E.subs es = { E with i := fun j => (es.map (SE.den E)).getD j 0 } := by
          unfold Env.subs; congr 1; funext j; rw [getD_map]
        rw [← e]; exact h3)
      rw [m2] at this
      rw [e1]
      refine this.mono fun e w' ⟨a, b⟩ => ⟨?_, b⟩
      rw [a]
      cases h1
      unfold smRes
      cases s.k <;> simp only [SV.den, SE.den, SB.den, getD_map]
    · cases h
  · cases h

/- deferred calls -/
structure SD where
  fn : FuncId
  cap : List SV
  args : List SV
def SD.den (E : Env) (β : Nat → Nat) (d : SD) : Deferred := { target := .fn (.func d.fn) (SV.denL E β d.cap).toArray, args := (SV.denL E β d.args).toArray }
def SD.bnd (n : Nat) (d : SD) : Bool := SV.bndL n d.cap && SV.bndL n d.args
def SD.fine (p : Prm) (d : SD) : Bool := decide (d.fn ∈ p.dfr) && d.args.length + d.cap.length == 1
theorem SD.agree {β β' : Nat → Nat} {n : Nat} (h : ∀ i, i < n → β' i = β i) (d : SD) (hb : d.bnd n = true) : d.den E β' = d.den E β := by
  simp only [SD.bnd, Bool.and_eq_true] at hb
  simp only [SD.den, SV.denL_agree h _ hb.1, SV.denL_agree h _ hb.2]
def sDefer (p : Prm) (tmps : List SV) (c : Call) : Option SD :=
  match c.callee, evL p.gm tmps c.args.toList with
  | .value f, some l => match ev p.gm tmps f with
    | some (.func (.func g) first cap) => some ⟨g, cap, first ++ l⟩
    | _ => none
  | _, _ => none
theorem sDefer_ok (hg : p.gm.ok β) {tmps : List SV} {ds : List Deferred} {o : Oper} {c : Call} (ho : o.op = .defer c) {d : SD} (hr : sDefer p tmps c = some d) :
    (execOp (actD E β tmps ds).eval o).run p.P w = .ok (.defer (d.den E β)) w := by
  unfold sDefer at hr
  split at hr
  · rename_i f l hc hl
    split at hr
    · rename_i g first cap hf
      cases hr
      have he := ev_ok (E := E) (ds := ds) hg hf
      simp only [SV.den] at he
      simp only [execOp, ho, resolve, hc, he, Deferred.ofValue, Sem.run_bind, Sem.run_pure, Result.andThen_ok, evL_arr (E := E) (ds := ds) hg hl, SD.den]
      simp [SV.denL_map]
    · cases hr
  · cases hr

/- results -/
def sRes1 (P : Program) (F : Fx) (h : List SBlk) (tmps : List SV) : ResultVar → Option SV
  | .tmp t => some (tmps.getD t (.tup []))
  | .cell a T => match tmps.getD a (.tup []) with
    | .ptr b o => match sLoad P F h T (.ptr b o) with
      | .val v => some v
      | _ => none
    | _ => none
def sResL (P : Program) (F : Fx) (h : List SBlk) (tmps : List SV) : List ResultVar → Option (List SV)
  | [] => some []
  | r :: rs => match sRes1 P F h tmps r, sResL P F h tmps rs with
    | some v, some l => some (v :: l)
    | _, _ => none
def sRes (P : Program) (F : Fx) (h : List SBlk) (tmps : List SV) (rs : List ResultVar) : Option SV :=
  match sResL P F h tmps rs with
  | some [v] => some v
  | some l => some (.tup l)
  | none => none
def resF (tmps : Array Value) : ResultVar → Sem Value
  | .tmp t => pure (tmps.getD t undef)
  | .cell a t => do loadVar t (← asAddr (tmps.getD a undef))
theorem results_eq (fn : Func) (tmps : Array Value) : results fn tmps = (do let vs ← fn.results.mapM (resF tmps); pure (if h : vs.size = 1 then vs[0] else .tuple vs)) := by
  unfold results
  have : (fun (r : ResultVar) => (match r with
    | .tmp t => pure (tmps.getD t undef)
    | .cell a t => do loadVar t (← asAddr (tmps.getD a undef)) : Sem Value)) = resF tmps := by
    funext r; cases r <;> rfl
  rw [← this]
  rfl
theorem sRes1_ok {F : Fx} (hF : Facts E F) {h : List SBlk} (hw : HOk E β h w) {tmps : List SV} {r : ResultVar} {v : SV} (hr : sRes1 P F h tmps r = some v) :
    (resF (SV.denL E β tmps).toArray r).run P w = .ok (v.den E β) w := by
  cases r with
  | tmp t => simp only [sRes1] at hr; cases hr; simp only [resF, denL_getD, Sem.run_pure]
  | cell a T =>
    simp only [sRes1] at hr
    split at hr
    · rename_i b o ht
      split at hr
      · rename_i u hu
        cases hr
        have := sLoad_ok (P := P) hF hw hu
        simp only [Instr.loadAt, SV.den, Instr.sureAddr, Sem.run_bind, Sem.run_pure, Result.andThen_ok] at this
        simp only [resF, denL_getD, ht, SV.den, asAddr, Sem.run_bind, Sem.run_pure, Result.andThen_ok, this]
      · cases hr
    · cases hr
theorem sResL_ok {F : Fx} (hF : Facts E F) {h : List SBlk} (hw : HOk E β h w) {tmps : List SV} : ∀ {rs : List ResultVar} {l : List SV}, sResL P F h tmps rs = some l →
    (List.mapM (resF (SV.denL E β tmps).toArray) rs).run P w = .ok (SV.denL E β l) w
  | [], l, h => by simp [sResL] at h; subst h; simp [SV.denL]
  | r :: rs, l, h => by
    simp only [sResL] at h
    split at h
    · rename_i v t hv ht
      cases h
      rw [List.mapM_cons, Sem.run_bind, sRes1_ok hF hw hv, Result.andThen_ok, Sem.run_bind, sResL_ok hF hw ht, Result.andThen_ok, Sem.run_pure]
      rfl
    · cases h
theorem sRes_ok {F : Fx} (hF : Facts E F) {h : List SBlk} (hw : HOk E β h w) {tmps : List SV} {fn : Func} {v : SV} (hr : sRes P F h tmps fn.results.toList = some v) :
    (results fn (SV.denL E β tmps).toArray).run P w = .ok (v.den E β) w := by
  rw [results_eq]
  unfold sRes at hr
  have hm : ∀ {l : List SV}, sResL P F h tmps fn.results.toList = some l → (Array.mapM (resF (SV.denL E β tmps).toArray) fn.results).run P w = .ok (SV.denL E β l).toArray w := fun hl => by
    rw [Array.mapM_eq_mapM_toList, Sem.run_map, sResL_ok hF hw hl]; rfl
  split at hr
  · rename_i u hu
    cases hr
    simp only [Sem.run_bind, hm hu, Result.andThen_ok, Sem.run_pure, SV.denL]
    simp
  · rename_i l hn hl
    cases hr
    have hne : ¬ ((SV.denL E β l).toArray.size = 1) := by
      simp only [List.size_toArray, denL_length]
      intro h1
      match l, h1 with
      | [u], _ => exact hn u rfl
    simp only [Sem.run_bind, hm hl, Result.andThen_ok, Sem.run_pure, SV.den]
    rw [dif_neg hne]
  · cases hr
end Go.Sx
