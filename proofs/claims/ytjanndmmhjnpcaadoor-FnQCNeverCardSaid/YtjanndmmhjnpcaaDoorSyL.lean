/- A region whose order is open: its head only reads (in whatever order), its tail goes in the order of the text. -/
import Derived.Test.YtjanndmmhjnpcaaDoorSyI
import Derived.Orders
set_option autoImplicit true
set_option relaxedAutoImplicit true
set_option linter.unusedVariables false
set_option linter.unusedSimpArgs false
namespace Go.Sy
open Go
section
variable {P : Program} {ops : Array Oper} {Q : Exit → Act → World → Prop} {a : Act} {vals : Nat → Value} {n : Nat}
def dstOf (ops : Array Oper) (j : Nat) : Option Tmp := (ops[j]?).bind (·.dst)
def par (ops : Array Oper) (vals : Nat → Value) (a : Act) (D : Nat → Bool) : Nat → Act
  | 0 => a
  | k + 1 => if D k then (par ops vals a D k).put (dstOf ops k) (vals k) else par ops vals a D k
theorem put_size (a : Act) (d : Option Tmp) (v : Value) : (a.put d v).tmps.size = a.tmps.size := by cases d <;> simp [Act.put]
theorem put_defers (a : Act) (d : Option Tmp) (v : Value) : (a.put d v).defers = a.defers := by cases d <;> rfl
theorem put_other (a : Act) {d : Option Tmp} {s : Tmp} (h : d ≠ some s) (v : Value) : (a.put d v).tmps[s]? = a.tmps[s]? := by
  cases d with
  | none => rfl
  | some t => simp only [Act.put]; rw [Array.getElem?_setIfInBounds_ne (fun hh => h (by rw [hh]))]
theorem put_self (a : Act) (s : Tmp) (v : Value) : (a.put (some s) v).tmps[s]? = if s < a.tmps.size then some v else none := by
  simp only [Act.put, Array.getElem?_setIfInBounds]
  simp
theorem par_size (D : Nat → Bool) : ∀ k, (par ops vals a D k).tmps.size = a.tmps.size
  | 0 => rfl
  | k + 1 => by simp only [par]; split <;> simp [put_size, par_size D k]
theorem par_defers (D : Nat → Bool) : ∀ k, (par ops vals a D k).defers = a.defers
  | 0 => rfl
  | k + 1 => by simp only [par]; split <;> simp [put_defers, par_defers D k]
theorem par_agree {D D' : Nat → Bool} {s : Tmp} : ∀ k, (∀ j, j < k → dstOf ops j = some s → D j = D' j) → (par ops vals a D k).tmps[s]? = (par ops vals a D' k).tmps[s]?
  | 0, _ => rfl
  | k + 1, h => by
    have ih := par_agree k fun j hj => h j (by omega)
    simp only [par]
    by_cases hd : dstOf ops k = some s
    · have := h k (by omega) hd
      rw [← this]
      split
      · rw [hd, put_self, put_self, par_size, par_size]
      · exact ih
    · split <;> split <;> (try rw [put_other _ hd]) <;> (try rw [put_other _ hd]) <;> exact ih
theorem par_slot {D : Nat → Bool} {i : Nat} {s : Tmp} (hi : dstOf ops i = some s) (hD : D i = true) : ∀ k, i < k → (∀ j, j < k → j ≠ i → D j = true → dstOf ops j ≠ some s) →
    (par ops vals a D k).tmps[s]? = if s < a.tmps.size then some (vals i) else none
  | 0, h, _ => by omega
  | k + 1, h, hu => by
    simp only [par]
    by_cases hk : k = i
    · subst hk
      simp only [hD, if_true]
      rw [hi, put_self, par_size]
    · have ih := par_slot hi hD k (by omega) fun j hj => hu j (by omega)
      split
      · rename_i hDk
        rw [put_other _ (hu k (by omega) hk hDk)]; exact ih
      · exact ih
theorem par_put {D : Nat → Bool} {i k : Nat} (hik : i < k) (hu : ∀ j, j < k → j ≠ i → D j = true → ∀ s, dstOf ops i = some s → dstOf ops j ≠ some s) :
    (par ops vals a D k).put (dstOf ops i) (vals i) = par ops vals a (fun j => if j = i then true else D j) k := by
  have ext : ∀ (x y : Act), x.defers = y.defers → (∀ s, x.tmps[s]? = y.tmps[s]?) → x = y := fun x y h1 h2 => by
    obtain ⟨xt, xd⟩ := x; obtain ⟨yt, yd⟩ := y
    simp only at h1 h2; subst h1
    have : xt = yt := Array.ext_getElem? h2
    rw [this]
  refine ext _ _ (by rw [put_defers, par_defers, par_defers]) fun s => ?_
  by_cases hs : dstOf ops i = some s
  · rw [par_slot hs (by simp) k hik fun j hj hne hDj => hu j hj hne (by simpa [hne] using hDj) s hs, hs, put_self, par_size]
  · rw [put_other _ hs]
    refine par_agree k fun j hj hd => ?_
    have : j ≠ i := fun hh => hs (hh ▸ hd)
    simp [this]
def maskOf (acc : List Nat) : List Edge → Nat
  | [] => 0
  | e :: r => if Region.binds .any e then (2 ^ e.on ||| acc.getD e.on 0) ||| maskOf acc r else maskOf acc r
def masks : List Nat → List Oper → List Nat
  | acc, [] => acc
  | acc, o :: r => masks (acc ++ [maskOf acc o.after.toList]) r
def Closed (ops : Array Oper) (D : Nat → Bool) : Prop := ∀ i o, ops[i]? = some o → D i = true → ∀ e ∈ o.after, Region.binds .any e = true → D e.on = true
def Needs (ops : Array Oper) (i j : Nat) : Prop := ∀ D, Closed ops D → ∀ o, ops[i]? = some o → (∀ e ∈ o.after, Region.binds .any e = true → D e.on = true) → D j = true
theorem getD_ge {l : List Nat} {k : Nat} (h : l.length ≤ k) : l.getD k 0 = 0 := by simp [List.getD_eq_getElem?_getD, List.getElem?_eq_none h]
theorem maskOf_ok {acc : List Nat} (hacc : ∀ k j, k < acc.length → (acc.getD k 0).testBit j = true → Needs ops k j) (hlen : acc.length ≤ ops.size) {i : Nat} {o : Oper} (ho : ops[i]? = some o) :
    ∀ {es : List Edge}, (∀ e ∈ es, e ∈ o.after) → ∀ j, (maskOf acc es).testBit j = true → Needs ops i j
  | [], _, j, h => by simp [maskOf] at h
  | e :: r, hes, j, h => by
    simp only [maskOf] at h
    split at h
    · rename_i hb
      rw [Nat.testBit_or, Nat.testBit_or, Bool.or_eq_true, Bool.or_eq_true] at h
      rcases h with (h | h) | h
      · have hj : e.on = j := by
          rw [Nat.testBit_two_pow] at h; exact of_decide_eq_true h
        subst hj
        intro D _ o' ho' hall
        rw [ho] at ho'; cases ho'
        exact hall e (hes e (by simp)) hb
      · rcases Nat.lt_or_ge e.on acc.length with hl | hl
        · have := hacc e.on j hl h
          intro D hD o' ho' hall
          rw [ho] at ho'; cases ho'
          have he := hall e (hes e (by simp)) hb
          have hlt : e.on < ops.size := by omega
          obtain ⟨oe, hoe⟩ : ∃ oe, ops[e.on]? = some oe := ⟨ops[e.on], by simp [hlt]⟩
          exact this D hD oe hoe fun e' he' hb' => hD e.on oe hoe he e' he' hb'
        · rw [getD_ge hl] at h; simp at h
      · exact maskOf_ok hacc hlen ho (fun e' he' => hes e' (by simp [he'])) j h
    · exact maskOf_ok hacc hlen ho (fun e' he' => hes e' (by simp [he'])) j h
theorem masks_ok : ∀ (l : List Oper) (acc : List Nat), (∀ j, l[j]? = ops[acc.length + j]?) → (∀ k j, k < acc.length → (acc.getD k 0).testBit j = true → Needs ops k j) → acc.length + l.length = ops.size →
    ∀ k j, ((masks acc l).getD k 0).testBit j = true → Needs ops k j
  | [], acc, hl, hacc, hsz, k, j, h => by
    simp only [masks] at h
    rcases Nat.lt_or_ge k acc.length with hk | hk
    · exact hacc k j hk h
    · rw [getD_ge hk] at h; simp at h
  | o :: r, acc, hl, hacc, hsz, k, j, h => by
    simp only [masks] at h
    simp only [List.length_cons] at hsz
    have ho : ops[acc.length]? = some o := by have := hl 0; simpa using this.symm
    refine masks_ok r (acc ++ [maskOf acc o.after.toList]) (fun j => ?_) (fun k j hk hb => ?_) (by simp; omega) k j h
    · have := hl (j + 1)
      simp only [List.getElem?_cons_succ] at this
      rw [this]; simp; congr 1; omega
    · simp only [List.length_append, List.length_singleton] at hk
      rcases Nat.lt_or_ge k acc.length with h1 | h1
      · rw [List.getD_eq_getElem?_getD, List.getElem?_append_left h1, ← List.getD_eq_getElem?_getD] at hb
        exact hacc k j h1 hb
      · have : k = acc.length := by omega
        subst this
        rw [List.getD_eq_getElem?_getD, List.getElem?_append_right (Nat.le_refl _)] at hb
        simp at hb
        exact maskOf_ok hacc (by omega) ho (fun e he => by simpa using he) j hb
def allMasks (ops : Array Oper) : List Nat := masks [] ops.toList
theorem allMasks_ok {k j : Nat} (h : ((allMasks ops).getD k 0).testBit j = true) : Needs ops k j :=
  masks_ok ops.toList [] (by simp) (by simp) (by simp) k j h
structure RegFacts (ops : Array Oper) (fl hd : Nat → Bool) : Prop where
  sel : ∀ (j : Nat) (o : Oper) cs b, ops[j]? = some o → o.op ≠ .select cs b
  edges : ∀ i o, ops[i]? = some o → ∀ e ∈ o.after, Region.binds .any e = true → e.on < i
  one : ∀ i j s, (fl i || hd i) = true → (fl j || hd j) = true → j ≠ i → dstOf ops i = some s → dstOf ops j ≠ some s
  two : ∀ i t s, fl i = true → (fl t || hd t) = false → dstOf ops i = some s → dstOf ops t ≠ some s
  look : ∀ i o s, ops[i]? = some o → (fl i || hd i) = true → s ∈ o.looksAt ops → ∀ j, (fl j || hd j) = true → dstOf ops j = some s → j ≠ i → (j < i ∧ Needs ops i j) ∨ (i < j ∧ Needs ops j i)
  lookT : ∀ i o s, ops[i]? = some o → fl i = true → s ∈ o.looksAt ops → ∀ t, (fl t || hd t) = false → dstOf ops t = some s → Needs ops t i
  tailL : ∀ t o s, ops[t]? = some o → (fl t || hd t) = false → s ∈ o.looksAt ops → ∀ i, fl i = true → dstOf ops i = some s → Needs ops t i
  tailH : ∀ t, t < ops.size → (fl t || hd t) = false → ∀ i, i < ops.size → hd i = true → fl i = false → Needs ops t i
  tailT : ∀ t, t < ops.size → (fl t || hd t) = false → ∀ u, u < t → (fl u || hd u) = false → Needs ops t u
def chkEdges (i : Nat) (o : Oper) : Bool := o.after.toList.all fun e => !Region.binds .any e || decide (e.on < i)
theorem zipAll {P : Oper → Nat → Bool} (h : (ops.toList.zipIdx.all fun (o, i) => P o i) = true) {i : Nat} {o : Oper} (ho : ops[i]? = some o) : P o i = true := by
  have : (o, i) ∈ ops.toList.zipIdx := by
    rw [List.mem_zipIdx_iff_getElem?]; simpa using ho
  exact List.all_eq_true.1 h (o, i) this
def Quiet1 (P : Program) (C : World → Prop) (ops : Array Oper) (o : Oper) (act : Act) (v : Value) : Prop :=
  (Region.wanted o (yielded ops act.tmps) = false ∧ v = undef) ∨
  (Region.wanted o (yielded ops act.tmps) = true ∧ ∀ w, C w →
    (execOp act.eval o).run P w = .ok (.value v) w ∨
    (∃ f args, (execOp act.eval o).run P w = .ok (.enter f args) w ∧ Calls P f args w fun e w' => e = .returned v ∧ C w'))
theorem eval_slot {x y : Act} {op : Operand} (h : ∀ t, op = .tmp t → x.tmps[t]? = y.tmps[t]?) : x.eval op = y.eval op := by
  cases op with
  | tmp t => simp only [Act.eval, Array.getD_eq_getD_getElem?, h t rfl]
  | _ => rfl
theorem exec_slot {x y : Act} {o : Oper} (hs : ∀ cs b, o.op ≠ .select cs b) (h : ∀ d ∈ o.looksAt ops, x.tmps[d]? = y.tmps[d]?) : execOp x.eval o = execOp y.eval o :=
  execOp_congr o hs fun op hop => eval_slot fun t ht => h t (by
    subst ht
    exact List.mem_append_left _ (List.mem_filterMap.2 ⟨.tmp t, by simpa using hop, rfl⟩))
theorem wanted_slot {x y : Act} {o : Oper} (h : ∀ d ∈ o.looksAt ops, x.tmps[d]? = y.tmps[d]?) : Region.wanted o (yielded ops x.tmps) = Region.wanted o (yielded ops y.tmps) := by
  unfold Region.wanted
  cases hg : o.guard with
  | none => rfl
  | some g =>
    obtain ⟨j, want⟩ := g
    simp only
    congr 1
    unfold yielded
    cases hd : (ops[j]?).bind (·.dst) with
    | none => rfl
    | some d =>
      simp only [Option.bind_some]
      rw [h d (by unfold Oper.looksAt; simp [hg, hd])]
theorem Quiet1.slot {C : World → Prop} {o : Oper} {x y : Act} {v : Value} (hs : ∀ cs b, o.op ≠ .select cs b) (h : ∀ d ∈ o.looksAt ops, x.tmps[d]? = y.tmps[d]?) (q : Quiet1 P C ops o x v) : Quiet1 P C ops o y v := by
  unfold Quiet1 at *
  rw [← exec_slot hs h, ← wanted_slot h]
  exact q
theorem Quiet1.wpOp {C : World → Prop} {i : Nat} {o : Oper} {act : Act} {v : Value} {w : World} {K : Act → World → Prop} (ho : ops[i]? = some o) (q : Quiet1 P C ops o act v) (hC : C w) (h : ∀ w', C w' → K (act.put o.dst v) w') :
    Go.wpOp P ops Q i K act w := by
  unfold Go.wpOp
  simp only [ho]
  rcases q with ⟨hw, rfl⟩ | ⟨hw, q⟩
  · simp only [hw, Bool.false_eq_true, if_false]; exact h w hC
  · simp only [hw, if_true]
    left
    unfold Oper.wp
    rcases q w hC with q | ⟨f, args, q, hc⟩
    · rw [q]; exact h w hC
    · rw [q]
      exact hc.mono fun e w' ⟨he, hw'⟩ => by subst he; exact h w' hw'
def opN (P : Program) (o : Oper) (a : Act) (w : World) (next : Act → World → Prop) (out : Prop) : Prop :=
  match (execOp a.eval o).run P w with
  | .ok (.value v) w' => next (a.put o.dst v) w'
  | .ok .skip w' => next (a.put o.dst undef) w'
  | .ok (.defer d) w' => next ({ a with defers := d :: a.defers }.put o.dst undef) w'
  | .ok (.enter f args) w' => Calls P f args w' fun e w'' => match e with
    | .returned v => next (a.put o.dst v) w''
    | .panicked _ => False
    | .outgrown => out
  | _ => False
def wpN (P : Program) (ops : Array Oper) (Q : Exit → Act → World → Prop) : List Oper → Act → World → Prop
  | [], a, w => Q .normal a w
  | o :: rest, a, w => if Region.wanted o (yielded ops a.tmps) then opN P o a w (wpN P ops Q rest) (LetsOut Q) else wpN P ops Q rest (a.put o.dst undef) w
theorem opN_wp {o : Oper} {a : Act} {w : World} {next next' : Act → World → Prop} (h : opN P o a w next (LetsOut Q)) (hn : ∀ a w, next a w → next' a w) : o.wp P a w next' Q := by
  unfold opN at h
  unfold Oper.wp
  generalize (execOp a.eval o).run P w = r at *
  cases r with
  | ok n w' =>
    cases n <;> simp only [Oper.upon] at h ⊢ <;> first
      | exact hn _ _ h
      | exact h.elim
      | exact h.mono fun e w'' he => by
          cases e with
          | returned v => exact hn _ _ he
          | panicked c => exact he.elim
          | outgrown => exact he
  | halt x w' => exact h.elim
theorem wpN_list : ∀ {l : List Oper} {a : Act} {w : World}, wpN P ops Q l a w → wpList P ops Q l a w
  | [], _, _, h => h
  | o :: r, a, w, h => by
    simp only [wpN] at h
    simp only [wpList]
    split
    · rename_i hw; rw [if_pos hw] at h; exact .inl (opN_wp h fun _ _ h => wpN_list h)
    · rename_i hw; rw [if_neg hw] at h; exact wpN_list h
def left (m : Nat) (listed : Array Bool) : Nat := ((List.range m).filter fun j => !listed.getD j false).length
theorem left_set {m i : Nat} {listed : Array Bool} (hm : i < m) (hli : i < listed.size) (hiu : listed.getD i false = false) : left m listed = left m (listed.setIfInBounds i true) + 1 := by
  have key : ∀ (l : List Nat), l.Nodup → i ∈ l → (l.filter fun j => !listed.getD j false).length = (l.filter fun j => !(listed.setIfInBounds i true).getD j false).length + 1 := by
    intro l
    induction l with
    | nil => intro _ h; cases h
    | cons x r ihl =>
      intro hnd hmem
      rw [List.nodup_cons] at hnd
      by_cases hxi : x = i
      · subst hxi
        have hsame : (r.filter fun j => !listed.getD j false) = r.filter fun j => !(listed.setIfInBounds x true).getD j false := by
          apply List.filter_congr
          intro j hj
          have : x ≠ j := fun hh => hnd.1 (hh ▸ hj)
          rw [getD_set_ne false this]
        have hx1 : (listed.setIfInBounds x true).getD x false = true := by
          rw [Array.getD_eq_getD_getElem?]; simp [hli]
        rw [List.filter_cons_of_pos (by simp [hiu]), List.filter_cons_of_neg (by simp [hx1]), hsame]
        rfl
      · have hmem' : i ∈ r := by
          cases hmem with
          | head => exact (hxi rfl).elim
          | tail _ h => exact h
        have := ihl hnd.2 hmem'
        have hx1 : (listed.setIfInBounds i true).getD x false = listed.getD x false := getD_set_ne false (Ne.symm hxi)
        cases hx : listed.getD x false with
        | true => rw [List.filter_cons_of_neg (by simp [hx]), List.filter_cons_of_neg (by rw [hx1]; simp [hx])]; exact this
        | false =>
          rw [List.filter_cons_of_pos (by simp [hx]), List.filter_cons_of_pos (by rw [hx1]; simp [hx])]
          simp only [List.length_cons, this]
  exact key (List.range m) List.nodup_range (List.mem_range.2 hm)
theorem left_zero {m : Nat} {listed : Array Bool} (h : left m listed = 0) {j : Nat} (hj : j < m) : listed.getD j false = true := by
  have h0 := List.length_eq_zero_iff.1 h
  rw [List.filter_eq_nil_iff] at h0
  have := h0 j (List.mem_range.2 hj)
  simpa using this
theorem ready_un {listed : Array Bool} (hsz : listed.size = ops.size) {i : Nat} (hi : i ∈ Region.ready .any ops listed) :
    i < ops.size ∧ listed.getD i false = false ∧ ∃ o, ops[i]? = some o ∧ ∀ e ∈ o.after, Region.binds .any e = true → listed.getD e.on false = true := by
  obtain ⟨h0, o, ho, hall⟩ := mem_ready.1 hi
  have hlt : i < ops.size := (Array.getElem?_eq_some_iff.1 ho).1
  have hli : i < listed.size := by omega
  refine ⟨hlt, ?_, o, ho, hall⟩
  rw [Array.getD_eq_getD_getElem?] at h0 ⊢
  simp [hli] at h0 ⊢
  exact h0
theorem closed_put {D : Nat → Bool} (hc : Closed ops D) {i : Nat} {o : Oper} (ho : ops[i]? = some o) (hall : ∀ e ∈ o.after, Region.binds .any e = true → D e.on = true) : Closed ops (fun j => if j = i then true else D j) := by
  intro j oj hoj hD e he hb
  simp only at hD ⊢
  split
  · rfl
  · by_cases hji : j = i
    · subst hji; rw [ho] at hoj; cases hoj; exact hall e he hb
    · rw [if_neg hji] at hD; exact hc j oj hoj hD e he hb
theorem set_fun {listed : Array Bool} {i : Nat} (hli : i < listed.size) : (fun j => if j = i then true else listed.getD j false) = fun j => (listed.setIfInBounds i true).getD j false := by
  funext j
  by_cases hji : j = i
  · subst hji
    simp only [if_true]
    rw [Array.getD_eq_getD_getElem?]
    simp [hli]
  · rw [if_neg hji, getD_set_ne false (Ne.symm hji)]
section tail
variable {fl hd : Nat → Bool}
structure Rel (ops : Array Oper) (fl hd : Nat → Bool) (vals : Nat → Value) (a : Act) (D : Nat → Bool) (x y : Act) : Prop where
  defers : x.defers = y.defers
  size : x.tmps.size = a.tmps.size
  size' : y.tmps.size = a.tmps.size
  same : ∀ s, (∀ i, i < ops.size → fl i = true → D i = false → dstOf ops i ≠ some s) → x.tmps[s]? = y.tmps[s]?
  todo : ∀ i s, i < ops.size → fl i = true → D i = false → dstOf ops i = some s → y.tmps[s]? = if s < a.tmps.size then some (vals i) else none
  look : ∀ i o s, ops[i]? = some o → fl i = true → D i = false → s ∈ o.looksAt ops → x.tmps[s]? = (par ops vals a (fun j => (fl j || hd j) && D j) ops.size).tmps[s]?
theorem Rel.done {D : Nat → Bool} {x y : Act} (h : Rel ops fl hd vals a D x y) (hD : ∀ i, i < ops.size → D i = true) : x = y := by
  obtain ⟨xt, xd⟩ := x; obtain ⟨yt, yd⟩ := y
  have h1 : xd = yd := h.defers
  have h2 : xt = yt := Array.ext_getElem? fun s => h.same s fun i hi _ hDi => by rw [hD i hi] at hDi; cases hDi
  rw [h1, h2]
theorem put_get (x : Act) (d : Option Tmp) (v : Value) (s : Tmp) : (x.put d v).tmps[s]? = if d = some s then (if s < x.tmps.size then some v else none) else x.tmps[s]? := by
  by_cases h : d = some s
  · subst h; simp only [if_true]; exact put_self x s v
  · rw [if_neg h, put_other x h]
theorem Rel.tail (hf : RegFacts ops fl hd) {D : Nat → Bool} (hcl : Closed ops D) {x y x' y' : Act} (h : Rel ops fl hd vals a D x y) {t : Nat} {o : Oper} (ho : ops[t]? = some o) (hT : (fl t || hd t) = false)
    (hall : ∀ e ∈ o.after, Region.binds .any e = true → D e.on = true) {v : Value} (hx : x'.tmps = (x.put o.dst v).tmps) (hy : y'.tmps = (y.put o.dst v).tmps) (hdf : x'.defers = y'.defers) :
    Rel ops fl hd vals a (fun j => if j = t then true else D j) x' y' := by
  have hdst : dstOf ops t = o.dst := by simp [dstOf, ho]
  have hlt : t < ops.size := (Array.getElem?_eq_some_iff.1 ho).1
  have hnt : ∀ i, fl i = true → i ≠ t := fun i hi hh => by subst hh; simp [hi] at hT
  refine ⟨hdf, by rw [hx, put_size, h.size], by rw [hy, put_size, h.size'], fun s hs => ?_, fun i s hi hfi hDi hs => ?_, fun i oi s hoi hfi hDi hs => ?_⟩
  · rw [hx, hy, put_get, put_get, h.size, h.size']
    split
    · rfl
    · exact h.same s fun i hi hfi hDi => hs i hi hfi (by rw [if_neg (hnt i hfi)]; exact hDi)
  · rw [if_neg (hnt i hfi)] at hDi
    rw [hy, put_get, if_neg]
    · exact h.todo i s hi hfi hDi hs
    · rw [← hdst]; exact hf.two i t s hfi hT hs
  · rw [if_neg (hnt i hfi)] at hDi
    have hne : o.dst ≠ some s := fun hh => by
      have := hf.lookT i oi s hoi hfi hs t hT (by rw [hdst]; exact hh) D hcl o ho hall
      rw [hDi] at this; cases this
    rw [hx, put_other _ hne, h.look i oi s hoi hfi hDi hs]
    refine par_agree ops.size fun j hj hjd => ?_
    by_cases hjt : j = t
    · subst hjt; rw [hdst] at hjd; exact (hne hjd).elim
    · simp [hjt]
theorem Rel.float (hf : RegFacts ops fl hd) {D : Nat → Bool} {x y : Act} (h : Rel ops fl hd vals a D x y) {i : Nat} {o : Oper} (ho : ops[i]? = some o) (hi : fl i = true) (hDi : D i = false) :
    Rel ops fl hd vals a (fun j => if j = i then true else D j) (x.put o.dst (vals i)) y := by
  have hdst : dstOf ops i = o.dst := by simp [dstOf, ho]
  have hlt : i < ops.size := (Array.getElem?_eq_some_iff.1 ho).1
  refine ⟨by rw [put_defers]; exact h.defers, by rw [put_size, h.size], h.size', fun s hs => ?_, fun j s hj hfj hDj hs => ?_, fun j oj s hoj hfj hDj hs => ?_⟩
  · rw [put_get]
    split
    · rename_i hd'
      rw [h.size, h.todo i s hlt hi hDi (by rw [hdst]; exact hd')]
    · rename_i hd'
      refine h.same s fun j hj hfj hDj hjs => ?_
      by_cases hji : j = i
      · subst hji; rw [hdst] at hjs; exact hd' hjs
      · exact hs j hj hfj (by rw [if_neg hji]; exact hDj) hjs
  · by_cases hji : j = i
    · subst hji; simp at hDj
    · rw [if_neg hji] at hDj; exact h.todo j s hj hfj hDj hs
  · by_cases hji : j = i
    · subst hji; simp at hDj
    · rw [if_neg hji] at hDj
      have e : (fun k => (fl k || hd k) && (if k = i then true else D k)) = fun k => if k = i then true else ((fl k || hd k) && D k) := by
        funext k
        by_cases hk : k = i
        · subst hk; simp [hi]
        · simp [hk]
      have hpar := @par_put ops a vals (fun k => (fl k || hd k) && D k) i ops.size hlt (fun j hj hne hDj s hs => by
        simp only [Bool.and_eq_true] at hDj
        exact hf.one i j s (by simp [hi]) hDj.1 hne hs)
      rw [e, ← hpar, hdst, put_get, put_get, h.size, par_size]
      split
      · rfl
      · exact h.look j oj s hoj hfj hDj hs
def Float1 (P : Program) (ops : Array Oper) (o : Oper) (act : Act) (v : Value) : Prop :=
  (Region.wanted o (yielded ops act.tmps) = false ∧ v = undef) ∨
  (Region.wanted o (yielded ops act.tmps) = true ∧ ∀ w, (execOp act.eval o).run P w = .ok (.value v) w)
theorem Float1.slot {o : Oper} {x y : Act} {v : Value} (hs : ∀ cs b, o.op ≠ .select cs b) (h : ∀ d ∈ o.looksAt ops, x.tmps[d]? = y.tmps[d]?) (q : Float1 P ops o x v) : Float1 P ops o y v := by
  unfold Float1 at *
  rw [← exec_slot hs h, ← wanted_slot h]
  exact q
theorem Float1.wpOp {i : Nat} {o : Oper} {act : Act} {v : Value} {w : World} {K : Act → World → Prop} (ho : ops[i]? = some o) (q : Float1 P ops o act v) (h : K (act.put o.dst v) w) :
    Go.wpOp P ops Q i K act w := by
  unfold Go.wpOp
  simp only [ho]
  rcases q with ⟨hw, rfl⟩ | ⟨hw, q⟩
  · simp only [hw, Bool.false_eq_true, if_false]; exact h
  · simp only [hw, if_true]
    left
    unfold Oper.wp
    rw [q]; exact h
end tail
end
end Go.Sy
