/- Steps of operations and exits are sound; runs are sound. -/
import Derived.Test.YtlclcnkmdbmceaaSyJ
set_option linter.unusedVariables false
set_option linter.unusedSimpArgs false
namespace Go.Sy
open Go Go.RowKit
variable {E : Env} {β : Nat → Bk} {p : Prm} {w : World} {Q : Exit → Act → World → Prop}

theorem readOp_ok (hg : p.gm.ok β) {F : Fx} (hF : Facts E F) {h : List SBlk} (hw : HOk E β h w) {tmps : Tm} {ds : List Deferred} {o : Oper} {v : SV}
    (hr : readOp p.P p.gm F h tmps o.op = .val v) : (execOp (actD E β tmps ds).eval o).run p.P w = .ok (.value (v.den E β)) w := by
  unfold readOp at hr
  split at hr
  · rename_i T a ho
    obtain ⟨u, hu, hr⟩ := bind1_val hr
    simp only [execOp, ho, ev_ok hg hu]
    exact val_run (sLoad_ok hF hw hr)
  · split at hr
    · exact pure_ok hg hF hw hr
    · exact sOwn_ok hg hF hw hr

theorem put_undef (tmps : Tm) (ds : List SD) (dst : Option Tmp) : actS E β (putS tmps dst (.tup [])) ds = (actS E β tmps ds).put dst undef := by
  rw [putS_ok]; simp [SV.den, SV.denL, undef]

theorem wpN_value {P : Program} {all : Array Oper} {o : Oper} {rest : List Oper} {a : Act} {v : Value} {w' : World} (hwt : Region.wanted o (yielded all a.tmps) = true)
    (hx : (execOp a.eval o).run P w = .ok (.value v) w') (h : wpN P all Q rest (a.put o.dst v) w') : wpN P all Q (o :: rest) a w := by
  simp only [wpN, hwt, if_true]
  unfold opN
  rw [hx]
  exact h
theorem wpN_sk {P : Program} {all : Array Oper} {o : Oper} {rest : List Oper} {a : Act} {w' : World} (hwt : Region.wanted o (yielded all a.tmps) = true)
    (hx : (execOp a.eval o).run P w = .ok .skip w') (h : wpN P all Q rest (a.put o.dst undef) w') : wpN P all Q (o :: rest) a w := by
  simp only [wpN, hwt, if_true]
  unfold opN
  rw [hx]
  exact h

theorem benign_leaves (hp : PrmOk E p) {fn : Func} {tmps : Array Value} {R : Ending → World → Prop} : ∀ {ds : List SD}, ds.all (SD.fine p) = true →
    (∃ v, (results fn tmps).run p.P w = .ok v w ∧ R (.returned v) w) → Leaves p.P fn tmps R (ds.map (SD.den E β)) .returning w
  | [], _, h => h
  | d :: ds, hd, h => by
    simp only [List.all_cons, Bool.and_eq_true, SD.fine, decide_eq_true_eq, beq_iff_eq] at hd
    obtain ⟨⟨hin, hlen⟩, hr⟩ := hd
    obtain ⟨v, hv⟩ : ∃ v, d.args ++ d.cap = [v] := by
      have : (d.args ++ d.cap).length = 1 := by simp [hlen]
      match d.args ++ d.cap, this with
      | [v], _ => exact ⟨v, rfl⟩
    have hargs : (SV.denL E β d.args).toArray ++ (SV.denL E β d.cap).toArray = #[v.den E β] := by
      have := congrArg (SV.denL E β) hv
      rw [SV.denL_map, List.map_append] at this
      rw [SV.denL_map, SV.denL_map]
      simp [SV.denL] at this
      simp [this]
    refine ⟨by simp, .func d.fn, _, d.fn, #[v.den E β], rfl, ?_, ?_⟩
    · simp only [SD.den, invoke]
      rw [hargs, hp.okf _ (hp.dfk _ hin)]
    · obtain hh := hp.dfr _ hin (v.den E β) w
      intro c cs hc
      obtain ⟨e, u', w', fr, ⟨⟨x, hx⟩, hu, hww⟩, rest⟩ := hh c cs hc
      refine ⟨e, u', w', fr, ?_, rest⟩
      rw [hx, hu, hww]
      show Leaves p.P fn tmps R (ds.map (SD.den E β)) (settle .returning) w
      exact benign_leaves hp hr h

theorem hok_below {h : List SBlk} (hw : HOk E β h w) {w' : World} (b : Below w.heap.size w w') : HOk E β h w' ∧ Ext E h β w E h β w' :=
  ⟨⟨hw.dis, fun i s x hi hr => Nat.lt_of_lt_of_le (hw.lt i s x hi hr) b.size, fun i s hs => SBlk.ok_frame (fun x hr => b.block _ (hw.lt i s x hs hr)) (hw.ok i s hs)⟩,
   ⟨Nat.le_refl _, fun _ _ => rfl, fun _ s _ h k => ⟨s, h, k⟩, fun i s x h1 h2 => .inr ⟨i, s, h1, h2, .inr rfl⟩, b.size, fun c hc _ => b.block c hc, b.os, b.tape, b.output⟩⟩
theorem below_ext {h h' : List SBlk} {β' : Nat → Bk} {w' : World} (hw : HOk E β h w) (x : Ext E h β w E h' β' w') (hw' : HOk E β' h' w') (hk : keptH h.length h h' = true) : Below w.heap.size w w' := by
  refine ⟨x.os, x.tape, x.output, x.size, fun b hb => ?_⟩
  by_cases hex : ∃ (i : Nat) (s : SBlk), h[i]? = some s ∧ s.wr (β i) ∧ s.at E (β i) b
  · obtain ⟨i, s, hi, hc, hat⟩ := hex
    cases s with
    | cells l S =>
      obtain rfl := hat.2
      have hil := (List.getElem?_eq_some_iff.1 hi).1
      obtain ⟨h1, h2⟩ := keptH_ok hk i l S hi
      have o1 := hw.ok i _ hi
      have o2 := hw'.ok i _ h1
      simp only [SBlk.ok] at o1 o2
      rw [x.agree i hil] at o2
      rw [o1.2, o2.2, SV.denL_agree x.agree l h2]
    | row a ks n l S => exact (keptH_row hk i a ks n l S hi).elim
    | pr k l => exact (keptH_pr hk i k l hi).elim
    | arr => exact hc.elim
    | any => exact hc.elim
    | dead => exact hc.elim
  · exact x.same b hb fun i s hi hc hbi => hex ⟨i, s, hi, hc, hbi⟩
theorem below_trans {w1 w2 w3 : World} (a : Below w1.heap.size w1 w2) (b : Below w2.heap.size w2 w3) : Below w1.heap.size w1 w3 :=
  a.trans (b.mono a.size)

/-- What is to be shown of a leaf. -/
def LeafOk (E : Env) (p : Prm) (Q : Exit → Act → World → Prop) (nv : Nat) (h : List SBlk) (β : Nat → Bk) (w : World) (l : Bool × Cf) : Prop :=
  ∀ E', RelE p nv E l.2.nv E' → Facts E' l.2.facts → (l.1 = false ∧ ∀ β' w', Ext E h β w E' l.2.heap β' w' → HOk E' β' l.2.heap w' → l.2.wp E' β' p Q w')
/-- A sub-run that may be trusted, from configurations over this heap. -/
def SubOk (E : Env) (p : Prm) (h : List SBlk) (sub : Cf → List (Bool × Cf)) : Prop :=
  ∀ (c : Cf) (β : Nat → Bk) (w : World) (Q : Exit → Act → World → Prop), c.heap.length = h.length → p.gm.ok β → Facts E c.facts → HOk E β c.heap w → (∀ l ∈ sub c, LeafOk E p Q c.nv c.heap β w l) → c.wp E β p Q w

theorem quietCall_ok (hp : PrmOk E p) (hg : p.gm.ok β) {sub : Cf → List (Bool × Cf)} {c : Cf} (hsub : SubOk E p c.heap sub) (hF : Facts E c.facts) (hw : HOk E β c.heap w) {g : FuncId} {args : List SV} {v : SV}
    (h : quietCall p sub c g args = .val v) : Calls p.P g (SV.denL E β args).toArray w fun e w' => e = .returned (v.den E β) ∧ Below w.heap.size w w' := by
  unfold quietCall at h
  split at h
  · rename_i fn hfn
    split at h
    · rename_i b hb
      have fin : ∀ (l : Cf) (e : SX), sub { c with tmps := Tm.entry args fn.ntmps, ds := [], heap := c.heap.map SBlk.unrow, fo := .code b, k := [], fid := g } = [(false, l)] → l.k = [] → l.fo = .exit e → (e = .normal ∨ e = .ret) →
          (if l.ds.all (SD.fine p) && keptH c.heap.length (c.heap.map SBlk.unrow) l.heap && Nat.beq l.nv c.nv then
            match sRes p.P l.facts l.heap l.tmps fn.results.toList with
            | some v => if v.bnd c.heap.length then RP.val v else .no
            | none => .no
          else .no) = .val v → Calls p.P g (SV.denL E β args).toArray w fun e w' => e = .returned (v.den E β) ∧ Below w.heap.size w w' := by
        intro l e hs hk hfo he h
        split at h
        · rename_i hc
          simp only [Bool.and_eq_true] at hc
          split at h
          · rename_i u hu
            split at h
            · rename_i hbnd
              cases h
              refine calls_of_wp_defers hfn hb ?_
              have ea : ({ tmps := (SV.denL E β args).toArray ++ Array.replicate (fn.ntmps - (SV.denL E β args).toArray.size) undef, defers := [] } : Act) = actS E β (Tm.entry args fn.ntmps) [] := by
                unfold actS actD
                rw [Tm.entry_den]; rfl
              rw [ea]
              have := hsub { c with tmps := Tm.entry args fn.ntmps, ds := [], heap := c.heap.map SBlk.unrow, fo := .code b, k := [], fid := g } β w (bodyPostD p.P fn fun e w' => e = .returned (v.den E β) ∧ Below w.heap.size w w') (by simp) hg hF (hok_unrow hw)
                (fun l' hl' => by
                  rw [hs] at hl'
                  simp only [List.mem_singleton] at hl'
                  subst hl'
                  intro E' hR hFl
                  have hnv : l.nv = c.nv := Nat.eq_of_beq_eq_true hc.2
                  have hEE := (hR.2.2 (.inl hnv)).symm
                  subst hEE
                  refine ⟨rfl, fun β' w' x hw' => ?_⟩
                  simp only [Cf.wp, hfo, hk, kpost]
                  have hL : Leaves p.P fn (l.tmps.den E β') (fun e w' => e = .returned (v.den E β) ∧ Below w.heap.size w w') (l.ds.map (SD.den E β')) .returning w' :=
                    benign_leaves hp hc.1.1 ⟨_, sRes_ok hFl hw' hu, by rw [SV.den_agree (fun i hi => x.agree i (by simpa using hi)) v hbnd], below_ext (hok_unrow hw) x hw' (by simpa using hc.1.2)⟩
                  rcases he with rfl | rfl <;> exact hL)
              simp only [Cf.wp, kpost] at this
              exact this
            · cases h
          · cases h
        · cases h
      split at h
      · rename_i l hs
        split at h
        · rename_i hk hfo; exact fin l .normal hs hk hfo (Or.inl rfl) h
        · rename_i hk hfo; exact fin l .ret hs hk hfo (Or.inr rfl) h
        · cases h
      · cases h
      · split at h <;> cases h
      · cases h
    · cases h
  · cases h
theorem allSame_ok : ∀ {l m : List SBlk}, allSame l m = true → ∀ (i : Nat) (s : SBlk), l[i]? = some s → m[i]? = some s ∧ (∀ a ks n t T, s ≠ .row a ks n t T) ∧ ∀ k q, s ≠ .pr k q
  | [], m, _, i, s, h => by simp at h
  | p :: r, [], h, i, s, _ => by simp [allSame] at h
  | p :: r, q :: t, h, i, s, hs => by
    simp only [allSame, Bool.and_eq_true] at h
    cases i with
    | zero =>
      simp at hs
      subst hs
      refine ⟨by rw [SBlk.same_ok h.1.1]; rfl, fun a ks n t T he => ?_, fun k q he => ?_⟩
      · subst he
        simp at h
      · subst he
        simp at h
    | succ i => simp only [List.getElem?_cons_succ] at hs ⊢; exact allSame_ok h.2 i s hs
theorem quietCt_ok (hp : PrmOk E p) (hg : p.gm.ok β) {c : Cf} (hF : Facts E c.facts) (hw : HOk E β c.heap w) {ct : Ct} (hct : ct ∈ p.ct) {args : List SV} {v : SV}
    (h : quietCt p c ct args = .val v) : Calls p.P ct.g (SV.denL E β args).toArray w fun e w' => e = .returned (v.den E β) ∧ Below w.heap.size w w' := by
  unfold quietCt at h
  simp only at h
  generalize mCall p.gm ct args c.heap = S at h
  split at h
  · rename_i hc
    split at h
    · rename_i a ha
      split at h
      · rename_i hb
        cases h
        simp only [Bool.and_eq_true] at hb
        obtain ⟨⟨⟨⟨hb0, hb1⟩, hb2⟩, hb3⟩, hb4⟩ := hb
        have hnx : ct.nx = 0 := Nat.eq_of_beq_eq_true hb0
        have hch : chkHeap S c.facts ct.heap c.heap = true := by
          unfold chkCall at hc
          simp only [Bool.and_eq_true] at hc
          exact hc.1.2
        have hm := hok_match (E := E) (β := β) (w := w) hF hw hch
        refine (chkCall_ok hp hg hF hw hct hc ha).2.mono fun e w' ⟨β0, V, e1, e2, e3, _⟩ => ?_
        rw [hnx, Env.upd_zero] at e1 e2 e3
        have hag : ∀ i, i < ct.heap.length → β0 i = bsub E β c.heap S i := fun i hi => e3.agree i hi
        refine ⟨?_, e3.os, e3.tape, e3.output, e3.size, fun b hbl => ?_⟩
        · rw [e1, SV.inst_ok (E := E) (bsub_map (E := E) (β := β) (h := c.heap) (S := S)) a.res hb2, SV.den_agree hag a.res hb3]
        · by_cases hex : ∃ (i : Nat) (s : SBlk), ct.heap[i]? = some s ∧ s.wr (bsub E β c.heap S i) ∧ s.at (E.sub β S) (bsub E β c.heap S i) b
          · obtain ⟨i, s, h1, h2, h3⟩ := hex
            obtain ⟨g1, g2, g3⟩ := allSame_ok hb1 i s h1
            cases s with
            | cells l T =>
              obtain rfl := h3.2
              have k1 := hm.ok i _ h1
              have k2 := e2.ok i _ g1
              rw [hag i (List.getElem?_eq_some_iff.1 h1).1] at k2
              have hbl : SV.bndL ct.heap.length l = true := List.all_eq_true.1 hb4 _ (List.mem_of_getElem? h1)
              simp only [SBlk.ok] at k1 k2
              rw [SV.denL_agree hag l hbl] at k2
              rw [k1.2, k2.2]
            | row a ks n t T => exact (g2 a ks n t T rfl).elim
            | pr k l => exact (g3 k l rfl).elim
            | _ => exact h2.elim
          · exact e3.same b hbl fun i s h1 h2 h3 => hex ⟨i, s, h1, h2, h3⟩
      · cases h
    · cases h
    · cases h
    · cases h
  · cases h
theorem btRead_ok (hp : PrmOk E p) (hg : p.gm.ok β) {F : Fx} (hF : Facts E F) {h : List SBlk} (hw : HOk E β h w) {t : Tm} {ds : List Deferred} {o : Oper} {v : SV} : ∀ {bs : List Bt}, (∀ b ∈ bs, b ∈ p.bt) → btRead p F h t o.op bs = .val v →
    (execOp (actD E β t ds).eval o).run p.P w = .ok (.value (v.den E β)) w
  | [], _, h => by simp [btRead] at h
  | b :: r, hb, h => by
    have next : btRead p F _ t o.op r = .val v → (execOp (actD E β t ds).eval o).run p.P w = .ok (.value (v.den E β)) w := fun h => btRead_ok (bs := r) hp hg hF hw (fun b' hb' => hb b' (by simp [hb'])) h
    simp only [btRead] at h
    split at h
    · rename_i hrd
      simp only [Bool.and_eq_true] at hrd
      have hnx : b.ct.nx = 0 := Nat.eq_of_beq_eq_true hrd.2
      split at h
      · rename_i xs hsel
        split at h
        · rename_i args hargs
          try simp only at h
          generalize mCall p.gm b.ct args _ = S at h
          split at h
          · rename_i hc
            split at h
            · rename_i a ha
              split at h
              · rename_i hb2
                cases h
                simp only [Bool.and_eq_true] at hb2
                obtain ⟨_, v', w', h1, h2, β0, V, h3, h4, h5, _⟩ := chkBt_ok hp hg hF hw (hb b (by simp)) hc ha hsel (evL_ok (ds := ds) hg hargs)
                obtain rfl := h2 hrd.1
                rw [hnx, Env.upd_zero] at h3 h5
                have hv : (a.res.inst S).den E β = v' := by
                  rw [h3, SV.inst_ok (E := E) (bsub_map (E := E) (β := β) (h := _) (S := S)) a.res hb2.1, SV.den_agree (fun i hi => h5.agree i hi) a.res hb2.2]
                rw [hv]
                rcases h1 with h1 | ⟨h1, _⟩
                · exact h1
                · rw [hrd.1] at h1; cases h1
              · cases h
            · cases h
            · cases h
            · exact next h
          · exact next h
        · exact next h
      · exact next h
    · exact next h
theorem callS_ok (hp : PrmOk E p) (hg : p.gm.ok β) {sub : Cf → List (Bool × Cf)} {c : Cf} (hsub : SubOk E p c.heap sub) (hF : Facts E c.facts) (hw : HOk E β c.heap w) {g : FuncId} {args : List SV} {v : SV}
    (h : callS p sub c g args = .val v) : Calls p.P g (SV.denL E β args).toArray w fun e w' => e = .returned (v.den E β) ∧ Below w.heap.size w w' := by
  unfold callS at h
  split at h
  · cases h
  split at h
  · rename_i ct hct
    obtain ⟨h1, h2⟩ := ctFind_ok hct
    rw [← h2]
    exact quietCt_ok hp hg hF hw h1 h
  · exact quietCall_ok hp hg hsub hF hw h
theorem par_upto {ops : Array Oper} {vals : Nat → Value} {a : Act} (D : Nat → Bool) (n i : Nat) (h : i ≤ n) : par ops vals a (fun j => D j && decide (j < i)) n = par ops vals a D i := by
  have h1 : ∀ k, k ≤ i → par ops vals a (fun j => D j && decide (j < i)) k = par ops vals a D k := by
    intro k
    induction k with
    | zero => intro _; rfl
    | succ k ih => intro hk; simp only [par, show k < i by omega, decide_true, Bool.and_true, ih (by omega)]
  have h2 : ∀ d, par ops vals a (fun j => D j && decide (j < i)) (i + d) = par ops vals a (fun j => D j && decide (j < i)) i := by
    intro d
    induction d with
    | zero => rfl
    | succ d ih => rw [← Nat.add_assoc]; simp only [par, show ¬ (i + d < i) by omega, decide_false, Bool.and_false, Bool.false_eq_true, if_false, ih]
  rw [show n = i + (n - i) by omega, h2, h1 i (Nat.le_refl _)]
theorem hok_nil : HOk E β [] w := ⟨fun i j s t x h => by simp at h, fun i s x h => by simp at h, fun i s h => by simp at h⟩
theorem headGo_ok (hp : PrmOk E p) (hg : p.gm.ok β) {sub : Cf → List (Bool × Cf)} {c : Cf} (hsub : SubOk E p c.heap sub) (hF : Facts E c.facts) (hw : HOk E β c.heap w) {all : Array Oper} {ds : List SD} {a : Act} {vals : Nat → Value} {fl hd : Nat → Bool}
    {t' : Tm} {vs' : List SV} {ks' : List Nat} (hv : ∀ i, vals i = (vs'.getD i (.tup [])).den E β) (hfl : fl = kFl ks') (hhd : hd = kHd ks') : ∀ (l : List Oper) (t : Tm) (vs : List SV) (ks : List Nat) (td : List Tmp) (on : Bool), ks.length = vs.length → (∀ j, l[j]? = all[vs.length + j]?) →
    actS E β t ds = par all vals a (fun j => fl j || hd j) vs.length →
    (∀ i o, i < vs.length → all[i]? = some o → (fl i = true → Float1 p.P all o (par all vals a (fun j => fl j || hd j) i) (vals i)) ∧ (hd i = true → fl i = false → Quiet1 p.P (fun w' => Below w.heap.size w w') all o (par all vals a (fun j => fl j || hd j) i) (vals i))) →
    headGo p sub c all l t vs ks td on = .done t' vs' ks' →
    actS E β t' ds = par all vals a (fun j => fl j || hd j) all.size ∧
    (∀ i o, all[i]? = some o → (fl i = true → Float1 p.P all o (par all vals a (fun j => fl j || hd j) i) (vals i)) ∧ (hd i = true → fl i = false → Quiet1 p.P (fun w' => Below w.heap.size w w') all o (par all vals a (fun j => fl j || hd j) i) (vals i))) := by
  have grow : ∀ (l : List Oper) (t : Tm) (vs : List SV) (ks : List Nat) (td : List Tmp) (on : Bool), headGo p sub c all l t vs ks td on = .done t' vs' ks' → (∃ more, vs' = vs ++ more) ∧ (∃ more, ks' = ks ++ more) := by
    intro l
    induction l with
    | nil => intro t vs ks td on h; simp only [headGo] at h; cases h; exact ⟨⟨[], by simp⟩, ⟨[], by simp⟩⟩
    | cons o r ih =>
      intro t vs ks td on h
      have go : ∀ t u k td on, headGo p sub c all r t (vs ++ [u]) (ks ++ [k]) td on = .done t' vs' ks' → (∃ more, vs' = vs ++ more) ∧ (∃ more, ks' = ks ++ more) := fun t u k td on h => by
        obtain ⟨⟨m, hm⟩, ⟨n, hn⟩⟩ := ih _ _ _ _ _ h; exact ⟨⟨u :: m, by rw [hm]; simp⟩, ⟨k :: n, by rw [hn]; simp⟩⟩
      simp only [headGo] at h
      split at h
      · exact go _ _ _ _ _ h
      split at h
      · exact go _ _ _ _ _ h
      · cases h
      · cases h
      split at h
      · exact go _ _ _ _ _ h
      · cases h
      · cases h
      split at h
      · exact go _ _ _ _ _ h
      split at h
      · exact go _ _ _ _ _ h
      · cases h
      · cases h
      split at h
      · exact go _ _ _ _ _ h
      · cases h
      · cases h
      split at h
      · split at h
        · split at h
          · exact go _ _ _ _ _ h
          · cases h
          · cases h
          · exact go _ _ _ _ _ h
        · exact go _ _ _ _ _ h
      · exact go _ _ _ _ _ h
  intro l
  induction l with
  | nil =>
    intro t vs ks td on hlen hl ha hq h
    simp only [headGo] at h
    cases h
    have hsz : all.size ≤ vs'.length := by
      have := hl 0
      simp at this
      omega
    have hbig : ∀ i o, all[i]? = some o → i < vs'.length := fun i o ho => by
      have := (Array.getElem?_eq_some_iff.1 ho).1; omega
    refine ⟨?_, fun i o ho => hq i o (hbig i o ho) ho⟩
    rw [ha]
    have : ∀ d, par all vals a (fun j => fl j || hd j) (all.size + d) = par all vals a (fun j => fl j || hd j) all.size := by
      intro d
      induction d with
      | zero => rfl
      | succ d ih =>
        rw [← Nat.add_assoc]
        simp only [par, ih]
        have : dstOf all (all.size + d) = none := by simp [dstOf]
        rw [this]
        split <;> rfl
    rw [show vs'.length = all.size + (vs'.length - all.size) by omega, this]
  | cons o r ih =>
    intro t vs ks td on hlen hl ha hq h
    have ho : all[vs.length]? = some o := by have := hl 0; simpa using this.symm
    have stepv : ∀ (u : SV) (k : Nat) (act' : Tm) (td : List Tmp) (on : Bool), headGo p sub c all r act' (vs ++ [u]) (ks ++ [k]) td on = .done t' vs' ks' →
        actS E β act' ds = (if k = 2 then actS E β t ds else (actS E β t ds).put o.dst (u.den E β)) → (k = 0 ∨ k = 1 ∨ k = 2) →
        (k = 0 → Float1 p.P all o (actS E β t ds) (u.den E β)) → (k = 1 → Quiet1 p.P (fun w' => Below w.heap.size w w') all o (actS E β t ds) (u.den E β)) →
        actS E β t' ds = par all vals a (fun j => fl j || hd j) all.size ∧
        (∀ i o, all[i]? = some o → (fl i = true → Float1 p.P all o (par all vals a (fun j => fl j || hd j) i) (vals i)) ∧ (hd i = true → fl i = false → Quiet1 p.P (fun w' => Below w.heap.size w w') all o (par all vals a (fun j => fl j || hd j) i) (vals i))) := fun u k act' td on hgo hact hk0 hfq hhq => by
      obtain ⟨⟨m, hm⟩, ⟨n, hn⟩⟩ := grow _ _ _ _ _ _ hgo
      have hval : vals vs.length = u.den E β := by
        rw [hv vs.length, hm]
        simp [List.getD_eq_getElem?_getD]
      have hkk : ks'.getD vs.length 2 = k := by
        rw [hn, ← hlen]
        simp [List.getD_eq_getElem?_getD]
      have hf : fl vs.length = (k == 0) := by rw [hfl]; show (ks'.getD vs.length 2 == 0) = _; rw [hkk]
      have hh : hd vs.length = (k == 1) := by rw [hhd]; show (ks'.getD vs.length 2 == 1) = _; rw [hkk]
      refine ih act' (vs ++ [u]) (ks ++ [k]) td on (by simp [hlen]) (fun j => ?_) ?_ ?_ hgo
      · have := hl (j + 1)
        simp only [List.getElem?_cons_succ] at this
        rw [this]; simp; congr 1; omega
      · simp only [List.length_append, List.length_singleton, par]
        rw [hact, hf, hh]
        rcases hk0 with rfl | rfl | rfl
        · simp [ha, hval, dstOf, ho]
        · simp [ha, hval, dstOf, ho]
        · simp [ha]
      · intro i oi hi hoi
        simp only [List.length_append, List.length_singleton] at hi
        rcases Nat.lt_or_ge i vs.length with h1 | h1
        · exact hq i oi h1 hoi
        · have : i = vs.length := by omega
          subst this
          rw [ho] at hoi; cases hoi
          rw [hval, ← ha, hf, hh]
          exact ⟨fun hk => hfq (by simpa using hk), fun hk _ => hhq (by simpa using hk)⟩
    have late : headGo p sub c all r t (vs ++ [.tup []]) (ks ++ [2]) (o.dst.toList ++ td) true = .done t' vs' ks' → _ := fun h => stepv (.tup []) 2 t _ _ h (by simp) (by simp) (by simp) (by simp)
    simp only [headGo] at h
    split at h
    · exact late h
    split at h
    · rename_i hgd
      exact stepv (.tup []) 0 _ _ _ h (by rw [putS_ok]; rfl) (by simp) (fun _ => .inl ⟨guardS_skip hF hgd, by simp [SV.den, SV.denL, undef]⟩) (by simp)
    · cases h
    · cases h
    rename_i hgd
    have hwt := guardS_run (β := β) (ds := ds) hF hgd
    split at h
    · rename_i v hv'
      exact stepv v 0 _ _ _ h (by rw [putS_ok]; rfl) (by simp) (fun _ => .inr ⟨hwt, fun w' => pure_ok hg hF hok_nil hv'⟩) (by simp)
    · cases h
    · cases h
    split at h
    · exact late h
    split at h
    · rename_i v hv'
      exact stepv v 1 _ _ _ h (by rw [putS_ok]; rfl) (by simp) (by simp) (fun _ => .inr ⟨hwt, fun w' hw' => .inl (readOp_ok hg hF (hok_below hw hw').1 hv')⟩)
    · cases h
    · cases h
    split at h
    · rename_i v hv'
      exact stepv v 1 _ _ _ h (by rw [putS_ok]; rfl) (by simp) (by simp) (fun _ => .inr ⟨hwt, fun w' hw' => .inl (btRead_ok hp hg hF (hok_below hw hw').1 (fun b hb => hb) hv')⟩)
    · cases h
    · cases h
    split at h
    · rename_i cl hcl
      split at h
      · rename_i g args hc
        split at h
        · rename_i v hv'
          refine stepv v 1 _ _ _ h (by rw [putS_ok]; rfl) (by simp) (by simp) (fun _ => .inr ⟨hwt, fun w' hw' => .inr ⟨g, (SV.denL E β args).toArray, ?_, ?_⟩⟩)
          · exact (sCall_ok (E := E) (w := w') (ds := ds.map (SD.den E β)) hp hg hcl hc).1
          · exact (callS_ok hp hg hsub hF (hok_below hw hw').1 hv').mono fun e w'' ⟨h1, h2⟩ => ⟨h1, below_trans hw' h2⟩
        · cases h
        · cases h
        · exact late h
      · exact late h
    · exact late h
theorem stepCode_ok (hp : PrmOk E p) (hg : p.gm.ok β) {sub : Cf → List (Bool × Cf)} {c c' : Cf} {x : Code} (hsub : SubOk E p c.heap sub) (hb : ∀ q ∈ p.gm, q.2 < c.heap.length) (hF : Facts E c.facts) (hw : HOk E β c.heap w) (hx : c.fo = .code x) (h : stepCode p sub c x = .next c') : Sound E β p Q c w c' ∧ Facts E c'.facts := by
  unfold Sound
  unfold stepCode at h
  split at h
  · cases h
    refine ⟨fun H => ?_, hF⟩
    have := H β w (Ext.refl _ _ _ _) hw
    simp only [Cf.wp, hx] at this ⊢
    exact wp_skip this
  · cases h
    refine ⟨fun H => ?_, hF⟩
    have := H β w (Ext.refl _ _ _ _) hw
    simp only [Cf.wp, hx, kpost] at this ⊢
    exact wp_seq this
  · rename_i s a b
    split at h
    · rename_i t ht
      have he := ev_ok (E := E) (ds := c.ds.map (SD.den E β)) hg ht
      split at h
      · rename_i hd
        cases h
        refine ⟨fun H => ?_, hF⟩
        have := H β w (Ext.refl _ _ _ _) hw
        simp only [Cf.wp, hx] at this ⊢
        refine wp_cond_true ?_ this
        show (actD E β c.tmps _).eval s = _
        rw [he, SV.den, dec_ok hF hd]
      · rename_i hd
        cases h
        refine ⟨fun H => ?_, hF⟩
        have := H β w (Ext.refl _ _ _ _) hw
        simp only [Cf.wp, hx] at this ⊢
        refine wp_cond_false ?_ this
        show (actD E β c.tmps _).eval s = _
        rw [he, SV.den, dec_ok hF hd]
      · cases h
    · cases h
  · cases h
    refine ⟨fun H => ?_, hF⟩
    have := H β w (Ext.refl _ _ _ _) hw
    simp only [Cf.wp, hx, kpost] at this ⊢
    exact wp_block this
  · split at h
    · cases h
    · cases h
      refine ⟨fun H => ?_, hF⟩
      have := H β w (Ext.refl _ _ _ _) hw
      simp only [Cf.wp, hx, kpost] at this ⊢
      exact loop_of this
  · cases h
    refine ⟨fun H => ?_, hF⟩
    have := H β w (Ext.refl _ _ _ _) hw
    simp only [Cf.wp, hx] at this ⊢
    exact wp_exit this
  · cases h
    refine ⟨fun H => ?_, hF⟩
    have := H β w (Ext.refl _ _ _ _) hw
    simp only [Cf.wp, hx] at this ⊢
    exact wp_ret this
  · cases h
    refine ⟨fun H => ?_, hF⟩
    have := H β w (Ext.refl _ _ _ _) hw
    simp only [Cf.wp, hx] at this ⊢
    exact wp_region_list (wpN_list this)
  · rename_i id ops
    split at h
    · rename_i t vs ks hh
      split at h
      · rename_i hc
        cases h
        refine ⟨fun H => ?_, hF⟩
        simp only [Cf.wp, hx]
        obtain ⟨e1, e2⟩ := headGo_ok (β := β) (w := w) hp hg hsub hF hw (ds := c.ds) (a := actS E β c.tmps c.ds) (vals := fun i => (vs.getD i (.tup [])).den E β) (fun _ => rfl) rfl rfl ops.toList c.tmps [] [] [] false rfl (by simp) (by simp [par]) (by simp) hh
        refine wp_region_free (vals := fun i => (vs.getD i (.tup [])).den E β) hp.mix hc (C := fun w' => Below w.heap.size w w') ⟨rfl, rfl, rfl, Nat.le_refl _, fun _ _ => rfl⟩ (fun i o hi ho => ?_) (fun i o hi hf ho => ?_) (fun w' hw' => ?_)
        · rw [par_upto _ _ _ (by have := (Array.getElem?_eq_some_iff.1 ho).1; omega)]; exact (e2 i o ho).1 hi
        · rw [par_upto _ _ _ (by have := (Array.getElem?_eq_some_iff.1 ho).1; omega)]; exact (e2 i o ho).2 hi hf
        · rw [← e1]
          obtain ⟨k1, k2⟩ := hok_below hw hw'
          have := H β w' k2 k1
          simp only [Cf.wp] at this
          exact this
      · cases h
    · cases h
    · cases h
    · cases h
  · cases h
theorem vbAll {h : List SBlk} {n : Nat} (hb : h.all (SBlk.vb n) = true) {i : Nat} {s : SBlk} (hs : h[i]? = some s) : s.vb n = true := List.all_eq_true.1 hb s (List.mem_of_getElem? hs)
theorem factsI_put {E' : Env} {S : Sub} {G : Env} {F : Fx} (hG : ∀ q ∈ F, q.1.den (E'.sub β S) = q.1.den G) (h : Facts G F) : Facts E' (factsI S F) :=
  factsI_ok (β := β) fun q hq => by rw [hG q hq]; exact h q hq
theorem ctNext_ok {c c' : Cf} {all : Array Oper} {o : Oper} {rest : List Oper} {ct : Ct} {a : Alt} {S : Sub} (hF : Facts E c.facts) (hw : HOk E β c.heap w)
    (hch : chkHeap S c.facts ct.heap c.heap = true) (hf1 : Facts (E.sub β S) a.facts) (h : ctNext p c ct S a o.dst all rest = .next c') (hnox : p.nox = true → ct.nx = 0)
    {β0 : Nat → Bk} {V : Env} {w' : World} (h0 : HOk ((E.sub β S).upd xb ct.nx V) β0 a.post w') (hx0 : Ext (E.sub β S) ct.heap (bsub E β c.heap S) w ((E.sub β S).upd xb ct.nx V) a.post β0 w') (hxf : Facts ((E.sub β S).upd xb ct.nx V) a.xf) :
    ∃ E' β', RelE p c.nv E c'.nv E' ∧ Ext E c.heap β w E' c'.heap β' w' ∧ HOk E' β' c'.heap w' ∧ Facts E' c'.facts ∧
      (c'.wp E' β' p Q w' → wpN p.P all (kpost E β p Q c.k) rest ((actS E β c.tmps c.ds).put o.dst (a.res.den ((E.sub β S).upd xb ct.nx V) β0)) w') := by
  unfold ctNext at h
  simp only at h
  split at h
  · rename_i hb
    cases h
    simp only [Bool.and_eq_true] at hb
    obtain ⟨⟨⟨⟨⟨⟨hb0, hb1⟩, hb2⟩, hb3⟩, hb4⟩, hb5⟩, hb6⟩ := hb
    have hobnd : S.o.all (fun p => p.2.bnd c.heap.length) = true := by
      unfold chkPost at hb0
      simp only [Bool.and_eq_true] at hb0
      exact hb0.1.1.2
    have hSt : S.t = none := by
      unfold chkPost at hb0
      simp only [Bool.and_eq_true] at hb0
      simpa using hb0.1.2
    have hag : ∀ i, i < c.heap.length → bcall β β0 ct.heap.length c.heap.length i = β i := fun i hi => by simp only [bcall, hi, if_true]
    obtain ⟨a1, a2, a3, a4, a5⟩ := news_io S ct.heap.length c.heap.length (a.post.length - ct.heap.length)
    generalize hS1 : S.news ct.heap.length c.heap.length (a.post.length - ct.heap.length) = S1 at *
    have B : (∀ (i : Nat) (s : SBlk), c.heap[i]? = some s → (∀ γ bk w, SBlk.ok (E.upd c.nv ct.nx V) γ bk w s ↔ SBlk.ok E γ bk w s) ∧ ∀ bk x, s.at (E.upd c.nv ct.nx V) bk x ↔ s.at E bk x) ∧
        (∀ (i : Nat) (q : SBlk), ct.heap[i]? = some q → (∀ γ bk w, SBlk.ok ((E.sub β S).upd xb ct.nx V) γ bk w q ↔ SBlk.ok (E.sub β S) γ bk w q) ∧ ∀ bk x, q.at ((E.sub β S).upd xb ct.nx V) bk x ↔ q.at (E.sub β S) bk x) ∧
        (∀ (i : Nat) (q : SBlk), a.post[i]? = some q → (∀ γ bk w, SBlk.ok ((E.upd c.nv ct.nx V).sub (bcall β β0 ct.heap.length c.heap.length) (S1.fresh c.nv ct.nx)) γ bk w q ↔ SBlk.ok ((E.sub β S).upd xb ct.nx V) γ bk w q) ∧
          ∀ bk x, q.at ((E.upd c.nv ct.nx V).sub (bcall β β0 ct.heap.length c.heap.length) (S1.fresh c.nv ct.nx)) bk x ↔ q.at ((E.sub β S).upd xb ct.nx V) bk x) ∧
        (a.res.den ((E.upd c.nv ct.nx V).sub (bcall β β0 ct.heap.length c.heap.length) (S1.fresh c.nv ct.nx)) β0 = a.res.den ((E.sub β S).upd xb ct.nx V) β0) ∧
        Facts (E.upd c.nv ct.nx V) (factsI (S1.fresh c.nv ct.nx) a.xf) ∧ Facts (E.upd c.nv ct.nx V) (factsI (S1.fresh c.nv ct.nx) a.facts) ∧ Facts (E.upd c.nv ct.nx V) c.facts ∧
        actS (E.upd c.nv ct.nx V) β c.tmps c.ds = actS E β c.tmps c.ds ∧ kpost (E.upd c.nv ct.nx V) β p Q c.k = kpost E β p Q c.k := by
      unfold xOk at hb6
      rw [Bool.or_eq_true] at hb6
      rcases hb6 with h6 | h6
      · have hnx : ct.nx = 0 := Nat.eq_of_beq_eq_true h6
        rw [hnx, Env.upd_zero] at hxf
        have e1 : E.upd c.nv ct.nx V = E := by rw [hnx, Env.upd_zero]
        have e2 : (E.sub β S).upd xb ct.nx V = E.sub β S := by rw [hnx, Env.upd_zero]
        have e3 : S1.fresh c.nv ct.nx = S1 := by rw [hnx]; rfl
        rw [e1, e2, e3]
        have hsub : E.sub (bcall β β0 ct.heap.length c.heap.length) S1 = E.sub β S := sub_env a1 a2 a3 ⟨a4, a5⟩ hSt hag hobnd
        rw [hsub]
        refine ⟨fun _ _ _ => ⟨fun _ _ _ => Iff.rfl, fun _ _ => Iff.rfl⟩, fun _ _ _ => ⟨fun _ _ _ => Iff.rfl, fun _ _ => Iff.rfl⟩, fun _ _ _ => ⟨fun _ _ _ => Iff.rfl, fun _ _ => Iff.rfl⟩, rfl, ?_, ?_, hF, rfl, rfl⟩
        · exact factsI_put (β := bcall β β0 ct.heap.length c.heap.length) (G := E.sub β S) (fun q _ => by rw [hsub]) hxf
        · exact factsI_put (β := bcall β β0 ct.heap.length c.heap.length) (G := E.sub β S) (fun q _ => by rw [hsub]) hf1
      · simp only [Bool.and_eq_true] at h6
        obtain ⟨⟨⟨⟨⟨⟨⟨⟨⟨⟨⟨x1, x2⟩, x3⟩, x4⟩, x5⟩, x6⟩, x7⟩, x8⟩, x9⟩, x10⟩, x11⟩, x12⟩ := h6
        have x1 := Nat.le_of_ble_eq_true x1
        have hE := Env.upd_ag E c.nv ct.nx V
        have hE2 := Env.upd_ag (E.sub β S) xb ct.nx V
        have hE3 := sub_fresh (E := E) (β := β) (S := S) (S' := S1) (β' := bcall β β0 ct.heap.length c.heap.length) (n := c.heap.length) (nv := c.nv) (m := ct.nx) (V := V) ⟨a1, a2, a3, a4, a5⟩ hSt hag hobnd x2
        refine ⟨fun i s hs => ⟨fun γ bk w => SBlk.ok_ag hE s (vbAll x3 hs) bk w, fun bk x => SBlk.at_ag hE s (vbAll x3 hs) bk x⟩, fun i q hq => ⟨fun γ bk w => SBlk.ok_ag hE2 q (vbAll x4 hq) bk w, fun bk x => SBlk.at_ag hE2 q (vbAll x4 hq) bk x⟩,
          fun i q hq => ⟨fun γ bk w => SBlk.ok_ag hE3 q (vbAll x5 hq) bk w, fun bk x => SBlk.at_ag hE3 q (vbAll x5 hq) bk x⟩, SV.den_ag hE3 β0 a.res x6, ?_, ?_, fun q hq => ?_, actS_ag hE x10 x11, kpost_ag hE x12⟩
        · exact factsI_put (β := bcall β β0 ct.heap.length c.heap.length) (fun q hq => SB.den_ag hE3 q.1 (List.all_eq_true.1 x7 q hq)) hxf
        · refine factsI_put (β := bcall β β0 ct.heap.length c.heap.length) (G := E.sub β S) (fun q hq => ?_) hf1
          have h8 := List.all_eq_true.1 x8 q hq
          have mono : ∀ {m n : Nat} {A B : Env}, m ≤ n → AgE n A B → AgE m A B := fun hmn H => ⟨fun j hj => H.i j (by omega), fun j hj => H.b j (by omega), fun j hj => H.a j (by omega), H.o, H.fn⟩
          rw [SB.den_ag (mono (by omega) hE3 : AgE xb _ _) q.1 h8, SB.den_ag hE2 q.1 h8]
        · rw [SB.den_ag hE q.1 (List.all_eq_true.1 x9 q hq)]; exact hF q hq
    obtain ⟨b1, b2, b3, b4, b5, b6, b7, b8, b9⟩ := B
    obtain ⟨k1, k2, k3, k4⟩ := call_heap (E := E) (β := β) (w := w) (S := S) (Sf := S1.fresh c.nv ct.nx) (E' := E.upd c.nv ct.nx V) hF hw hb2 hch hb0 (by rw [(fresh_ko S1 c.nv ct.nx).1, hS1]) h0 hx0 b1 b2 b3
    refine ⟨E.upd c.nv ct.nx V, _, ⟨Env.upd_ag _ _ _ _, Nat.le_add_right _ _, fun hh => ?_⟩, k2, k1, fun q hq => ?_, fun H => ?_⟩
    · have : ct.nx = 0 := by
        rcases hh with hh | hh
        · simp only at hh; omega
        · exact hnox hh
      rw [this, Env.upd_zero]
    · simp only [List.mem_append] at hq
      rcases hq with hq | hq | hq
      · exact b5 q hq
      · exact b6 q hq
      · exact b7 q hq
    · simp only [Cf.wp] at H
      rw [kpost_agree k4 hb5, putS_ok, actS_agree k4 hb3 hb4, SV.inst_ok (E := E.upd c.nv ct.nx V) k3 a.res hb1, b4, b8, b9] at H
      exact H
  · cases h
theorem nox_ct {p : Prm} (h : p.nox = true) {ct : Ct} (hc : ct ∈ p.ct) : ct.nx = 0 := by
  unfold Prm.nox at h
  rw [Bool.and_eq_true] at h
  simpa using List.all_eq_true.1 h.1 ct hc
theorem nox_bt {p : Prm} (h : p.nox = true) {b : Bt} (hc : b ∈ p.bt) : b.ct.nx = 0 := by
  unfold Prm.nox at h
  rw [Bool.and_eq_true] at h
  simpa using List.all_eq_true.1 h.2 b hc
theorem ctStep_ok (hp : PrmOk E p) (hg : p.gm.ok β) {c c' : Cf} {all : Array Oper} {o : Oper} {rest : List Oper} {cl : Call} {ct : Ct} {args : List SV} (hF : Facts E c.facts) (hw : HOk E β c.heap w)
    (hx : c.fo = .ops all (o :: rest)) (hwt : Region.wanted o (yielded all (actS E β c.tmps c.ds).tmps) = true) (ho : o.op = .call cl) (hcl : sCall p c.tmps cl = some (ct.g, args)) (hct : ct ∈ p.ct) (h : ctStep p c ct args o.dst all rest = .next c') :
    SoundE E β p Q c w c' := by
  intro H
  unfold ctStep at h
  simp only at h
  generalize mCall p.gm ct args c.heap = S at h
  split at h
  · rename_i hc
    split at h
    · rename_i a ha
      have hch : chkHeap S c.facts ct.heap c.heap = true := by
        unfold chkCall at hc
        simp only [Bool.and_eq_true] at hc
        exact hc.1.2
      obtain ⟨f1, f2⟩ := chkCall_ok hp hg hF hw hct hc ha
      simp only [Cf.wp, hx] at ⊢
      simp only [wpN, hwt, if_true]
      unfold opN
      obtain ⟨h1, h2⟩ := sCall_ok (E := E) (w := w) (ds := c.ds.map (SD.den E β)) hp hg ho hcl
      have h1' : (execOp (actS E β c.tmps c.ds).eval o).run p.P w = .ok (.enter ct.g (SV.denL E β args).toArray) w := h1
      rw [h1']
      refine f2.mono fun e w' ⟨β0, V, he, h0, hx0, hxf⟩ => ?_
      subst he
      obtain ⟨E', β', r1, r2, r3, r4, r5⟩ := ctNext_ok (Q := Q) hF hw hch f1 h (fun hh => nox_ct hh hct) h0 hx0 hxf
      exact r5 (H E' β' w' r1 r2 r3 r4)
    · cases h
    · cases h
    · cases h
  · cases h
theorem btStep_ok (hp : PrmOk E p) (hg : p.gm.ok β) {c c' : Cf} {all : Array Oper} {o : Oper} {rest : List Oper} (hF : Facts E c.facts) (hw : HOk E β c.heap w)
    (hx : c.fo = .ops all (o :: rest)) (hwt : Region.wanted o (yielded all (actS E β c.tmps c.ds).tmps) = true) : ∀ {bs : List Bt}, (∀ b ∈ bs, b ∈ p.bt) → btStep p c all o rest bs = some (.next c') → SoundE E β p Q c w c'
  | [], _, h => by simp [btStep] at h
  | b :: r, hb, h => by
    have next : btStep p c all o rest r = some (.next c') → SoundE E β p Q c w c' := fun h => btStep_ok (bs := r) hp hg hF hw hx hwt (fun b' hb' => hb b' (by simp [hb'])) h
    simp only [btStep] at h
    split at h
    · rename_i xs hsel
      split at h
      · rename_i args hargs
        try simp only at h
        generalize mCall p.gm b.ct args c.heap = S at h
        split at h
        · rename_i hc
          split at h
          · rename_i a ha
            have h := Option.some.inj h
            have hch : chkHeap S c.facts b.ct.heap c.heap = true := by
              unfold chkCall at hc
              simp only [Bool.and_eq_true] at hc
              exact hc.1.2
            obtain ⟨f1, v, w', g1, _, β0, V, hv, h0, hx0, hxf⟩ := chkBt_ok hp hg hF hw (hb b (by simp)) hc ha hsel (evL_ok (ds := c.ds.map (SD.den E β)) hg hargs)
            intro H
            obtain ⟨E', β', r1, r2, r3, r4, r5⟩ := ctNext_ok (Q := Q) hF hw hch f1 h (fun hh => nox_bt hh (hb b (by simp))) h0 hx0 hxf
            have := r5 (H E' β' w' r1 r2 r3 r4)
            simp only [Cf.wp, hx] at ⊢
            rw [← hv] at this
            rcases g1 with g1 | ⟨_, g1, g2⟩
            · exact wpN_value hwt g1 this
            · rw [g2] at this
              exact wpN_sk hwt g1 this
          · cases h
          · cases h
          · exact next h
        · exact next h
      · exact next h
    · exact next h
theorem sAppA_ok {gm : Gm} (hg : gm.ok β) {F : Fx} (hF : Facts E F) {h h' : List SBlk} (hw : HOk E β h w) {tmps : Tm} {ds : List Deferred} {o : Oper} {v : SV} {P : Program}
    (hr : sAppA P gm F h tmps o.op = .ok h' v) : ∃ bk w', (execOp (actD E β tmps ds).eval o).run P w = .ok (.value (v.den E (upB β h.length bk))) w' ∧ HOk E (upB β h.length bk) h' w' ∧ Ext E h β w E h' (upB β h.length bk) w' := by
  unfold sAppA at hr
  split at hr
  · exact sAppend2_ok hg hF hw hr
  · exact sAppend_ok hg hF hw hr
theorem stepRest_ok (hp : PrmOk E p) (hg : p.gm.ok β) {c c' : Cf} {all : Array Oper} {o : Oper} {rest : List Oper} (hF : Facts E c.facts) (hw : HOk E β c.heap w)
    (hx : c.fo = .ops all (o :: rest)) (hwt : Region.wanted o (yielded all (actS E β c.tmps c.ds).tmps) = true) (h : stepRest p c all o rest = .next c') : SoundE E β p Q c w c' ∨ (Sound E β p Q c w c' ∧ Facts E c'.facts) := by
  unfold Sound
  unfold stepRest at h
  split at h
  · rename_i T a x ho
    split at h
    · rename_i sa sx ha hxx
      split at h
      · rename_i h' hs
        cases h
        refine .inr ⟨fun H => ?_, hF⟩
        obtain ⟨w', h1, h2, h3⟩ := sStore_ok (P := p.P) hw hs
        have := H β w' h3 h2
        simp only [Cf.wp, hx] at this ⊢
        rw [put_undef] at this
        refine wpN_sk hwt ?_ this
        have e1 := ev_ok (E := E) (ds := c.ds.map (SD.den E β)) hg ha
        have e2 := ev_ok (E := E) (ds := c.ds.map (SD.den E β)) hg hxx
        simp only [execOp, ho]
        show (((do Instr.storeAt T ((actD E β c.tmps _).eval a) ((actD E β c.tmps _).eval x); pure Next.skip) : Sem Next)).run p.P w = _
        rw [e1, e2]
        simp [h1]
      · split at h
        · rename_i h' hs
          cases h
          refine .inr ⟨fun H => ?_, hF⟩
          obtain ⟨w', h1, h2, h3⟩ := sStore2_ok (P := p.P) hF hw hs
          have := H β w' h3 h2
          simp only [Cf.wp, hx] at this ⊢
          rw [put_undef] at this
          refine wpN_sk hwt ?_ this
          have e1 := ev_ok (E := E) (ds := c.ds.map (SD.den E β)) hg ha
          have e2 := ev_ok (E := E) (ds := c.ds.map (SD.den E β)) hg hxx
          simp only [execOp, ho]
          show (((do Instr.storeAt T ((actD E β c.tmps _).eval a) ((actD E β c.tmps _).eval x); pure Next.skip) : Sem Next)).run p.P w = _
          rw [e1, e2]
          simp [h1]
        · cases h
    · cases h
  · rename_i cl ho
    split at h
    · rename_i g args hc
      split at h
      · cases h
      split at h
      · rename_i ct hct
        obtain ⟨m1, m2⟩ := ctFind_ok hct
        subst m2
        exact .inl (ctStep_ok hp hg hF hw hx hwt ho hc m1 h)
      split at h
      · rename_i fn hfn
        split at h
        · rename_i b hb
          cases h
          refine .inr ⟨fun H => ?_, hF⟩
          have := H β w (Ext.refl _ _ _ _) hw
          simp only [Cf.wp, hx, kpost, hfn] at this ⊢
          simp only [wpN, hwt, if_true]
          unfold opN
          obtain ⟨h1, h2⟩ := sCall_ok (E := E) (w := w) (ds := c.ds.map (SD.den E β)) hp hg ho hc
          have h1' : (execOp (actS E β c.tmps c.ds).eval o).run p.P w = .ok (.enter g (SV.denL E β args).toArray) w := h1
          rw [h1']
          have hcalls : Calls p.P g (SV.denL E β args).toArray w (retR p.P (kpost E β p Q c.k) all rest o.dst (actS E β c.tmps c.ds)) := by
            refine calls_of_wp_defers hfn hb ?_
            have e : ({ tmps := (SV.denL E β args).toArray ++ Array.replicate (fn.ntmps - (SV.denL E β args).toArray.size) undef, defers := [] } : Act) = actS E β (Tm.entry args fn.ntmps) [] := by
              unfold actS actD
              rw [Tm.entry_den]; rfl
            rw [e]
            exact this
          exact hcalls.mono fun e w' he => by cases e <;> exact he
        · cases h
      · cases h
    · split at h
      · rename_i h' v hap
        split at h
        · rename_i hb
          cases h
          simp only [Bool.and_eq_true] at hb
          obtain ⟨⟨hb3, hb4⟩, hb5⟩ := hb
          refine .inr ⟨fun H => ?_, hF⟩
          rw [← ho] at hap
          obtain ⟨bk, w', k0, k1, k2⟩ := sAppA_ok (ds := c.ds.map (SD.den E β)) hg hF hw hap
          have := H _ _ k2 k1
          have hag : ∀ i, i < c.heap.length → upB β c.heap.length bk i = β i := fun i hi => upB_ne (by omega)
          simp only [Cf.wp, hx] at this ⊢
          rw [kpost_agree hag hb5, putS_ok, actS_agree hag hb3 hb4] at this
          exact wpN_value hwt k0 this
        · cases h
      · cases h
      · cases h
      · split at h
        · rename_i h' v hap
          cases h
          refine .inr ⟨fun H => ?_, hF⟩
          rw [← ho] at hap
          obtain ⟨w', k0, k1, k2⟩ := sCopy_ok (ds := c.ds.map (SD.den E β)) hg hF hw hap
          have := H _ _ k2 k1
          simp only [Cf.wp, hx] at this ⊢
          rw [putS_ok] at this
          exact wpN_value hwt k0 this
        · cases h
  · rename_i cl ho
    split at h
    · rename_i d hd
      cases h
      refine .inr ⟨fun H => ?_, hF⟩
      have := H β w (Ext.refl _ _ _ _) hw
      simp only [Cf.wp, hx] at this ⊢
      simp only [wpN, hwt, if_true]
      unfold opN
      have h1 : (execOp (actS E β c.tmps c.ds).eval o).run p.P w = .ok (.defer (d.den E β)) w := sDefer_ok hg ho hd
      rw [h1]
      rw [put_undef] at this
      exact this
    · cases h
  · cases h
  · rename_i hn1 hn2 hn3 hn4
    split at h
    · rename_i l ks S hrow
      split at h
      · rename_i hb
        cases h
        simp only [Bool.and_eq_true] at hb
        obtain ⟨⟨⟨⟨hb1, hb2⟩, hb3⟩, hb4⟩, hb5⟩ := hb
        refine .inr ⟨fun H => ?_, hF⟩
        obtain ⟨len, l1, l2, l3, l4⟩ := rowOp_ok (E := E) (w := w) (ds := c.ds.map (SD.den E β)) hg hrow
        obtain ⟨k1, k2⟩ := HOk.pushRow (S := S) hw hb1 hb2 l1 l2 l3
        have := H _ _ k2 k1
        have hag : ∀ i, i < c.heap.length → upB β c.heap.length ⟨w.heap.size, false, len, len, 0, fun _ => .nilIface⟩ i = β i := fun i hi => upB_ne (by omega)
        simp only [Cf.wp, hx] at this ⊢
        rw [kpost_agree hag hb5, putS_ok, actS_agree hag hb3 hb4] at this
        have ev : (SV.own c.heap.length).den E (upB β c.heap.length ⟨w.heap.size, false, len, len, 0, fun _ => .nilIface⟩) = .slice (some ⟨w.heap.size, 0, none⟩) len len := by
          simp only [SV.den, upB_self]; rfl
        rw [ev] at this
        exact wpN_value hwt l4 this
      · cases h
    split at h
    · rename_i l S v hnew
      split at h
      · rename_i hb
        cases h
        simp only [Bool.and_eq_true] at hb
        obtain ⟨⟨⟨⟨hb1, hb2⟩, hb3⟩, hb4⟩, hb5⟩ := hb
        refine .inr ⟨fun H => ?_, hF⟩
        obtain ⟨k1, k2⟩ := HOk.push (S := S) hw hb1 hb2
        have := H _ _ k2 k1
        have hag : ∀ i, i < c.heap.length → upB β c.heap.length { a := w.heap.size } i = β i := fun i hi => upB_ne (by omega)
        simp only [Cf.wp, hx] at this ⊢
        rw [kpost_agree hag hb5, putS_ok, actS_agree hag hb3 hb4] at this
        exact wpN_value hwt (newOp_ok (ds := c.ds.map (SD.den E β)) hg (by rw [upB_self]) (by rw [upB_self]) hnew) this
      · cases h
    · cases h
theorem stepOps_ok (hp : PrmOk E p) (hg : p.gm.ok β) {c c' : Cf} {all : Array Oper} {o : Oper} {rest : List Oper} (hF : Facts E c.facts) (hw : HOk E β c.heap w)
    (hx : c.fo = .ops all (o :: rest)) (h : stepOps p c all o rest = .next c') : SoundE E β p Q c w c' ∨ (Sound E β p Q c w c' ∧ Facts E c'.facts) := by
  unfold stepOps at h
  split at h
  · rename_i hgd
    have hwt := guardS_run (β := β) (ds := c.ds) hF hgd
    split at h
    · rename_i v hv
      cases h
      refine .inr ⟨fun H => ?_, hF⟩
      have := H β w (Ext.refl _ _ _ _) hw
      simp only [Cf.wp, hx] at this ⊢
      rw [putS_ok] at this
      exact wpN_value hwt (readOp_ok hg hF hw hv) this
    · cases h
    · cases h
    · split at h
      · rename_i s hs
        subst h
        exact .inl (btStep_ok hp hg hF hw hx hwt (fun b hb => hb) hs)
      · exact stepRest_ok hp hg hF hw hx hwt h
  · rename_i hgd
    have hwt := guardS_skip (β := β) (ds := c.ds) hF hgd
    cases h
    refine .inr ⟨fun H => ?_, hF⟩
    have := H β w (Ext.refl _ _ _ _) hw
    simp only [Cf.wp, hx] at this ⊢
    rw [put_undef] at this
    simp only [wpN, hwt]
    exact this
  · cases h
  · cases h
theorem stepExit_ok (hp : PrmOk E p) {c c' : Cf} {e : SX} (hF : Facts E c.facts) (hw : HOk E β c.heap w) (hx : c.fo = .exit e) (h : stepExit p c e = .next c') : Sound E β p Q c w c' ∧ Facts E c'.facts := by
  unfold Sound
  unfold stepExit at h
  split at h
  · cases h
  · rename_i b k hk
    cases e <;> cases h <;> refine ⟨fun H => ?_, hF⟩ <;> have := H β w (Ext.refl _ _ _ _) hw <;> simp only [Cf.wp, hx, hk, kpost] at this ⊢ <;> exact this
  · rename_i id k hk
    cases e with
    | normal => cases h; refine ⟨fun H => ?_, hF⟩; have := H β w (Ext.refl _ _ _ _) hw; simp only [Cf.wp, hx, hk, kpost] at this ⊢; exact this
    | ret => cases h; refine ⟨fun H => ?_, hF⟩; have := H β w (Ext.refl _ _ _ _) hw; simp only [Cf.wp, hx, hk, kpost] at this ⊢; exact this
    | ex j =>
      simp only at h
      split at h
      · rename_i hj; subst hj; cases h; refine ⟨fun H => ?_, hF⟩; have := H β w (Ext.refl _ _ _ _) hw; simp only [Cf.wp, hx, hk, kpost] at this ⊢
        simp only [SX.den, Exit.inBlock, if_true]; exact this
      · rename_i hj; cases h; refine ⟨fun H => ?_, hF⟩; have := H β w (Ext.refl _ _ _ _) hw; simp only [Cf.wp, hx, hk, kpost] at this ⊢
        simp only [SX.den, Exit.inBlock, hj, if_false]; exact this
  · rename_i b k hk
    cases e with
    | normal =>
      simp only at h
      split at h
      · cases h
      · cases h; refine ⟨fun H => ?_, hF⟩; have := H β w (Ext.refl _ _ _ _) hw; simp only [Cf.wp, hx, hk, kpost] at this ⊢; exact loopC_of this
    | ret => cases h; refine ⟨fun H => ?_, hF⟩; have := H β w (Ext.refl _ _ _ _) hw; simp only [Cf.wp, hx, hk, kpost] at this ⊢; exact this
    | ex j => cases h; refine ⟨fun H => ?_, hF⟩; have := H β w (Ext.refl _ _ _ _) hw; simp only [Cf.wp, hx, hk, kpost] at this ⊢; exact this
  · rename_i f dst tmps ds all rest fid k hk
    have h' : (∀ j, e ≠ .ex j) ∧ (if c.ds.all (SD.fine p) then
        match p.P.funcs[f]? with
        | some fn => match sRes p.P c.facts c.heap c.tmps fn.results.toList with
          | some v => Stp.next { c with tmps := putS tmps dst v, ds := ds, fo := .ops all rest, k := k, fid := fid }
          | none => .stop
        | none => .stop
      else .stop) = .next c' := by
      cases e with
      | ex j => cases h
      | normal => exact ⟨fun j hj => (by cases hj), h⟩
      | ret => exact ⟨fun j hj => (by cases hj), h⟩
    clear h
    obtain ⟨hne, h⟩ := h'
    · split at h
      · rename_i hfine
        split at h
        · rename_i fn hfn
          split at h
          · rename_i v hv
            cases h
            refine ⟨fun H => ?_, hF⟩
            have := H β w (Ext.refl _ _ _ _) hw
            simp only [Cf.wp, hx, hk, kpost, hfn] at this ⊢
            have hl : Leaves p.P fn (c.tmps.den E β) (retR p.P (kpost E β p Q k) all rest dst (actS E β tmps ds)) (c.ds.map (SD.den E β)) .returning w :=
              benign_leaves hp hfine ⟨_, sRes_ok hF hw hv, by rw [putS_ok] at this; exact this⟩
            cases e with
            | normal => exact hl
            | ex id => exact (hne id rfl).elim
            | ret => exact hl
          · cases h
        · cases h
      · cases h
theorem step_ok (hp : PrmOk E p) (hg : p.gm.ok β) {sub : Cf → List (Bool × Cf)} {c c' : Cf} (hsub : SubOk E p c.heap sub) (hb : ∀ q ∈ p.gm, q.2 < c.heap.length) (hF : Facts E c.facts) (hw : HOk E β c.heap w) (h : step p sub c = .next c') (hn : c.nv ≤ c'.nv) : SoundE E β p Q c w c' := by
  unfold step at h
  split at h
  · rename_i x hx
    split at h
    · rename_i s hs
      subst h
      exfalso
      have key : ∀ (G : Fx), hintGo c.facts G ≠ some (.next c') := by
        intro G
        induction G with
        | nil => intro hh; cases hh
        | cons q r ih =>
          intro hh
          obtain ⟨b, t⟩ := q
          simp only [hintGo] at hh
          split at hh
          · split at hh
            · exact ih hh
            · cases hh
          · cases hh
      unfold hintS at hs
      split at hs
      · exact key _ hs
      · cases hs
    · exact SoundE.of hn (stepCode_ok hp hg hsub hb hF hw hx h)
  · rename_i all hx
    cases h
    refine SoundE.of hn ⟨fun H => ?_, hF⟩
    have := H β w (Ext.refl _ _ _ _) hw
    simp only [Cf.wp, hx] at this ⊢
    exact this
  · rename_i all o rest hx; exact (stepOps_ok hp hg hF hw hx h).elim id (SoundE.of hn)
  · rename_i e hx; exact SoundE.of hn (stepExit_ok hp hF hw hx h)

theorem gm_ext {E' : Env} {h h' : List SBlk} {β' : Nat → Bk} {w' : World} (hg : p.gm.ok β) (hb : ∀ q ∈ p.gm, q.2 < h.length) (x : Ext E h β w E' h' β' w') : p.gm.ok β' ∧ ∀ q ∈ p.gm, q.2 < h'.length :=
  ⟨fun q hq => by rw [x.agree _ (hb q hq)]; exact hg q hq, fun q hq => Nat.lt_of_lt_of_le (hb q hq) x.len⟩
theorem PrmOk.fn {E' : Env} (hp : PrmOk E p) (h : E'.fn = E.fn) : PrmOk E' p :=
  ⟨fun b hb => by rw [h]; exact hp.bt b hb, fun c hc => by rw [h]; exact hp.ct c hc, hp.mix, hp.okf, hp.body, hp.mts, hp.dfr, hp.dfk⟩

theorem run_sound : ∀ (n : Nat) (c : Cf) (E : Env) (β : Nat → Bk) (w : World) (Q : Exit → Act → World → Prop), PrmOk E p → p.gm.ok β → (∀ q ∈ p.gm, q.2 < c.heap.length) → Facts E c.facts → HOk E β c.heap w →
    (∀ l ∈ run p n c, LeafOk E p Q c.nv c.heap β w l) → c.wp E β p Q w
  | 0, c, E, β, w, Q, hp, hg, hb, hF, hw, H => by
    have := H (false, c) (by simp [run]) E (RelE.refl _ _ _) hF
    exact this.2 β w (Ext.refl _ _ _ _) hw
  | n + 1, c, E, β, w, Q, hp, hg, hb, hF, hw, H => by
    simp only [run] at H
    split at H
    · rename_i c' hs
      cases hn : Nat.ble c.nv c'.nv with
      | false =>
        rw [hn] at H
        have := H (false, c) (by simp) E (RelE.refl _ _ _) hF
        exact this.2 β w (Ext.refl _ _ _ _) hw
      | true =>
        rw [hn] at H
        simp only [cond_true] at H
        have hn := Nat.le_of_ble_eq_true hn
        have h1 := step_ok (Q := Q) hp hg (fun c2 β2 w2 Q2 he hg2 hF2 hw2 H2 => run_sound n c2 E β2 w2 Q2 hp hg2 (by rw [he]; exact hb) hF2 hw2 H2) hb hF hw hs hn
        refine h1 fun E' β' w' hR hx hw' h2 => ?_
        obtain ⟨hg', hb'⟩ := gm_ext hg hb hx
        refine run_sound n c' E' β' w' Q (hp.fn hR.1.fn) hg' hb' h2 hw' fun l hl E'' hR' hf => ?_
        obtain ⟨e1, e2⟩ := H l hl E'' (hR.trans hR') hf
        exact ⟨e1, fun β'' w'' hx' hw'' => e2 β'' w'' (hx.trans hx') hw''⟩
    · rename_i b hs
      cases hd : (strip b).den E with
      | true =>
        refine run_sound n { c with facts := (strip b, true) :: c.facts } E β w Q hp hg hb ?_ hw fun l hl => H l (List.mem_append_left _ hl)
        intro q hq
        simp only [List.mem_cons] at hq
        rcases hq with rfl | hq
        · exact hd
        · exact hF q hq
      | false =>
        refine run_sound n { c with facts := (strip b, false) :: c.facts } E β w Q hp hg hb ?_ hw fun l hl => H l (List.mem_append_right _ hl)
        intro q hq
        simp only [List.mem_cons] at hq
        rcases hq with rfl | hq
        · exact hd
        · exact hF q hq
    · have := H (true, c) (by simp) E (RelE.refl _ _ _) hF
      cases this.1
    · have := H (false, c) (by simp) E (RelE.refl _ _ _) hF
      exact this.2 β w (Ext.refl _ _ _ _) hw

/- functions -/
structure Out where
  dead : Bool
  facts : Fx
  res : SV
  heap : List SBlk
def outOf (p : Prm) (l : Bool × Cf) : Option Out :=
  if l.1 then some ⟨true, l.2.facts, .tup [], []⟩ else
  match l.2.k, l.2.fo with
  | [], .exit (.ex _) => none
  | [], .exit _ => if l.2.ds.all (SD.fine p) then
      match p.P.funcs[l.2.fid]? with
      | some fn => match sRes p.P l.2.facts l.2.heap l.2.tmps fn.results.toList with
        | some v => some ⟨false, l.2.facts, v, l.2.heap⟩
        | none => none
      | none => none
    else none
  | _, _ => none
def outsOf (p : Prm) : List (Bool × Cf) → Option (List Out)
  | [] => some []
  | l :: r => match outOf p l, outsOf p r with
    | some o, some os => some (o :: os)
    | _, _ => none
def enter (p : Prm) (f : FuncId) (args : List SV) (heap : List SBlk) (F : Fx) : Option Cf :=
  match p.P.funcs[f]? with
  | some fn => match fn.body with
    | some b => some { tmps := Tm.entry args fn.ntmps, ds := [], heap := heap, facts := F, fo := .code b, k := [], fid := f }
    | none => none
  | none => none
def outs (p : Prm) (n : Nat) (f : FuncId) (args : List SV) (heap : List SBlk) (F : Fx) : Option (List Out) :=
  match enter p f args heap F with
  | some c => if (run p n c).all fun l => l.1 || l.2.fid == f then outsOf p (run p n c) else none
  | none => none
theorem outsOf_mem : ∀ {ls : List (Bool × Cf)} {os : List Out}, outsOf p ls = some os → ∀ l ∈ ls, ∃ o ∈ os, outOf p l = some o
  | [], os, h, l, hl => by cases hl
  | x :: r, os, h, l, hl => by
    simp only [outsOf] at h
    split at h
    · rename_i o os' h1 h2
      cases h
      cases hl with
      | head => exact ⟨o, by simp, h1⟩
      | tail _ hl => obtain ⟨o', h3, h4⟩ := outsOf_mem h2 l hl; exact ⟨o', by simp [h3], h4⟩
    · cases h
/-- A function, by what its ways come to. -/
theorem calls_of_outs (hp : PrmOk E p) (hg : p.gm.ok β) {n : Nat} {f : FuncId} {args : List SV} {heap : List SBlk} {F : Fx} {os : List Out} {R : Ending → World → Prop}
    (hgb : ∀ q ∈ p.gm, q.2 < heap.length) (hF : Facts E F) (hw : HOk E β heap w) (h : outs p n f args heap F = some os)
    (hnx : p.nox = true) (H : ∀ o ∈ os, Facts E o.facts → o.dead = false ∧ ∀ β' w', Ext E heap β w E o.heap β' w' → HOk E β' o.heap w' → R (.returned (o.res.den E β')) w') :
    Calls p.P f (SV.denL E β args).toArray w R := by
  unfold outs at h
  split at h
  · rename_i c hc
    unfold enter at hc
    split at hc
    · rename_i fn hfn
      split at hc
      · rename_i b hb
        cases hc
        split at h
        · rename_i hall
          refine calls_of_wp_defers hfn hb ?_
          have ea : ({ tmps := (SV.denL E β args).toArray ++ Array.replicate (fn.ntmps - (SV.denL E β args).toArray.size) undef, defers := [] } : Act) = actS E β (Tm.entry args fn.ntmps) [] := by
            unfold actS actD
            rw [Tm.entry_den]; rfl
          rw [ea]
          have := run_sound n { tmps := Tm.entry args fn.ntmps, ds := [], heap := heap, facts := F, fo := .code b, k := [], fid := f } E β w (bodyPostD p.P fn R) hp hg hgb hF hw (fun l hl => by
            obtain ⟨o, ho, hol⟩ := outsOf_mem h l hl
            have hfid := List.all_eq_true.1 hall l hl
            unfold outOf at hol
            split at hol
            · rename_i hd
              cases hol
              intro E' hR hFl
              have hEE := (hR.2.2 (.inr hnx)).symm
              subst hEE
              have := (H _ ho hFl).1
              cases this
            · rename_i hd
              have hd' : l.1 = false := by simpa using hd
              have hf : l.2.fid = f := by simpa [hd'] using hfid
              intro E' hR hFl
              have hEE := (hR.2.2 (.inr hnx)).symm
              subst hEE
              refine ⟨hd', fun β' w' x hw' => ?_⟩
              have fin : ∀ e, l.2.k = [] → l.2.fo = .exit e → (e = .normal ∨ e = .ret) → (if l.2.ds.all (SD.fine p) then
                  match p.P.funcs[l.2.fid]? with
                  | some fn => match sRes p.P l.2.facts l.2.heap l.2.tmps fn.results.toList with
                    | some v => some (Out.mk false l.2.facts v l.2.heap)
                    | none => none
                  | none => none
                else none) = some o → l.2.wp E β' p (bodyPostD p.P fn R) w' := by
                intro e hk hfo he hol
                split at hol
                · rename_i hfine
                  rw [hf, hfn] at hol
                  simp only at hol
                  split at hol
                  · rename_i v hv
                    cases hol
                    simp only [Cf.wp, hfo, hk, kpost]
                    have hL : Leaves p.P fn (l.2.tmps.den E β') R (l.2.ds.map (SD.den E β')) .returning w' :=
                      benign_leaves hp hfine ⟨_, sRes_ok hFl hw' hv, (H _ ho hFl).2 β' w' x hw'⟩
                    rcases he with rfl | rfl <;> exact hL
                  · cases hol
                · cases hol
              split at hol
              · cases hol
              · rename_i e hne hk hfo
                cases e with
                | normal => exact fin .normal hk hfo (Or.inl rfl) hol
                | ex id => exact (hne id rfl).elim
                | ret => exact fin .ret hk hfo (Or.inr rfl) hol
              · cases hol)
          simp only [Cf.wp, kpost] at this
          exact this
        · cases h
      · cases hc
    · cases hc
  · cases h
end Go.Sy
