/- Steps of operations and exits are sound; runs are sound. -/
import Derived.Test.YtjanndmmhjnpcaaDoorSyJ
set_option autoImplicit true
set_option relaxedAutoImplicit true
set_option linter.unusedVariables false
set_option linter.unusedSimpArgs false
namespace Go.Sy
open Go Go.RowKit
variable {E : Env} {β : Nat → Bk} {p : Prm} {w : World} {Q : Exit → Act → World → Prop}
theorem readOp_ok (hg : p.gm.ok β) {F : Fx} (hF : Facts E F) {h : List SBlk} (hw : HOk E β h w) {tmps : Tm} {ds : List Deferred} {o : Oper} {v : SV}
    (hr : readOp p.P p.gm F h tmps o.op = .val v) : (execOp (actD E β tmps ds).eval o).run p.P w = .ok (.value (v.den E β)) w := by
  unfold readOp at hr
  split at hr
  · rename_i T a ho
    obtain ⟨u, hu, hr⟩ := bind1_val hr
    simp only [execOp, ho, ev_ok hg hu]
    exact val_run (sLoad_ok hF hw hr)
  · split at hr
    · exact pure_ok hg hF hw hr
    · exact sOwn_ok hg hF hw hr
theorem put_undef (tmps : Tm) (ds : List SD) (dst : Option Tmp) : actS E β (putS tmps dst (.tup [])) ds = (actS E β tmps ds).put dst undef := by
  rw [putS_ok]; simp [SV.den, SV.denL, undef]
theorem wpN_value {P : Program} {all : Array Oper} {o : Oper} {rest : Rest} {a : Act} {v : Value} {w' : World} (hwt : Region.wanted o (yielded all a.tmps) = true)
    (hx : (execOp a.eval o).run P w = .ok (.value v) w') (h : wpR P all Q rest (a.put o.dst v) w') : wpR P all Q { rest with q := (0, o) :: rest.q } a w := by
  unfold wpR at *
  simp only [wpQ, hwt, if_true]
  unfold opN
  rw [hx]
  exact h
theorem wpN_sk {P : Program} {all : Array Oper} {o : Oper} {rest : Rest} {a : Act} {w' : World} (hwt : Region.wanted o (yielded all a.tmps) = true)
    (hx : (execOp a.eval o).run P w = .ok .skip w') (h : wpR P all Q rest (a.put o.dst undef) w') : wpR P all Q { rest with q := (0, o) :: rest.q } a w := by
  unfold wpR at *
  simp only [wpQ, hwt, if_true]
  unfold opN
  rw [hx]
  exact h
theorem benign_leaves (hp : PrmOk E p) {fn : Func} {tmps : Array Value} {R : Ending → World → Prop} : ∀ {ds : List SD}, ds.all (SD.fine p) = true →
    (∃ v, (results fn tmps).run p.P w = .ok v w ∧ R (.returned v) w) → Leaves p.P fn tmps R (ds.map (SD.den E β)) .returning w
  | [], _, h => h
  | d :: ds, hd, h => by
    simp only [List.all_cons, Bool.and_eq_true, SD.fine, decide_eq_true_eq, beq_iff_eq] at hd
    obtain ⟨⟨hin, hlen⟩, hr⟩ := hd
    obtain ⟨v, hv⟩ : ∃ v, d.args ++ d.cap = [v] := by
      have : (d.args ++ d.cap).length = 1 := by simp [hlen]
      match d.args ++ d.cap, this with
      | [v], _ => exact ⟨v, rfl⟩
    have hargs : (SV.denL E β d.args).toArray ++ (SV.denL E β d.cap).toArray = #[v.den E β] := by
      have := congrArg (SV.denL E β) hv
      rw [SV.denL_map, List.map_append] at this
      rw [SV.denL_map, SV.denL_map]
      simp [SV.denL] at this
      simp [this]
    refine ⟨by simp, .func d.fn, _, d.fn, #[v.den E β], rfl, ?_, ?_⟩
    · simp only [SD.den, invoke]
      rw [hargs, hp.okf _ (hp.dfk _ hin)]
    · obtain hh := hp.dfr _ hin (v.den E β) w
      intro c cs hc
      obtain ⟨e, u', w', fr, ⟨⟨x, hx⟩, hu, hww⟩, rest⟩ := hh c cs hc
      refine ⟨e, u', w', fr, ?_, rest⟩
      rw [hx, hu, hww]
      show Leaves p.P fn tmps R (ds.map (SD.den E β)) (settle .returning) w
      exact benign_leaves hp hr h
theorem hok_below {h : List SBlk} (hw : HOk E β h w) {w' : World} (b : Below w.heap.size w w') : HOk E β h w' ∧ Ext E h β w E h β w' :=
  ⟨⟨hw.dis, fun i s x hi hr => Nat.lt_of_lt_of_le (hw.lt i s x hi hr) b.size, fun i s hs => SBlk.ok_frame (fun x hr => b.block _ (hw.lt i s x hs hr)) (hw.ok i s hs)⟩,
   ⟨Nat.le_refl _, fun _ _ => rfl, fun _ s _ h k => ⟨s, h, k⟩, fun i s x h1 h2 => .inr ⟨i, s, h1, h2, .inr rfl⟩, b.size, fun c hc _ => b.block c hc, b.os, b.tape, b.output⟩⟩
def LeafOk (E : Env) (p : Prm) (Q : Exit → Act → World → Prop) (nv : Nat) (h : List SBlk) (β : Nat → Bk) (w : World) (l : Bool × Cf) : Prop :=
  ∀ E', RelE p nv E l.2.nv E' → Facts E' l.2.facts → (l.1 = false ∧ ∀ β' w', Ext E h β w E' l.2.heap β' w' → HOk E' β' l.2.heap w' → l.2.wp E' β' p Q w')
theorem btRead_ok (hp : PrmOk E p) (hg : p.gm.ok β) {F : Fx} (hF : Facts E F) {h : List SBlk} (hw : HOk E β h w) {t : Tm} {ds : List Deferred} {o : Oper} {v : SV} : ∀ {bs : List Bt}, (∀ b ∈ bs, b ∈ p.bt) → btRead p F h t o.op bs = .val v →
    (execOp (actD E β t ds).eval o).run p.P w = .ok (.value (v.den E β)) w
  | [], _, h => by simp [btRead] at h
  | b :: r, hb, h => by
    have next : btRead p F _ t o.op r = .val v → (execOp (actD E β t ds).eval o).run p.P w = .ok (.value (v.den E β)) w := fun h => btRead_ok (bs := r) hp hg hF hw (fun b' hb' => hb b' (by simp [hb'])) h
    simp only [btRead] at h
    split at h
    · rename_i hrd
      simp only [Bool.and_eq_true] at hrd
      have hnx : b.ct.nx = 0 := Nat.eq_of_beq_eq_true hrd.2
      split at h
      · rename_i xs hsel
        split at h
        · rename_i args hargs
          try simp only at h
          generalize mCall p.gm b.ct args _ = S at h
          split at h
          · rename_i hc
            split at h
            · rename_i a ha
              split at h
              · rename_i hb2
                cases h
                simp only [Bool.and_eq_true] at hb2
                obtain ⟨_, v', w', h1, h2, β0, V, h3, h4, h5, _⟩ := chkBt_ok hp hg hF hw (hb b (by simp)) hc ha hsel (evL_ok (ds := ds) hg hargs)
                obtain rfl := h2 hrd.1
                rw [hnx, Env.upd_zero] at h3 h5
                have hv : (a.res.inst S).den E β = v' := by
                  rw [h3, SV.inst_ok (E := E) (bsub_map (E := E) (β := β) (h := _) (S := S)) a.res hb2.1, SV.den_agree (fun i hi => h5.agree i hi) a.res hb2.2]
                rw [hv]
                rcases h1 with h1 | ⟨h1, _⟩
                · exact h1
                · rw [hrd.1] at h1; cases h1
              · cases h
            · cases h
            · cases h
            · exact next h
          · exact next h
        · exact next h
      · exact next h
    · exact next h
theorem hok_nil : HOk E β [] w := ⟨fun i j s t x h => by simp at h, fun i s x h => by simp at h, fun i s h => by simp at h⟩
theorem stepCode_ok (hp : PrmOk E p) (hg : p.gm.ok β) {c c' : Cf} {x : Code} (hb : ∀ q ∈ p.gm, q.2 < c.heap.length) (hF : Facts E c.facts) (hw : HOk E β c.heap w) (hx : c.fo = .code x) (h : stepCode p c x = .next c') : Sound E β p Q c w c' ∧ Facts E c'.facts := by
  unfold Sound
  unfold stepCode at h
  split at h
  · cases h
    refine ⟨fun H => ?_, hF⟩
    have := H β w (Ext.refl _ _ _ _) hw
    simp only [Cf.wp, hx] at this ⊢
    exact wp_skip this
  · cases h
    refine ⟨fun H => ?_, hF⟩
    have := H β w (Ext.refl _ _ _ _) hw
    simp only [Cf.wp, hx, kpost] at this ⊢
    exact wp_seq this
  · rename_i s a b
    split at h
    · rename_i t ht
      have he := ev_ok (E := E) (ds := c.ds.map (SD.den E β)) hg ht
      split at h
      · rename_i hd
        cases h
        refine ⟨fun H => ?_, hF⟩
        have := H β w (Ext.refl _ _ _ _) hw
        simp only [Cf.wp, hx] at this ⊢
        refine wp_cond_true ?_ this
        show (actD E β c.tmps _).eval s = _
        rw [he, SV.den, dec_ok hF hd]
      · rename_i hd
        cases h
        refine ⟨fun H => ?_, hF⟩
        have := H β w (Ext.refl _ _ _ _) hw
        simp only [Cf.wp, hx] at this ⊢
        refine wp_cond_false ?_ this
        show (actD E β c.tmps _).eval s = _
        rw [he, SV.den, dec_ok hF hd]
      · cases h
    · cases h
  · cases h
    refine ⟨fun H => ?_, hF⟩
    have := H β w (Ext.refl _ _ _ _) hw
    simp only [Cf.wp, hx, kpost] at this ⊢
    exact wp_block this
  · split at h
    · cases h
    · cases h
      refine ⟨fun H => ?_, hF⟩
      have := H β w (Ext.refl _ _ _ _) hw
      simp only [Cf.wp, hx, kpost] at this ⊢
      exact loop_of this
  · cases h
    refine ⟨fun H => ?_, hF⟩
    have := H β w (Ext.refl _ _ _ _) hw
    simp only [Cf.wp, hx] at this ⊢
    exact wp_exit this
  · cases h
    refine ⟨fun H => ?_, hF⟩
    have := H β w (Ext.refl _ _ _ _) hw
    simp only [Cf.wp, hx] at this ⊢
    exact wp_ret this
  · cases h
    refine ⟨fun H => ?_, hF⟩
    have := H β w (Ext.refl _ _ _ _) hw
    simp only [Cf.wp, hx] at this ⊢
    exact wp_region_list (wpN_list (wpQ_zero this))
  · rename_i id ops
    simp only at h
    split at h
    · rename_i hc
      cases h
      refine ⟨fun H => ?_, hF⟩
      obtain ⟨k1, k2⟩ := hok_below (w' := { w with drawn := w.drawn + 1 }) hw ⟨rfl, rfl, rfl, Nat.le_refl _, fun _ _ => rfl⟩
      have := H β _ k2 k1
      simp only [Cf.wp, hx] at this ⊢
      exact wp_region_plan hp.mix hc this
    · cases h
  · cases h
theorem vbAll {h : List SBlk} {n : Nat} (hb : h.all (SBlk.vb n) = true) {i : Nat} {s : SBlk} (hs : h[i]? = some s) : s.vb n = true := List.all_eq_true.1 hb s (List.mem_of_getElem? hs)
theorem factsI_put {E' : Env} {S : Sub} {G : Env} {F : Fx} (hG : ∀ q ∈ F, q.1.den (E'.sub β S) = q.1.den G) (h : Facts G F) : Facts E' (factsI S F) :=
  factsI_ok (β := β) fun q hq => by rw [hG q hq]; exact h q hq
theorem ctNext_ok {c c' : Cf} {all : Array Oper} {o : Oper} {rest : Rest} {ct : Ct} {a : Alt} {S : Sub} (hF : Facts E c.facts) (hw : HOk E β c.heap w)
    (hch : chkHeap S c.facts ct.heap c.heap = true) (hf1 : Facts (E.sub β S) a.facts) (h : ctNext p c ct S a o.dst all rest = .next c') (hnox : p.nox = true → ct.nx = 0)
    {β0 : Nat → Bk} {V : Env} {w' : World} (h0 : HOk ((E.sub β S).upd xb ct.nx V) β0 a.post w') (hx0 : Ext (E.sub β S) ct.heap (bsub E β c.heap S) w ((E.sub β S).upd xb ct.nx V) a.post β0 w') (hxf : Facts ((E.sub β S).upd xb ct.nx V) a.xf) :
    ∃ E' β', RelE p c.nv E c'.nv E' ∧ Ext E c.heap β w E' c'.heap β' w' ∧ HOk E' β' c'.heap w' ∧ Facts E' c'.facts ∧
      (c'.wp E' β' p Q w' → wpR p.P all (kpost E β p Q c.k) rest ((actS E β c.tmps c.ds).put o.dst (a.res.den ((E.sub β S).upd xb ct.nx V) β0)) w') := by
  unfold ctNext at h
  simp only at h
  split at h
  · rename_i hb
    cases h
    simp only [Bool.and_eq_true] at hb
    obtain ⟨⟨⟨⟨⟨⟨hb0, hb1⟩, hb2⟩, hb3⟩, hb4⟩, hb5⟩, hb6⟩ := hb
    have hobnd : S.o.all (fun p => p.2.bnd c.heap.length) = true := by
      unfold chkPost at hb0
      simp only [Bool.and_eq_true] at hb0
      exact hb0.1.1.2
    have hSt : S.t = none := by
      unfold chkPost at hb0
      simp only [Bool.and_eq_true] at hb0
      simpa using hb0.1.2
    have hag : ∀ i, i < c.heap.length → bcall β β0 ct.heap.length c.heap.length i = β i := fun i hi => by simp only [bcall, hi, if_true]
    obtain ⟨a1, a2, a3, a4, a5⟩ := news_io S ct.heap.length c.heap.length (a.post.length - ct.heap.length)
    generalize hS1 : S.news ct.heap.length c.heap.length (a.post.length - ct.heap.length) = S1 at *
    have B : (∀ (i : Nat) (s : SBlk), c.heap[i]? = some s → (∀ γ bk w, SBlk.ok (E.upd c.nv ct.nx V) γ bk w s ↔ SBlk.ok E γ bk w s) ∧ ∀ bk x, s.at (E.upd c.nv ct.nx V) bk x ↔ s.at E bk x) ∧
        (∀ (i : Nat) (q : SBlk), ct.heap[i]? = some q → (∀ γ bk w, SBlk.ok ((E.sub β S).upd xb ct.nx V) γ bk w q ↔ SBlk.ok (E.sub β S) γ bk w q) ∧ ∀ bk x, q.at ((E.sub β S).upd xb ct.nx V) bk x ↔ q.at (E.sub β S) bk x) ∧
        (∀ (i : Nat) (q : SBlk), a.post[i]? = some q → (∀ γ bk w, SBlk.ok ((E.upd c.nv ct.nx V).sub (bcall β β0 ct.heap.length c.heap.length) (S1.fresh c.nv ct.nx)) γ bk w q ↔ SBlk.ok ((E.sub β S).upd xb ct.nx V) γ bk w q) ∧
          ∀ bk x, q.at ((E.upd c.nv ct.nx V).sub (bcall β β0 ct.heap.length c.heap.length) (S1.fresh c.nv ct.nx)) bk x ↔ q.at ((E.sub β S).upd xb ct.nx V) bk x) ∧
        (a.res.den ((E.upd c.nv ct.nx V).sub (bcall β β0 ct.heap.length c.heap.length) (S1.fresh c.nv ct.nx)) β0 = a.res.den ((E.sub β S).upd xb ct.nx V) β0) ∧
        Facts (E.upd c.nv ct.nx V) (factsI (S1.fresh c.nv ct.nx) a.xf) ∧ Facts (E.upd c.nv ct.nx V) (factsI (S1.fresh c.nv ct.nx) a.facts) ∧ Facts (E.upd c.nv ct.nx V) c.facts ∧
        actS (E.upd c.nv ct.nx V) β c.tmps c.ds = actS E β c.tmps c.ds ∧ kpost (E.upd c.nv ct.nx V) β p Q c.k = kpost E β p Q c.k := by
      unfold xOk at hb6
      rw [Bool.or_eq_true] at hb6
      rcases hb6 with h6 | h6
      · have hnx : ct.nx = 0 := Nat.eq_of_beq_eq_true h6
        rw [hnx, Env.upd_zero] at hxf
        have e1 : E.upd c.nv ct.nx V = E := by rw [hnx, Env.upd_zero]
        have e2 : (E.sub β S).upd xb ct.nx V = E.sub β S := by rw [hnx, Env.upd_zero]
        have e3 : S1.fresh c.nv ct.nx = S1 := by rw [hnx]; rfl
        rw [e1, e2, e3]
        have hsub : E.sub (bcall β β0 ct.heap.length c.heap.length) S1 = E.sub β S := sub_env a1 a2 a3 ⟨a4, a5⟩ hSt hag hobnd
        rw [hsub]
        refine ⟨fun _ _ _ => ⟨fun _ _ _ => Iff.rfl, fun _ _ => Iff.rfl⟩, fun _ _ _ => ⟨fun _ _ _ => Iff.rfl, fun _ _ => Iff.rfl⟩, fun _ _ _ => ⟨fun _ _ _ => Iff.rfl, fun _ _ => Iff.rfl⟩, rfl, ?_, ?_, hF, rfl, rfl⟩
        · exact factsI_put (β := bcall β β0 ct.heap.length c.heap.length) (G := E.sub β S) (fun q _ => by rw [hsub]) hxf
        · exact factsI_put (β := bcall β β0 ct.heap.length c.heap.length) (G := E.sub β S) (fun q _ => by rw [hsub]) hf1
      · simp only [Bool.and_eq_true] at h6
        obtain ⟨⟨⟨⟨⟨⟨⟨⟨⟨⟨⟨x1, x2⟩, x3⟩, x4⟩, x5⟩, x6⟩, x7⟩, x8⟩, x9⟩, x10⟩, x11⟩, x12⟩ := h6
        have x1 := Nat.le_of_ble_eq_true x1
        have hE := Env.upd_ag E c.nv ct.nx V
        have hE2 := Env.upd_ag (E.sub β S) xb ct.nx V
        have hE3 := sub_fresh (E := E) (β := β) (S := S) (S' := S1) (β' := bcall β β0 ct.heap.length c.heap.length) (n := c.heap.length) (nv := c.nv) (m := ct.nx) (V := V) ⟨a1, a2, a3, a4, a5⟩ hSt hag hobnd x2
        refine ⟨fun i s hs => ⟨fun γ bk w => SBlk.ok_ag hE s (vbAll x3 hs) bk w, fun bk x => SBlk.at_ag hE s (vbAll x3 hs) bk x⟩, fun i q hq => ⟨fun γ bk w => SBlk.ok_ag hE2 q (vbAll x4 hq) bk w, fun bk x => SBlk.at_ag hE2 q (vbAll x4 hq) bk x⟩,
          fun i q hq => ⟨fun γ bk w => SBlk.ok_ag hE3 q (vbAll x5 hq) bk w, fun bk x => SBlk.at_ag hE3 q (vbAll x5 hq) bk x⟩, SV.den_ag hE3 β0 a.res x6, ?_, ?_, fun q hq => ?_, actS_ag hE x10 x11, kpost_ag hE x12⟩
        · exact factsI_put (β := bcall β β0 ct.heap.length c.heap.length) (fun q hq => SB.den_ag hE3 q.1 (List.all_eq_true.1 x7 q hq)) hxf
        · refine factsI_put (β := bcall β β0 ct.heap.length c.heap.length) (G := E.sub β S) (fun q hq => ?_) hf1
          have h8 := List.all_eq_true.1 x8 q hq
          have mono : ∀ {m n : Nat} {A B : Env}, m ≤ n → AgE n A B → AgE m A B := fun hmn H => ⟨fun j hj => H.i j (by omega), fun j hj => H.b j (by omega), fun j hj => H.a j (by omega), H.o, H.fn⟩
          rw [SB.den_ag (mono (by omega) hE3 : AgE xb _ _) q.1 h8, SB.den_ag hE2 q.1 h8]
        · rw [SB.den_ag hE q.1 (List.all_eq_true.1 x9 q hq)]; exact hF q hq
    obtain ⟨b1, b2, b3, b4, b5, b6, b7, b8, b9⟩ := B
    obtain ⟨k1, k2, k3, k4⟩ := call_heap (E := E) (β := β) (w := w) (S := S) (Sf := S1.fresh c.nv ct.nx) (E' := E.upd c.nv ct.nx V) hF hw hb2 hch hb0 (by rw [(fresh_ko S1 c.nv ct.nx).1, hS1]) h0 hx0 b1 b2 b3
    refine ⟨E.upd c.nv ct.nx V, _, ⟨Env.upd_ag _ _ _ _, Nat.le_add_right _ _, fun hh => ?_⟩, k2, k1, fun q hq => ?_, fun H => ?_⟩
    · have : ct.nx = 0 := by
        rcases hh with hh | hh
        · simp only at hh; omega
        · exact hnox hh
      rw [this, Env.upd_zero]
    · simp only [List.mem_append] at hq
      rcases hq with hq | hq | hq
      · exact b5 q hq
      · exact b6 q hq
      · exact b7 q hq
    · simp only [Cf.wp] at H
      rw [kpost_agree k4 hb5, putS_ok, actS_agree k4 hb3 hb4, SV.inst_ok (E := E.upd c.nv ct.nx V) k3 a.res hb1, b4, b8, b9] at H
      exact H
  · cases h
theorem nox_ct {p : Prm} (h : p.nox = true) {ct : Ct} (hc : ct ∈ p.ct) : ct.nx = 0 := by
  unfold Prm.nox at h
  rw [Bool.and_eq_true] at h
  simpa using List.all_eq_true.1 h.1 ct hc
theorem nox_bt {p : Prm} (h : p.nox = true) {b : Bt} (hc : b ∈ p.bt) : b.ct.nx = 0 := by
  unfold Prm.nox at h
  rw [Bool.and_eq_true] at h
  simpa using List.all_eq_true.1 h.2 b hc
theorem ctStep_ok (hp : PrmOk E p) (hg : p.gm.ok β) {c c' : Cf} {all : Array Oper} {o : Oper} {rest : Rest} {cl : Call} {ct : Ct} {args : List SV} (hF : Facts E c.facts) (hw : HOk E β c.heap w)
    (hx : c.fo = .ops all { rest with q := (0, o) :: rest.q }) (hwt : Region.wanted o (yielded all (actS E β c.tmps c.ds).tmps) = true) (ho : o.op = .call cl) (hcl : sCall p c.tmps cl = some (ct.g, args)) (hct : ct ∈ p.ct) (h : ctStep p c ct args o.dst all rest = .next c') :
    SoundE E β p Q c w c' := by
  intro H
  unfold ctStep at h
  simp only at h
  generalize mCall p.gm ct args c.heap = S at h
  split at h
  · rename_i hc
    split at h
    · rename_i a ha
      have hch : chkHeap S c.facts ct.heap c.heap = true := by
        unfold chkCall at hc
        simp only [Bool.and_eq_true] at hc
        exact hc.1.2
      obtain ⟨f1, f2⟩ := chkCall_ok hp hg hF hw hct hc ha
      simp only [Cf.wp, hx] at ⊢
      simp only [wpR, wpQ, hwt, if_true]
      unfold opN
      obtain ⟨h1, h2⟩ := sCall_ok (E := E) (w := w) (ds := c.ds.map (SD.den E β)) hp hg ho hcl
      have h1' : (execOp (actS E β c.tmps c.ds).eval o).run p.P w = .ok (.enter ct.g (SV.denL E β args).toArray) w := h1
      rw [h1']
      refine f2.mono fun e w' ⟨β0, V, he, h0, hx0, hxf⟩ => ?_
      subst he
      obtain ⟨E', β', r1, r2, r3, r4, r5⟩ := ctNext_ok (Q := Q) hF hw hch f1 h (fun hh => nox_ct hh hct) h0 hx0 hxf
      exact r5 (H E' β' w' r1 r2 r3 r4)
    · cases h
    · cases h
    · cases h
  · cases h
theorem btStep_ok (hp : PrmOk E p) (hg : p.gm.ok β) {c c' : Cf} {all : Array Oper} {o : Oper} {rest : Rest} (hF : Facts E c.facts) (hw : HOk E β c.heap w)
    (hx : c.fo = .ops all { rest with q := (0, o) :: rest.q }) (hwt : Region.wanted o (yielded all (actS E β c.tmps c.ds).tmps) = true) : ∀ {bs : List Bt}, (∀ b ∈ bs, b ∈ p.bt) → btStep p c all o rest bs = some (.next c') → SoundE E β p Q c w c'
  | [], _, h => by simp [btStep] at h
  | b :: r, hb, h => by
    have next : btStep p c all o rest r = some (.next c') → SoundE E β p Q c w c' := fun h => btStep_ok (bs := r) hp hg hF hw hx hwt (fun b' hb' => hb b' (by simp [hb'])) h
    simp only [btStep] at h
    split at h
    · rename_i xs hsel
      split at h
      · rename_i args hargs
        try simp only at h
        generalize mCall p.gm b.ct args c.heap = S at h
        split at h
        · rename_i hc
          split at h
          · rename_i a ha
            have h := Option.some.inj h
            have hch : chkHeap S c.facts b.ct.heap c.heap = true := by
              unfold chkCall at hc
              simp only [Bool.and_eq_true] at hc
              exact hc.1.2
            obtain ⟨f1, v, w', g1, _, β0, V, hv, h0, hx0, hxf⟩ := chkBt_ok hp hg hF hw (hb b (by simp)) hc ha hsel (evL_ok (ds := c.ds.map (SD.den E β)) hg hargs)
            intro H
            obtain ⟨E', β', r1, r2, r3, r4, r5⟩ := ctNext_ok (Q := Q) hF hw hch f1 h (fun hh => nox_bt hh (hb b (by simp))) h0 hx0 hxf
            have := r5 (H E' β' w' r1 r2 r3 r4)
            simp only [Cf.wp, hx] at ⊢
            rw [← hv] at this
            rcases g1 with g1 | ⟨_, g1, g2⟩
            · exact wpN_value hwt g1 this
            · rw [g2] at this
              exact wpN_sk hwt g1 this
          · cases h
          · cases h
          · exact next h
        · exact next h
      · exact next h
    · exact next h
theorem sAppA_ok {gm : Gm} (hg : gm.ok β) {F : Fx} (hF : Facts E F) {h h' : List SBlk} (hw : HOk E β h w) {tmps : Tm} {ds : List Deferred} {o : Oper} {v : SV} {P : Program}
    (hr : sAppA P gm F h tmps o.op = .ok h' v) : ∃ bk w', (execOp (actD E β tmps ds).eval o).run P w = .ok (.value (v.den E (upB β h.length bk))) w' ∧ HOk E (upB β h.length bk) h' w' ∧ Ext E h β w E h' (upB β h.length bk) w' := by
  unfold sAppA at hr
  split at hr
  · exact sAppend2_ok hg hF hw hr
  · exact sAppend_ok hg hF hw hr
theorem stepRest_ok (hp : PrmOk E p) (hg : p.gm.ok β) {c c' : Cf} {all : Array Oper} {o : Oper} {rest : Rest} (hF : Facts E c.facts) (hw : HOk E β c.heap w)
    (hx : c.fo = .ops all { rest with q := (0, o) :: rest.q }) (hwt : Region.wanted o (yielded all (actS E β c.tmps c.ds).tmps) = true) (h : stepRest p c all o rest = .next c') : SoundE E β p Q c w c' ∨ (Sound E β p Q c w c' ∧ Facts E c'.facts) := by
  unfold Sound
  unfold stepRest at h
  split at h
  · rename_i T a x ho
    split at h
    · rename_i sa sx ha hxx
      split at h
      · rename_i h' hs
        cases h
        refine .inr ⟨fun H => ?_, hF⟩
        obtain ⟨w', h1, h2, h3⟩ := sStore_ok (P := p.P) hw hs
        have := H β w' h3 h2
        simp only [Cf.wp, hx] at this ⊢
        rw [put_undef] at this
        refine wpN_sk hwt ?_ this
        have e1 := ev_ok (E := E) (ds := c.ds.map (SD.den E β)) hg ha
        have e2 := ev_ok (E := E) (ds := c.ds.map (SD.den E β)) hg hxx
        simp only [execOp, ho]
        show (((do Instr.storeAt T ((actD E β c.tmps _).eval a) ((actD E β c.tmps _).eval x); pure Next.skip) : Sem Next)).run p.P w = _
        rw [e1, e2]
        simp [h1]
      · split at h
        · rename_i h' hs
          cases h
          refine .inr ⟨fun H => ?_, hF⟩
          obtain ⟨w', h1, h2, h3⟩ := sStore2_ok (P := p.P) hF hw hs
          have := H β w' h3 h2
          simp only [Cf.wp, hx] at this ⊢
          rw [put_undef] at this
          refine wpN_sk hwt ?_ this
          have e1 := ev_ok (E := E) (ds := c.ds.map (SD.den E β)) hg ha
          have e2 := ev_ok (E := E) (ds := c.ds.map (SD.den E β)) hg hxx
          simp only [execOp, ho]
          show (((do Instr.storeAt T ((actD E β c.tmps _).eval a) ((actD E β c.tmps _).eval x); pure Next.skip) : Sem Next)).run p.P w = _
          rw [e1, e2]
          simp [h1]
        · split at h
          · rename_i h' hs
            cases h
            refine .inr ⟨fun H => ?_, hF⟩
            obtain ⟨w', h1, h2, h3⟩ := sStore3_ok (P := p.P) hF hw hs
            have := H β w' h3 h2
            simp only [Cf.wp, hx] at this ⊢
            rw [put_undef] at this
            refine wpN_sk hwt ?_ this
            have e1 := ev_ok (E := E) (ds := c.ds.map (SD.den E β)) hg ha
            have e2 := ev_ok (E := E) (ds := c.ds.map (SD.den E β)) hg hxx
            simp only [execOp, ho]
            show (((do Instr.storeAt T ((actD E β c.tmps _).eval a) ((actD E β c.tmps _).eval x); pure Next.skip) : Sem Next)).run p.P w = _
            rw [e1, e2]
            simp [h1]
          · cases h
    · cases h
  · rename_i cl ho
    split at h
    · rename_i g args hc
      split at h
      · cases h
      split at h
      · rename_i ct hct
        obtain ⟨m1, m2⟩ := ctSelect_ok hct
        subst m2
        exact .inl (ctStep_ok hp hg hF hw hx hwt ho hc m1 h)
      split at h
      · rename_i fn hfn
        split at h
        · rename_i b hb
          cases h
          refine .inr ⟨fun H => ?_, hF⟩
          have := H β w (Ext.refl _ _ _ _) hw
          simp only [Cf.wp, hx, kpost, hfn] at this ⊢
          simp only [wpR, wpQ, hwt, if_true]
          unfold opN
          obtain ⟨h1, h2⟩ := sCall_ok (E := E) (w := w) (ds := c.ds.map (SD.den E β)) hp hg ho hc
          have h1' : (execOp (actS E β c.tmps c.ds).eval o).run p.P w = .ok (.enter g (SV.denL E β args).toArray) w := h1
          rw [h1']
          have hcalls : Calls p.P g (SV.denL E β args).toArray w (retR p.P (kpost E β p Q c.k) all rest o.dst (actS E β c.tmps c.ds)) := by
            refine calls_of_wp_defers hfn hb ?_
            have e : ({ tmps := (SV.denL E β args).toArray ++ Array.replicate (fn.ntmps - (SV.denL E β args).toArray.size) undef, defers := [] } : Act) = actS E β (Tm.entry args fn.ntmps) [] := by
              unfold actS actD
              rw [Tm.entry_den]; rfl
            rw [e]
            exact this
          exact hcalls.mono fun e w' he => by cases e <;> exact he
        · cases h
      · cases h
    · split at h
      · rename_i h' v hap
        split at h
        · rename_i hb
          cases h
          simp only [Bool.and_eq_true] at hb
          obtain ⟨⟨hb3, hb4⟩, hb5⟩ := hb
          refine .inr ⟨fun H => ?_, hF⟩
          rw [← ho] at hap
          obtain ⟨bk, w', k0, k1, k2⟩ := sAppA_ok (ds := c.ds.map (SD.den E β)) hg hF hw hap
          have := H _ _ k2 k1
          have hag : ∀ i, i < c.heap.length → upB β c.heap.length bk i = β i := fun i hi => upB_ne (by omega)
          simp only [Cf.wp, hx] at this ⊢
          rw [kpost_agree hag hb5, putS_ok, actS_agree hag hb3 hb4] at this
          exact wpN_value hwt k0 this
        · cases h
      · cases h
      · cases h
      · split at h
        · rename_i h' v hap
          cases h
          refine .inr ⟨fun H => ?_, hF⟩
          rw [← ho] at hap
          obtain ⟨w', k0, k1, k2⟩ := sCopy_ok (ds := c.ds.map (SD.den E β)) hg hF hw hap
          have := H _ _ k2 k1
          simp only [Cf.wp, hx] at this ⊢
          rw [putS_ok] at this
          exact wpN_value hwt k0 this
        · cases h
  · rename_i cl ho
    split at h
    · rename_i d hd
      cases h
      refine .inr ⟨fun H => ?_, hF⟩
      have := H β w (Ext.refl _ _ _ _) hw
      simp only [Cf.wp, hx] at this ⊢
      simp only [wpR, wpQ, hwt, if_true]
      unfold opN
      have h1 : (execOp (actS E β c.tmps c.ds).eval o).run p.P w = .ok (.defer (d.den E β)) w := sDefer_ok hg ho hd
      rw [h1]
      rw [put_undef] at this
      exact this
    · cases h
  · cases h
  · rename_i hn1 hn2 hn3 hn4
    split at h
    · rename_i l ks S hrow0
      have hrow := rowOf_ok hrow0
      split at h
      · rename_i hb
        cases h
        simp only [Bool.and_eq_true] at hb
        obtain ⟨⟨⟨⟨hb1, hb2⟩, hb3⟩, hb4⟩, hb5⟩ := hb
        refine .inr ⟨fun H => ?_, hF⟩
        obtain ⟨len, l1, l2, l3, l4⟩ := rowOp_ok (E := E) (w := w) (ds := c.ds.map (SD.den E β)) hg hrow
        obtain ⟨k1, k2⟩ := HOk.pushRow (S := S) hw hb1 hb2 l1 l2 l3
        have := H _ _ k2 k1
        have hag : ∀ i, i < c.heap.length → upB β c.heap.length ⟨w.heap.size, false, len, len, 0, fun _ => .nilIface⟩ i = β i := fun i hi => upB_ne (by omega)
        simp only [Cf.wp, hx] at this ⊢
        rw [kpost_agree hag hb5, putS_ok, actS_agree hag hb3 hb4] at this
        have ev : (SV.own c.heap.length).den E (upB β c.heap.length ⟨w.heap.size, false, len, len, 0, fun _ => .nilIface⟩) = .slice (some ⟨w.heap.size, 0, none⟩) len len := by
          simp only [SV.den, upB_self]; rfl
        rw [ev] at this
        exact wpN_value hwt l4 this
      · cases h
    split at h
    · rename_i l S v hnew
      split at h
      · rename_i hb
        cases h
        simp only [Bool.and_eq_true] at hb
        obtain ⟨⟨⟨⟨hb1, hb2⟩, hb3⟩, hb4⟩, hb5⟩ := hb
        refine .inr ⟨fun H => ?_, hF⟩
        obtain ⟨k1, k2⟩ := HOk.push (S := S) hw hb1 hb2
        have := H _ _ k2 k1
        have hag : ∀ i, i < c.heap.length → upB β c.heap.length { a := w.heap.size } i = β i := fun i hi => upB_ne (by omega)
        simp only [Cf.wp, hx] at this ⊢
        rw [kpost_agree hag hb5, putS_ok, actS_agree hag hb3 hb4] at this
        exact wpN_value hwt (newOp_ok (ds := c.ds.map (SD.den E β)) hg (by rw [upB_self]) (by rw [upB_self]) hnew) this
      · cases h
    · cases h
theorem stepOps_ok (hp : PrmOk E p) (hg : p.gm.ok β) {c c' : Cf} {all : Array Oper} {o : Oper} {rest : Rest} (hF : Facts E c.facts) (hw : HOk E β c.heap w)
    (hx : c.fo = .ops all { rest with q := (0, o) :: rest.q }) (h : stepOps p c all o rest = .next c') : SoundE E β p Q c w c' ∨ (Sound E β p Q c w c' ∧ Facts E c'.facts) := by
  unfold stepOps at h
  split at h
  · rename_i hgd
    have hwt := guardS_run (β := β) (ds := c.ds) hF hgd
    split at h
    · rename_i v hv
      cases h
      refine .inr ⟨fun H => ?_, hF⟩
      have := H β w (Ext.refl _ _ _ _) hw
      simp only [Cf.wp, hx] at this ⊢
      rw [putS_ok] at this
      exact wpN_value hwt (readOp_ok hg hF hw hv) this
    · cases h
    · cases h
    · split at h
      · rename_i s hs
        subst h
        exact .inl (btStep_ok hp hg hF hw hx hwt (fun b hb => hb) hs)
      · exact stepRest_ok hp hg hF hw hx hwt h
  · rename_i hgd
    have hwt := guardS_skip (β := β) (ds := c.ds) hF hgd
    cases h
    refine .inr ⟨fun H => ?_, hF⟩
    have := H β w (Ext.refl _ _ _ _) hw
    simp only [Cf.wp, hx] at this ⊢
    rw [put_undef] at this
    simp only [wpR, wpQ, hwt]
    exact this
  · cases h
  · cases h
theorem ctNext_alts {c : Cf} {ct : Ct} {S : Sub} {a : Alt} {dst : Option Tmp} {all : Array Oper} {rest : Rest} {l : List Fo} : ctNext p c ct S a dst all rest ≠ .alts l := by
  intro h
  unfold ctNext at h
  simp only at h
  split at h <;> cases h
theorem btStep_alts {c : Cf} {all : Array Oper} {o : Oper} {rest : Rest} {l : List Fo} : ∀ {bs : List Bt}, btStep p c all o rest bs ≠ some (.alts l)
  | [], h => by cases h
  | b :: r, h => by
    have next : btStep p c all o rest r ≠ some (.alts l) := btStep_alts
    simp only [btStep] at h
    split at h
    · split at h
      · split at h
        · split at h
          · exact ctNext_alts (Option.some.inj h)
          · cases h
          · cases h
          · exact next h
        · exact next h
      · exact next h
    · exact next h
theorem stepRest_alts {c : Cf} {all : Array Oper} {o : Oper} {rest : Rest} {l : List Fo} : stepRest p c all o rest ≠ .alts l := by
  intro h
  unfold stepRest at h
  split at h
  · split at h
    · split at h
      · cases h
      · split at h
        · cases h
        · split at h <;> cases h
    · cases h
  · split at h
    · split at h
      · cases h
      split at h
      · unfold ctStep at h
        simp only at h
        split at h
        · split at h
          · exact ctNext_alts h
          · cases h
          · cases h
          · cases h
        · cases h
      split at h
      · split at h <;> cases h
      · cases h
    · split at h
      · split at h <;> cases h
      · cases h
      · cases h
      · split at h <;> cases h
  · split at h <;> cases h
  · cases h
  · split at h
    · split at h <;> cases h
    split at h
    · split at h <;> cases h
    · cases h
theorem softV_ok (hp : PrmOk E p) (hg : p.gm.ok β) {c : Cf} {all : Array Oper} {o : Oper} {v : SV} (hF : Facts E c.facts) (hw : HOk E β c.heap w) (h : softV p c all o = .val v) :
    QW p.P all o (actS E β c.tmps c.ds) w (v.den E β) := by
  unfold softV at h
  split at h
  · rename_i hgd
    have hwt := guardS_run (β := β) (ds := c.ds) hF hgd
    refine .inr ⟨hwt, ?_⟩
    split at h
    · exact btRead_ok (ds := c.ds.map (SD.den E β)) hp hg hF hw (fun b hb => hb) h
    · exact readOp_ok (ds := c.ds.map (SD.den E β)) hg hF hw h
  · rename_i hgd
    cases h
    exact .inl ⟨guardS_skip (β := β) (ds := c.ds) hF hgd, by simp [SV.den, SV.denL, undef]⟩
  · cases h
  · cases h
theorem sameS_ok {tmps : Tm} {ds : List SD} {dst : Option Tmp} {v : SV} (h : sameS tmps dst v = true) : (actS E β tmps ds).put dst (v.den E β) = actS E β tmps ds := by
  unfold sameS at h
  cases dst with
  | none => rfl
  | some d =>
    simp only at h
    split at h
    · rename_i u hu
      have hvu := SV.same_ok h
      subst hvu
      have hd : (actS E β tmps ds).tmps[d]? = some (v.den E β) := by
        show (tmps.den E β)[d]? = _
        rw [Tm.den_get?, hu]; rfl
      simp only [Act.put]
      have : (actS E β tmps ds).tmps.setIfInBounds d (v.den E β) = (actS E β tmps ds).tmps := by
        refine Array.ext_getElem? fun s => ?_
        rw [Array.getElem?_setIfInBounds]
        split
        · rename_i hds
          subst hds
          rw [hd]
          have := (Array.getElem?_eq_some_iff.1 hd).1
          simp [this]
        · rfl
      rw [this]
    · cases h
theorem stepSoft_ok (hp : PrmOk E p) (hg : p.gm.ok β) {c c' : Cf} {all : Array Oper} {o : Oper} {rest : Rest} (hF : Facts E c.facts) (hw : HOk E β c.heap w)
    (hx : c.fo = .ops all { rest with q := (1, o) :: rest.q }) (h : stepSoft p c all o rest = .next c') : Sound E β p Q c w c' ∧ Facts E c'.facts := by
  unfold stepSoft at h
  split at h
  · rename_i v hv
    cases h
    refine ⟨fun H => ?_, hF⟩
    have := H β w (Ext.refl _ _ _ _) hw
    simp only [Cf.wp, hx] at this ⊢
    rw [putS_ok] at this
    exact ⟨_, softV_ok hp hg hF hw hv, this⟩
  · cases h
  · cases h
  · cases h
theorem stepAgain_ok (hp : PrmOk E p) (hg : p.gm.ok β) {c c' : Cf} {all : Array Oper} {o : Oper} {n : Nat} {rest : Rest} (hF : Facts E c.facts) (hw : HOk E β c.heap w)
    (hx : c.fo = .ops all { rest with q := (n + 2, o) :: rest.q }) (h : stepAgain p c all o rest = .next c') : Sound E β p Q c w c' ∧ Facts E c'.facts := by
  unfold stepAgain at h
  split at h
  · rename_i v hv
    split at h
    · rename_i hs
      cases h
      refine ⟨fun H => ?_, hF⟩
      have := H β w (Ext.refl _ _ _ _) hw
      simp only [Cf.wp, hx] at this ⊢
      exact ⟨⟨_, softV_ok hp hg hF hw hv, sameS_ok hs⟩, this⟩
    · cases h
  · cases h
  · cases h
  · cases h
theorem hardS_ok {c : Cf} {all : Array Oper} {M : List Nat} {k : Nat} {dn : List Nat} {h : Nat} (hm : h ∈ candsM all M dn) (H : ({ c with fo := hardS all M k dn h } : Cf).wp E β p Q w) {o : Oper} (ho : all[h]? = some o) :
    wpQ p.P all (LetsOut (kpost E β p Q c.k)) (wpA p.P all M (kpost E β p Q c.k) k (h :: dn)) ((0, o) :: behindM all M dn h) (actS E β c.tmps c.ds) w := by
  unfold hardS at H
  rw [ho] at H
  exact H
theorem plan_wp {c : Cf} {all : Array Oper} {M : List Nat} {k : Nat} {dn : List Nat} (hx : c.fo = .ops all ⟨[], k + 1, dn, M⟩) (h0 : candsM all M dn = [] → ({ c with fo := .exit .normal } : Cf).wp E β p Q w)
    (h1 : ∀ h ∈ candsM all M dn, ({ c with fo := hardS all M k dn h } : Cf).wp E β p Q w) : c.wp E β p Q w := by
  unfold Cf.wp
  rw [hx]
  exact ⟨h0, fun h hm o ho => hardS_ok hm (h1 h hm) ho⟩
theorem stepPlan_ok {c c' : Cf} {all : Array Oper} {M : List Nat} {k : Nat} {dn : List Nat} (hF : Facts E c.facts) (hw : HOk E β c.heap w) (hx : c.fo = .ops all ⟨[], k + 1, dn, M⟩) (h : stepPlan c all M k dn = .next c') :
    Sound E β p Q c w c' ∧ Facts E c'.facts := by
  unfold stepPlan at h
  split at h
  · rename_i hc
    cases h
    exact ⟨fun H => plan_wp hx (fun _ => H β w (Ext.refl _ _ _ _) hw) (fun h hm => (by rw [hc] at hm; cases hm)), hF⟩
  · rename_i h' hc
    cases h
    refine ⟨fun H => plan_wp hx (fun hh => (by rw [hc] at hh; cases hh)) (fun h hm => ?_), hF⟩
    rw [hc, List.mem_singleton] at hm
    subst hm
    exact H β w (Ext.refl _ _ _ _) hw
  · cases h
theorem alts_ok {c : Cf} {l : List Fo} (h : step p c = .alts l) (H : ∀ fo ∈ l, ({ c with fo := fo } : Cf).wp E β p Q w) : c.wp E β p Q w := by
  unfold step at h
  split at h
  · rename_i x hx
    exfalso
    have key : ∀ (F G : Fx), hintGo F G ≠ some (.alts l) := by
      intro F G
      induction G with
      | nil => intro hh; cases hh
      | cons q r ih =>
        intro hh
        obtain ⟨b, t⟩ := q
        simp only [hintGo] at hh
        split at hh
        · split at hh
          · exact ih hh
          · cases hh
        · cases hh
    have key2 : ∀ (F : Fx) (l' : List SB), partGo F l' ≠ some (.alts l) := by
      intro F l'
      induction l' with
      | nil => intro hh; cases hh
      | cons b r ih =>
        intro hh
        simp only [partGo] at hh
        split at hh
        · exact ih hh
        · cases hh
    split at h
    · rename_i s hs
      subst h
      unfold hintS at hs
      split at hs
      · split at hs
        · rename_i s hg
          cases hs
          exact key _ _ hg
        · exact key2 _ _ hs
      · cases hs
    · unfold stepCode at h
      split at h <;> (try cases h)
      · split at h
        · split at h <;> cases h
        · cases h
      · split at h <;> cases h
      · simp only at h
        split at h <;> cases h
  · cases h
  · rename_i all k dn M hx
    unfold stepPlan at h
    split at h
    · cases h
    · cases h
    · cases h
      refine plan_wp hx (fun hh => ?_) (fun h hm => H _ (List.mem_map.2 ⟨h, hm, rfl⟩))
      rename_i hn _
      exact (hn hh).elim
  · exfalso
    rename_i all o q k dn M hx
    unfold stepOps at h
    split at h
    · split at h
      · cases h
      · cases h
      · cases h
      · split at h
        · rename_i s hs
          subst h
          exact btStep_alts hs
        · exact stepRest_alts h
    · cases h
    · cases h
    · cases h
  · exfalso
    unfold stepSoft at h
    split at h <;> cases h
  · exfalso
    unfold stepAgain at h
    split at h
    · split at h <;> cases h
    · cases h
    · cases h
    · cases h
  · exfalso
    unfold stepExit at h
    split at h
    · cases h
    · split at h <;> cases h
    · split at h
      · split at h <;> cases h
      · cases h
    · split at h
      · split at h <;> cases h
      · cases h
    · split at h
      · cases h
      · split at h
        · split at h
          · split at h <;> cases h
          · cases h
        · cases h
theorem stepExit_ok (hp : PrmOk E p) {c c' : Cf} {e : SX} (hF : Facts E c.facts) (hw : HOk E β c.heap w) (hx : c.fo = .exit e) (h : stepExit p c e = .next c') : Sound E β p Q c w c' ∧ Facts E c'.facts := by
  unfold Sound
  unfold stepExit at h
  split at h
  · cases h
  · rename_i b k hk
    cases e <;> cases h <;> refine ⟨fun H => ?_, hF⟩ <;> have := H β w (Ext.refl _ _ _ _) hw <;> simp only [Cf.wp, hx, hk, kpost] at this ⊢ <;> exact this
  · rename_i id k hk
    cases e with
    | normal => cases h; refine ⟨fun H => ?_, hF⟩; have := H β w (Ext.refl _ _ _ _) hw; simp only [Cf.wp, hx, hk, kpost] at this ⊢; exact this
    | ret => cases h; refine ⟨fun H => ?_, hF⟩; have := H β w (Ext.refl _ _ _ _) hw; simp only [Cf.wp, hx, hk, kpost] at this ⊢; exact this
    | ex j =>
      simp only at h
      split at h
      · rename_i hj; subst hj; cases h; refine ⟨fun H => ?_, hF⟩; have := H β w (Ext.refl _ _ _ _) hw; simp only [Cf.wp, hx, hk, kpost] at this ⊢
        simp only [SX.den, Exit.inBlock, if_true]; exact this
      · rename_i hj; cases h; refine ⟨fun H => ?_, hF⟩; have := H β w (Ext.refl _ _ _ _) hw; simp only [Cf.wp, hx, hk, kpost] at this ⊢
        simp only [SX.den, Exit.inBlock, hj, if_false]; exact this
  · rename_i b k hk
    cases e with
    | normal =>
      simp only at h
      split at h
      · cases h
      · cases h; refine ⟨fun H => ?_, hF⟩; have := H β w (Ext.refl _ _ _ _) hw; simp only [Cf.wp, hx, hk, kpost] at this ⊢; exact loopC_of this
    | ret => cases h; refine ⟨fun H => ?_, hF⟩; have := H β w (Ext.refl _ _ _ _) hw; simp only [Cf.wp, hx, hk, kpost] at this ⊢; exact this
    | ex j => cases h; refine ⟨fun H => ?_, hF⟩; have := H β w (Ext.refl _ _ _ _) hw; simp only [Cf.wp, hx, hk, kpost] at this ⊢; exact this
  · rename_i f dst tmps ds all rest fid k hk
    have h' : (∀ j, e ≠ .ex j) ∧ (if c.ds.all (SD.fine p) then
        match p.P.funcs[f]? with
        | some fn => match sRes p.P c.facts c.heap c.tmps fn.results.toList with
          | some v => Stp.next { c with tmps := putS tmps dst v, ds := ds, fo := .ops all rest, k := k, fid := fid }
          | none => .stop
        | none => .stop
      else .stop) = .next c' := by
      cases e with
      | ex j => cases h
      | normal => exact ⟨fun j hj => (by cases hj), h⟩
      | ret => exact ⟨fun j hj => (by cases hj), h⟩
    clear h
    obtain ⟨hne, h⟩ := h'
    · split at h
      · rename_i hfine
        split at h
        · rename_i fn hfn
          split at h
          · rename_i v hv
            cases h
            refine ⟨fun H => ?_, hF⟩
            have := H β w (Ext.refl _ _ _ _) hw
            simp only [Cf.wp, hx, hk, kpost, hfn] at this ⊢
            have hl : Leaves p.P fn (c.tmps.den E β) (retR p.P (kpost E β p Q k) all rest dst (actS E β tmps ds)) (c.ds.map (SD.den E β)) .returning w :=
              benign_leaves hp hfine ⟨_, sRes_ok hF hw hv, by rw [putS_ok] at this; exact this⟩
            cases e with
            | normal => exact hl
            | ex id => exact (hne id rfl).elim
            | ret => exact hl
          · cases h
        · cases h
      · cases h
theorem step_ok (hp : PrmOk E p) (hg : p.gm.ok β) {c c' : Cf} (hb : ∀ q ∈ p.gm, q.2 < c.heap.length) (hF : Facts E c.facts) (hw : HOk E β c.heap w) (h : step p c = .next c') (hn : c.nv ≤ c'.nv) : SoundE E β p Q c w c' := by
  unfold step at h
  split at h
  · rename_i x hx
    split at h
    · rename_i s hs
      subst h
      exfalso
      have key : ∀ (G : Fx), hintGo c.facts G ≠ some (.next c') := by
        intro G
        induction G with
        | nil => intro hh; cases hh
        | cons q r ih =>
          intro hh
          obtain ⟨b, t⟩ := q
          simp only [hintGo] at hh
          split at hh
          · split at hh
            · exact ih hh
            · cases hh
          · cases hh
      have key2 : ∀ (l : List SB), partGo c.facts l ≠ some (.next c') := by
        intro l
        induction l with
        | nil => intro hh; cases hh
        | cons b r ih =>
          intro hh
          simp only [partGo] at hh
          split at hh
          · exact ih hh
          · cases hh
      unfold hintS at hs
      split at hs
      · split at hs
        · rename_i s hg
          cases hs
          exact key _ hg
        · exact key2 _ hs
      · cases hs
    · exact SoundE.of hn (stepCode_ok hp hg hb hF hw hx h)
  · rename_i all dn M hx
    cases h
    refine SoundE.of hn ⟨fun H => ?_, hF⟩
    have := H β w (Ext.refl _ _ _ _) hw
    simp only [Cf.wp, hx] at this ⊢
    exact this
  · rename_i all k dn M hx; exact SoundE.of hn (stepPlan_ok hF hw hx h)
  · rename_i all o q k dn M hx; exact (stepOps_ok (rest := ⟨q, k, dn, M⟩) hp hg hF hw hx h).elim id (SoundE.of hn)
  · rename_i all o q k dn M hx; exact SoundE.of hn (stepSoft_ok (rest := ⟨q, k, dn, M⟩) hp hg hF hw hx h)
  · rename_i all n o q k dn M hx; exact SoundE.of hn (stepAgain_ok (rest := ⟨q, k, dn, M⟩) hp hg hF hw hx h)
  · rename_i e hx; exact SoundE.of hn (stepExit_ok hp hF hw hx h)
theorem gm_ext {E' : Env} {h h' : List SBlk} {β' : Nat → Bk} {w' : World} (hg : p.gm.ok β) (hb : ∀ q ∈ p.gm, q.2 < h.length) (x : Ext E h β w E' h' β' w') : p.gm.ok β' ∧ ∀ q ∈ p.gm, q.2 < h'.length :=
  ⟨fun q hq => by rw [x.agree _ (hb q hq)]; exact hg q hq, fun q hq => Nat.lt_of_lt_of_le (hb q hq) x.len⟩
theorem PrmOk.fn {E' : Env} (hp : PrmOk E p) (h : E'.fn = E.fn) : PrmOk E' p :=
  ⟨fun b hb => by rw [h]; exact hp.bt b hb, fun c hc => by rw [h]; exact hp.ct c hc, hp.mix, hp.okf, hp.body, hp.mts, hp.dfr, hp.dfk⟩
theorem run_sound : ∀ (n : Nat) (c : Cf) (E : Env) (β : Nat → Bk) (w : World) (Q : Exit → Act → World → Prop), PrmOk E p → p.gm.ok β → (∀ q ∈ p.gm, q.2 < c.heap.length) → Facts E c.facts → HOk E β c.heap w →
    (∀ l ∈ run p n c, LeafOk E p Q c.nv c.heap β w l) → c.wp E β p Q w
  | 0, c, E, β, w, Q, hp, hg, hb, hF, hw, H => by
    have := H (false, c) (by simp [run]) E (RelE.refl _ _ _) hF
    exact this.2 β w (Ext.refl _ _ _ _) hw
  | n + 1, c, E, β, w, Q, hp, hg, hb, hF, hw, H => by
    simp only [run] at H
    split at H
    · rename_i c' hs
      cases hn : Nat.ble c.nv c'.nv with
      | false =>
        rw [hn] at H
        have := H (false, c) (by simp) E (RelE.refl _ _ _) hF
        exact this.2 β w (Ext.refl _ _ _ _) hw
      | true =>
        rw [hn] at H
        simp only [cond_true] at H
        have hn := Nat.le_of_ble_eq_true hn
        have h1 := step_ok (Q := Q) hp hg hb hF hw hs hn
        refine h1 fun E' β' w' hR hx hw' h2 => ?_
        obtain ⟨hg', hb'⟩ := gm_ext hg hb hx
        refine run_sound n c' E' β' w' Q (hp.fn hR.1.fn) hg' hb' h2 hw' fun l hl E'' hR' hf => ?_
        obtain ⟨e1, e2⟩ := H l hl E'' (hR.trans hR') hf
        exact ⟨e1, fun β'' w'' hx' hw'' => e2 β'' w'' (hx.trans hx') hw''⟩
    · rename_i b hs
      cases hd : (strip b).den E with
      | true =>
        refine run_sound n { c with facts := (strip b, true) :: c.facts } E β w Q hp hg hb ?_ hw fun l hl => H l (List.mem_append_left _ hl)
        intro q hq
        simp only [List.mem_cons] at hq
        rcases hq with rfl | hq
        · exact hd
        · exact hF q hq
      | false =>
        refine run_sound n { c with facts := (strip b, false) :: c.facts } E β w Q hp hg hb ?_ hw fun l hl => H l (List.mem_append_right _ hl)
        intro q hq
        simp only [List.mem_cons] at hq
        rcases hq with rfl | hq
        · exact hd
        · exact hF q hq
    · rename_i l hs
      refine alts_ok hs fun fo hfo => run_sound n { c with fo := fo } E β w Q hp hg hb hF hw fun l' hl' => H l' (List.mem_flatMap.2 ⟨fo, hfo, hl'⟩)
    · have := H (true, c) (by simp) E (RelE.refl _ _ _) hF
      cases this.1
    · have := H (false, c) (by simp) E (RelE.refl _ _ _) hF
      exact this.2 β w (Ext.refl _ _ _ _) hw
structure Out where
  dead : Bool
  facts : Fx
  res : SV
  heap : List SBlk
def outOf (p : Prm) (l : Bool × Cf) : Option Out :=
  if l.1 then some ⟨true, l.2.facts, .tup [], []⟩ else
  match l.2.k, l.2.fo with
  | [], .exit (.ex _) => none
  | [], .exit _ => if l.2.ds.all (SD.fine p) then
      match p.P.funcs[l.2.fid]? with
      | some fn => match sRes p.P l.2.facts l.2.heap l.2.tmps fn.results.toList with
        | some v => some ⟨false, l.2.facts, v, l.2.heap⟩
        | none => none
      | none => none
    else none
  | _, _ => none
def enter (p : Prm) (f : FuncId) (args : List SV) (heap : List SBlk) (F : Fx) : Option Cf :=
  match p.P.funcs[f]? with
  | some fn => match fn.body with
    | some b => some { tmps := Tm.entry args fn.ntmps, ds := [], heap := heap, facts := F, fo := .code b, k := [], fid := f }
    | none => none
  | none => none
end Go.Sy
