/- Maps from whole numbers, as arrays: which keys are there, which values they have; rules for the operations on them. -/
import Derived.Test.YtjanndmmhjnpcaaDoorSyR
import Derived.MapKept
set_option autoImplicit true
set_option relaxedAutoImplicit true
set_option linter.unusedVariables false
set_option linter.unusedSimpArgs false
namespace Go.Sy
open Go Go.MapKept
section
variable {P : Program} {w : World}
def MapV (w : World) (r : Nat) (ik : IntKind) (off : Nat) (pres : Nat → Int) (val : Nat → Value) : Prop :=
  ∃ es clock, w.heap[r]? = some (.map es clock) ∧ Stamped es clock ∧ (∀ x ∈ es.toList, ∃ z : Nat, x.key = .int ik ((z : Int) - off) ∧ pres z ≠ 0 ∧ x.val = val z) ∧ ∀ z : Nat, pres z ≠ 0 → ∃ x ∈ es.toList, x.key = .int ik ((z : Int) - off)
theorem MapV.frame {w' : World} {r : Nat} {ik : IntKind} {off : Nat} {pres : Nat → Int} {val : Nat → Value} (h : MapV w r ik off pres val) (hs : w'.heap[r]? = w.heap[r]?) : MapV w' r ik off pres val := by
  obtain ⟨es, clock, h1, h2⟩ := h
  exact ⟨es, clock, by rw [hs]; exact h1, h2⟩
theorem isKey_int (ik : IntKind) (n : Int) : IsKey (.int ik) (.int ik n) := by simp [IsKey]
theorem key_inj {ik : IntKind} {off z z' : Nat} (h : Value.int ik ((z : Int) - off) = .int ik ((z' : Int) - off)) : z = z' := by
  have := Value.int.inj h; omega
theorem mapv_find {r : Nat} {ik : IntKind} {off : Nat} {pres : Nat → Int} {val : Nat → Value} {es : Array MapEntry} {z : Nat} (h1 : ∀ x ∈ es.toList, ∃ z : Nat, x.key = .int ik ((z : Int) - off) ∧ pres z ≠ 0 ∧ x.val = val z) (h2 : ∀ z : Nat, pres z ≠ 0 → ∃ x ∈ es.toList, x.key = .int ik ((z : Int) - off)) :
    (pres z = 0 ∧ Instr.findNow (.int ik) (.int ik ((z : Int) - off)) es.toList 0 = some none ∧ ∀ x ∈ es.toList, x.key ≠ .int ik ((z : Int) - off)) ∨
    (pres z ≠ 0 ∧ ∃ j e, Instr.findNow (.int ik) (.int ik ((z : Int) - off)) es.toList 0 = some (some (0 + j, e.val)) ∧ es.toList[j]? = some e ∧ e.key = .int ik ((z : Int) - off) ∧ e.val = val z) := by
  have hkeys : ∀ x ∈ es.toList, IsKey (.int ik) x.key := fun x hx => by
    obtain ⟨z, e, _⟩ := h1 x hx
    rw [e]; exact isKey_int ik _
  rcases findNow_spec (isKey_int ik ((z : Int) - off)) es.toList 0 hkeys with ⟨f1, f2⟩ | ⟨j, e, f1, f2, f3⟩
  · refine .inl ⟨?_, f1, f2⟩
    by_cases hz : pres z = 0
    · exact hz
    · obtain ⟨x, hx, hxk⟩ := h2 z hz
      exact absurd hxk (f2 x hx)
  · obtain ⟨z', e1, e2, e3⟩ := h1 e (List.mem_of_getElem? f2)
    have : z' = z := key_inj (e1.symm.trans f3)
    subst this
    exact .inr ⟨e2, j, e, f1, f2, f3, e3⟩
theorem mapv_lookup {mty kt et r : Nat} {ik : IntKind} {off : Nat} {pres : Nat → Int} {val : Nat → Value} {z : Nat} {zv : Value} (h : MapV w r ik off pres val) (hm : P.underlying mty = some (.map kt et)) (hk : P.underlying kt = some (.int ik)) (hz : (zeroValue et).run P w = .ok zv w) (ok : Bool) :
    (Instr.lookup mty (.map (some r)) (.int ik ((z : Int) - off)) ok).run P w = .ok (if ok then .tuple #[if pres z = 0 then zv else val z, .bool (pres z != 0)] else if pres z = 0 then zv else val z) w := by
  obtain ⟨es, clock, hb, hs, h1, h2⟩ := h
  have hck := run_checkKey (P := P) (w := w) hk (isKey_int ik ((z : Int) - off))
  unfold Instr.lookup
  rcases mapv_find (r := r) (z := z) h1 h2 with ⟨hA, f1, _⟩ | ⟨hA, j, e, f1, _, _, f4⟩
  · have hfk := run_findKey (P := P) (w := w) hk f1
    simp only [Sem.run_bind, run_underlying hm, Result.andThen_ok, MapKept.run_getObj_map hb, Sem.run_pure, hck, hfk]
    cases ok <;> simp [hz, hA, Sem.run_bind]
  · have hfk := run_findKey (P := P) (w := w) hk f1
    simp only [Sem.run_bind, run_underlying hm, Result.andThen_ok, MapKept.run_getObj_map hb, Sem.run_pure, hck, hfk]
    cases ok <;> simp [hA, f4, Sem.run_bind]
def mset (w : World) (r : Nat) (o : Obj) : World := { w with heap := w.heap.setIfInBounds r o }
theorem mapv_update {mty kt et r : Nat} {ik : IntKind} {off : Nat} {pres : Nat → Int} {val : Nat → Value} {z : Nat} {v : Value} (h : MapV w r ik off pres val) (hm : P.underlying mty = some (.map kt et)) (hk : P.underlying kt = some (.int ik)) :
    ∃ o, (Instr.mapUpdate mty (.map (some r)) (.int ik ((z : Int) - off)) v).run P w = .ok () (mset w r o) ∧ MapV (mset w r o) r ik off (fun y => if y = z then 1 else pres y) (fun y => if y = z then v else val y) := by
  obtain ⟨es, clock, hb, hs, h1, h2⟩ := h
  have hkey := isKey_int ik ((z : Int) - off)
  rcases mapv_find (r := r) (z := z) h1 h2 with ⟨hA, f1, f2⟩ | ⟨hA, j, e, f1, f2, f3, f4⟩
  · refine ⟨.map (es.push { key := .int ik ((z : Int) - off), val := v, born := clock }) (clock + 1), by simp [Instr.mapUpdate, run_underlying hm, MapKept.run_getObj_map hb, run_checkKey hk hkey, run_findKey hk f1, run_setObj_map _ hb, Result.andThen, mset], _, _, (heap_set hb).1, stamped_push hs f2, ?_, ?_⟩
    · intro x hx
      simp only [Array.toList_push, List.mem_append, List.mem_singleton] at hx
      rcases hx with hx | rfl
      · obtain ⟨y, e1, e2, e3⟩ := h1 x hx
        have hne : y ≠ z := fun hh => f2 x hx (by rw [e1, hh])
        exact ⟨y, e1, by simp only [hne, if_false]; exact e2, by simp only [hne, if_false]; exact e3⟩
      · exact ⟨z, rfl, by simp, by simp⟩
    · intro y hy
      by_cases hyz : y = z
      · subst hyz; exact ⟨{ key := .int ik ((y : Int) - off), val := v, born := clock }, by simp, rfl⟩
      · simp only [hyz, if_false] at hy
        obtain ⟨x, hx, hxk⟩ := h2 y hy
        exact ⟨x, by simp [hx], hxk⟩
  · have hj : es[j]? = some e := by simpa using f2
    have hkey' : ∀ e', es[j]? = some e' → ({ e' with key := (.int ik ((z : Int) - off)), val := v } : MapEntry).key = e'.key := fun e' he' => by rw [hj] at he'; cases he'; exact f3.symm
    refine ⟨.map (es.modify j fun e => { e with key := .int ik ((z : Int) - off), val := v }) clock, by simp [Instr.mapUpdate, run_underlying hm, MapKept.run_getObj_map hb, run_checkKey hk hkey, run_findKey hk f1, hj, f3, run_keyThatStays hkey, run_setObj_map _ hb, Result.andThen, mset], _, _, (heap_set hb).1, stamped_modify hs _ _ (fun _ _ => rfl) (fun e' _ he' => hkey' e' he'), ?_, ?_⟩
    · intro x hx
      obtain ⟨k, hk'⟩ := List.getElem?_of_mem hx
      have hk2 : (es.modify j fun e => { e with key := (.int ik ((z : Int) - off)), val := v })[k]? = some x := by rw [← Array.getElem?_toList]; exact hk'
      rw [Array.getElem?_modify] at hk2
      split at hk2
      · rw [Option.map_eq_some_iff] at hk2
        obtain ⟨y, _, rfl⟩ := hk2
        exact ⟨z, rfl, by simp, by simp⟩
      · rename_i hjk
        obtain ⟨y, e1, e2, e3⟩ := h1 x (by have := Array.mem_of_getElem? hk2; simpa using this)
        have hne : y ≠ z := fun hh => by
          subst hh
          have hnd := hs.2.2
          have a1 : (es.toList.map (·.key))[j]? = some (.int ik ((y : Int) - off)) := by rw [List.getElem?_map, f2, Option.map_some, f3]
          have a2 : (es.toList.map (·.key))[k]? = some (.int ik ((y : Int) - off)) := by
            have : es.toList[k]? = some x := by simpa using hk2
            rw [List.getElem?_map, this, Option.map_some, e1]
          have hj1 : j < (es.toList.map (·.key)).length := (List.getElem?_eq_some_iff.1 a1).1
          exact hjk ((List.getElem?_inj hj1 hnd).1 (a1.trans a2.symm))
        exact ⟨y, e1, by simp only [hne, if_false]; exact e2, by simp only [hne, if_false]; exact e3⟩
    · intro y hy
      by_cases hyz : y = z
      · subst hyz
        refine ⟨{ e with key := (.int ik ((y : Int) - off)), val := v }, ?_, rfl⟩
        have : (es.modify j fun e => { e with key := (.int ik ((y : Int) - off)), val := v })[j]? = some { e with key := (.int ik ((y : Int) - off)), val := v } := by
          rw [Array.getElem?_modify, if_pos rfl, hj]; rfl
        exact Array.mem_toList_iff.2 (Array.mem_of_getElem? this)
      · simp only [hyz, if_false] at hy
        obtain ⟨x, hx, hxk⟩ := h2 y hy
        obtain ⟨k, hk'⟩ := List.getElem?_of_mem hx
        have hk2 : es[k]? = some x := by simpa using hk'
        refine ⟨x, ?_, hxk⟩
        have hjk : j ≠ k := fun hh => by
          subst hh
          rw [hj] at hk2; cases hk2
          exact hyz (key_inj (hxk.symm.trans f3))
        have : (es.modify j fun e => { e with key := (.int ik ((z : Int) - off)), val := v })[k]? = some x := by
          rw [Array.getElem?_modify, if_neg hjk]; exact hk2
        exact Array.mem_toList_iff.2 (Array.mem_of_getElem? this)
end
section
variable {E : Env} {β : Nat → Bk} {P : Program} {w : World}
theorem mset_other {r x : Nat} {o : Obj} (h : x ≠ r) : (mset w r o).heap[x]? = w.heap[x]? := by
  unfold mset; rw [Array.getElem?_setIfInBounds_ne (Ne.symm h)]
theorem mset_size {r : Nat} {o : Obj} : (mset w r o).heap.size = w.heap.size := by simp [mset]
theorem one_put {k : Nat} {l l' : SL} {o : Obj} (hw : HOk E β [.pr k l] w) (hft : ∀ x, E.fn.ft k (l.den E) (β 0).a (β 0).v x ↔ x = (β 0).a) (hft' : ∀ x, E.fn.ft k (l'.den E) (β 0).a (β 0).v x → x = (β 0).a)
    (hp : E.fn.p k (l'.den E) (β 0).a (β 0).v (mset w (β 0).a o)) : HOk E β [.pr k l'] (mset w (β 0).a o) ∧ Ext E [.pr k l] β w E [.pr k l'] β (mset w (β 0).a o) :=
  HOk.put (b := 0) (s0 := .pr k l) (s1 := .pr k l') hw rfl trivial (fun x hx => (hft x).2 (hft' x hx)) mset_size (fun x hx => mset_other fun hh => hx ((hft x).2 hh)) rfl rfl rfl hp
theorem one_new {k : Nat} {l : SL} {o : Obj} (hft : ∀ x, E.fn.ft k (l.den E) w.heap.size (.slice none 0 0) x → x = w.heap.size) (hp : E.fn.p k (l.den E) w.heap.size (.slice none 0 0) (w.alloc o)) :
    HOk E (upB β 0 { a := w.heap.size }) [.pr k l] (w.alloc o) ∧ Ext E [] β w E [.pr k l] (upB β 0 { a := w.heap.size }) (w.alloc o) := by
  have hold : ∀ c, c < w.heap.size → (w.alloc o).heap[c]? = w.heap[c]? := fun c hc => by
    show (w.heap.push _)[c]? = _
    rw [Array.getElem?_push, if_neg (by omega)]
  have := HOk.more (E := E) (β := β) (h := []) (w := w) (s0 := .pr k l) (bk := { a := w.heap.size }) (w' := w.alloc o) hok_nil rfl rfl rfl rfl (by simp) hold (fun x hx => by have := hft x hx; subst this; simp) hp
  exact this
end
def AE.z : AE := .tl (.v 0) (.c 0) .nil
theorem AE.z_den (E : Env) : AE.z.den E = fun _ => 0 := by funext j; simp [AE.z, AE.den, SE.den, SL.nth]
section
variable {E : Env} {β : Nat → Bk} {P : Program} {w : World} {fns : Fns}
structure MapB (fns : Fns) (k : Nat) (ik : IntKind) (off : Nat) : Prop where
  p : ∀ A B a v w, fns.p k [.a A, .a B] a v w ↔ MapV w a ik off A (fun z => .bool (B z != 0))
  ft : ∀ l a v x, fns.ft k l a v x ↔ x = a
def mapS (k : Nat) (a b : AE) : SBlk := .pr k (.a a (.a b .nil))
def btMake (T k : Nat) : Bt where
  sel op := match op with
    | .makeMap t none => if t = T then some [] else none
    | _ => none
  ct := { g := 0, args := [], heap := [], alts := [{ res := .map 0, post := [mapS k AE.z AE.z] }] }
def btGet (T k : Nat) (ik : IntKind) (off : Nat) : Bt where
  sel op := match op with
    | .lookup t m x false => if t = T then some [m, x] else none
    | _ => none
  rd := true
  ct := { g := 0, args := [.map 0, .int ik (.v 0)], heap := [mapS k (.v 0) (.v 1)], pre := [(.le (.c (-(off : Int))) (.v 0), true)],
          alts := [{ res := .bool (.and (.not (.eq (.rd (.v 0) (.add (.v 0) (.c off))) (.c 0))) (.not (.eq (.rd (.v 1) (.add (.v 0) (.c off))) (.c 0)))), post := [mapS k (.v 0) (.v 1)] }] }
def btPut (T k : Nat) (ik : IntKind) (off : Nat) : Bt where
  sel op := match op with
    | .mapUpdate t m x y => if t = T then some [m, x, y] else none
    | _ => none
  ct := { g := 0, args := [.map 0, .int ik (.v 0), .bool (.v 0)], heap := [mapS k (.v 0) (.v 1)], pre := [(.le (.c (-(off : Int))) (.v 0), true)],
          alts := [{ res := .tup [], post := [mapS k (.up (.v 0) (.add (.v 0) (.c off)) (.c 1)) (.up (.v 1) (.add (.v 0) (.c off)) (.ite (.v 0) (.c 1) (.c 0)))] }] }
theorem ctPost0 {E : Env} {β β' : Nat → Bk} {w w' : World} {e : Ending} {c : Ct} {a : Alt} (ha : altSel E c.alts = some a) (hnx : c.nx = 0) (hxf : a.xf = []) (he : e = .returned (a.res.den E β')) (hw : HOk E β' a.post w') (hx : Ext E c.heap β w E a.post β' w') : ctPost E β w c e w' := by
  refine ⟨a, β', E, ha, ?_, ?_, ?_, ?_⟩ <;> rw [hnx, Env.upd_zero]
  · exact he
  · exact hw
  · exact hx
  · rw [hxf]; intro q hq; cases hq
theorem ext_same (E : Env) (h : List SBlk) (β : Nat → Bk) (w : World) (e : Ending) (c : Ct) (hh : c.heap = h) {a : Alt} (ha : altSel E c.alts = some a) (hnx : c.nx = 0) (hxf : a.xf = []) (hpost : a.post = h) (he : e = .returned (a.res.den E β)) (hw : HOk E β h w) : ctPost E β w c e w := by
  subst hh
  refine ⟨a, β, E, ha, ?_, ?_, ?_, ?_⟩ <;> rw [hnx, Env.upd_zero]
  · exact he
  · rw [hpost]; exact hw
  · rw [hpost]; exact Ext.refl _ _ _ _
  · rw [hxf]; intro q hq; cases hq
theorem key_of {E : Env} {off : Nat} {n : Int} (h : -(off : Int) ≤ n) : ∃ z : Nat, n = (z : Int) - off ∧ (n + off).toNat = z := ⟨(n + off).toNat, by omega, rfl⟩
theorem zero_run {T : TypeId} {z : Value} (h : (P.info? T).bind (·.zero) = some z) (w : World) : (zeroValue T).run P w = .ok z w := by
  cases hi : P.info? T with
  | none => rw [hi] at h; cases h
  | some i => rw [hi] at h; simp only [Option.bind_some] at h; simp [zeroValue, typeInfo, hi, h]
theorem btGet_ok {T k : Nat} {ik : IntKind} {off kt et : Nat} (hB : MapB fns k ik off) (hm : P.underlying T = some (.map kt et)) (hk : P.underlying kt = some (.int ik)) (hz : ∀ w, (zeroValue et).run P w = .ok (.bool false) w) : BtOk P fns (btGet T k ik off) := by
  intro E β w hE _ hw hF
  refine ⟨fun a ha => (by cases ha; intro q hq; cases hq), fun eval o xs hsel hxs => ?_⟩
  unfold btGet at hsel hxs
  cases ho : o.op <;> simp only [ho] at hsel <;> try (cases hsel; done)
  rename_i t m x ok
  cases ok <;> simp only at hsel <;> try (cases hsel; done)
  split at hsel
  · rename_i ht
    subst ht
    cases hsel
    simp only [List.map_cons, List.map_nil, SV.denL, SV.den, SE.den, List.cons.injEq, and_true] at hxs
    obtain ⟨e1, e2⟩ := hxs
    have hpre : -(off : Int) ≤ E.i 0 := by
      have := hF (.le (.c (-(off : Int))) (.v 0), true) (by simp [btGet])
      exact of_decide_eq_true this
    obtain ⟨z, hz1, hz2⟩ := key_of (E := E) hpre
    have hp : E.fn.p k ((SL.a (AE.v 0) (SL.a (AE.v 1) .nil)).den E) (β 0).a (β 0).v w := hw.ok 0 _ rfl
    rw [hE] at hp
    have hp := (hB.p _ _ _ _ _).1 hp
    have hl := mapv_lookup (z := z) hp hm hk (hz w) false
    refine ⟨_, w, .inl ?_, fun _ => rfl, ext_same E _ β w _ _ rfl rfl rfl rfl rfl rfl hw⟩
    unfold execOp
    simp only [ho, e1, e2, hz1]
    refine val_run ?_
    simp only [Bool.false_eq_true, if_false] at hl
    rw [hl]
    congr 1
    simp only [SV.den, SB.den, SE.den, AE.den, hz2]
    by_cases h0 : E.a 0 z = 0 <;> by_cases h1 : E.a 1 z = 0 <;> simp [h0, h1, bne]
  · cases hsel
theorem btPut_ok {T k : Nat} {ik : IntKind} {off kt et : Nat} (hB : MapB fns k ik off) (hm : P.underlying T = some (.map kt et)) (hk : P.underlying kt = some (.int ik)) : BtOk P fns (btPut T k ik off) := by
  intro E β w hE _ hw hF
  refine ⟨fun a ha => (by cases ha; intro q hq; cases hq), fun eval o xs hsel hxs => ?_⟩
  unfold btPut at hsel hxs
  cases ho : o.op <;> simp only [ho] at hsel <;> try (cases hsel; done)
  rename_i t m x y
  split at hsel
  · rename_i ht
    subst ht
    cases hsel
    simp only [List.map_cons, List.map_nil, SV.denL, SV.den, SE.den, SB.den, List.cons.injEq, and_true] at hxs
    obtain ⟨e1, e2, e3⟩ := hxs
    have hpre : -(off : Int) ≤ E.i 0 := by
      have := hF (.le (.c (-(off : Int))) (.v 0), true) (by simp [btPut])
      exact of_decide_eq_true this
    obtain ⟨z, hz1, hz2⟩ := key_of (E := E) hpre
    have hp : E.fn.p k ((SL.a (AE.v 0) (SL.a (AE.v 1) .nil)).den E) (β 0).a (β 0).v w := hw.ok 0 _ rfl
    rw [hE] at hp
    have hp := (hB.p _ _ _ _ _).1 hp
    obtain ⟨ob, h1, h2⟩ := mapv_update (z := z) (v := .bool (E.b 0)) hp hm hk
    obtain ⟨k1, k2⟩ := one_put (E := E) (β := β) (w := w) (l' := .a (.up (.v 0) (.add (.v 0) (.c off)) (.c 1)) (.a (.up (.v 1) (.add (.v 0) (.c off)) (.ite (.v 0) (.c 1) (.c 0))) .nil)) (o := ob) hw
      (fun x => by rw [hE]; exact hB.ft _ _ _ _) (fun x hx => by rw [hE] at hx; exact (hB.ft _ _ _ _).1 hx) (by
        rw [hE]
        refine (hB.p _ _ _ _ _).2 ?_
        have ea : (AE.up (.v 0) (.add (.v 0) (.c off)) (.c 1)).den E = fun y => if y = z then 1 else (AE.v 0).den E y := by
          funext y; simp only [AE.den, SE.den, hz2]
        have eb : (fun y : Nat => Value.bool ((AE.up (.v 1) (.add (.v 0) (.c off)) (.ite (.v 0) (.c 1) (.c 0))).den E y != 0)) = fun y => if y = z then Value.bool (E.b 0) else Value.bool ((AE.v 1).den E y != 0) := by
          funext y
          simp only [AE.den, SE.den, SB.den, hz2]
          by_cases hy : y = z
          · simp only [hy, if_true]; by_cases hb : E.b 0 = true <;> simp [hb]
          · simp only [hy, if_false]
        rw [ea, eb]; exact h2)
    refine ⟨undef, mset w (β 0).a ob, .inr ⟨rfl, ?_, rfl⟩, fun h => (by cases h), ctPost0 (β' := β) rfl rfl rfl rfl k1 k2⟩
    · unfold execOp
      simp only [ho, e1, e2, e3, hz1]
      rw [Sem.run_bind, h1]; rfl
  · cases hsel
theorem btMake_ok {T k : Nat} {ik : IntKind} {off : Nat} (hB : MapB fns k ik off) : BtOk P fns (btMake T k) := by
  intro E β w hE _ hw hF
  refine ⟨fun a ha => (by cases ha; intro q hq; cases hq), fun eval o xs hsel hxs => ?_⟩
  unfold btMake at hsel hxs
  cases ho : o.op <;> simp only [ho] at hsel <;> try (cases hsel; done)
  rename_i t r
  cases r <;> simp only at hsel <;> try (cases hsel; done)
  split at hsel
  · rename_i ht
    subst ht
    cases hsel
    obtain ⟨k1, k2⟩ := one_new (E := E) (β := β) (w := w) (k := k) (l := .a AE.z (.a AE.z .nil)) (o := .map #[] 0) (fun x hx => by rw [hE] at hx; exact (hB.ft _ _ _ _).1 hx) (by
      rw [hE]
      refine (hB.p _ _ _ _ _).2 ?_
      rw [AE.z_den]
      refine ⟨#[], 0, ?_, ⟨by simp, by simp, by simp⟩, by simp, fun z hz => (hz rfl).elim⟩
      show (w.heap.push _)[w.heap.size]? = _
      simp)
    refine ⟨.map (some w.heap.size), w.alloc (.map #[] 0), .inl ?_, fun h => (by cases h), ctPost0 (β' := upB β 0 { a := w.heap.size }) rfl rfl rfl (by simp only [SV.den, upB_self]) k1 k2⟩
    · unfold execOp
      simp only [ho]
      simp [Instr.makeMap, newObj]
      rfl
  · cases hsel
end
def BSame (E : Env) (s s' : SBlk) : Prop := (∀ γ bk w, SBlk.ok E γ bk w s ↔ SBlk.ok E γ bk w s') ∧ (∀ bk x, s.at E bk x ↔ s'.at E bk x) ∧ (∀ bk, s.wr bk ↔ s'.wr bk)
def HSame (E : Env) (h h' : List SBlk) : Prop := h.length = h'.length ∧ ∀ (i : Nat) (s s' : SBlk), h[i]? = some s → h'[i]? = some s' → BSame E s s'
theorem BSame.refl (E : Env) (s : SBlk) : BSame E s s := ⟨fun _ _ _ => Iff.rfl, fun _ _ => Iff.rfl, fun _ => Iff.rfl⟩
theorem BSame.symm {E : Env} {s s' : SBlk} (h : BSame E s s') : BSame E s' s := ⟨fun g b w => (h.1 g b w).symm, fun b x => (h.2.1 b x).symm, fun b => (h.2.2 b).symm⟩
theorem HSame.symm {E : Env} {h h' : List SBlk} (H : HSame E h h') : HSame E h' h := ⟨H.1.symm, fun i s s' a b => (H.2 i s' s b a).symm⟩
theorem HSame.nil (E : Env) : HSame E [] [] := ⟨rfl, fun i s s' a _ => by cases a⟩
theorem HSame.cons {E : Env} {s s' : SBlk} {h h' : List SBlk} (a : BSame E s s') (b : HSame E h h') : HSame E (s :: h) (s' :: h') := ⟨by simp [b.1], fun i x y hx hy => by
  cases i with
  | zero => cases hx; cases hy; exact a
  | succ j => exact b.2 j x y hx hy⟩
theorem HSame.get {E : Env} {h h' : List SBlk} (H : HSame E h h') {i : Nat} {s : SBlk} (hs : h[i]? = some s) : ∃ s', h'[i]? = some s' ∧ BSame E s s' := by
  have : i < h'.length := by rw [← H.1]; exact lt_len hs
  exact ⟨_, List.getElem?_eq_getElem this, H.2 i s _ hs (List.getElem?_eq_getElem this)⟩
theorem BSame.row {E : Env} {a a' : AE} {n n' : SE} (ha : a.den E = a'.den E) (hn : n.den E = n'.den E) (ks : List SK) (tl : List SV) (T : TypeId) : BSame E (.row a ks n tl T) (.row a' ks n' tl T) :=
  ⟨fun γ bk w => by simp only [SBlk.ok, rowCells, ha, hn], fun _ _ => Iff.rfl, fun _ => Iff.rfl⟩
end Go.Sy
