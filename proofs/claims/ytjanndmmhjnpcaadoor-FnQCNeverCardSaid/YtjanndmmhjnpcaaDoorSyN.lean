/- Loops by points: a function keeps its contract if from each point every way ends well or comes to a point in a smaller state. -/
import Derived.Test.YtjanndmmhjnpcaaDoorSyM
set_option autoImplicit true
set_option relaxedAutoImplicit true
set_option linter.unusedVariables false
set_option linter.unusedSimpArgs false
namespace Go.Sy
open Go Go.RowKit
variable {E : Env} {β : Nat → Bk} {p : Prm} {w : World} {Q : Exit → Act → World → Prop}
def loopAt (r : Nat) : Code → Option (Code × List KF)
  | .loop b => if firstRegion b = some r then some (b, []) else
    match loopAt r b with
    | some (c, k) => some (c, k ++ [.loop b])
    | none => none
  | .seq a b => match loopAt r a with
    | some (c, k) => some (c, k ++ [.seq b])
    | none => loopAt r b
  | .cond _ a b => match loopAt r a with
    | some x => some x
    | none => loopAt r b
  | .block id b => match loopAt r b with
    | some (c, k) => some (c, k ++ [.blk id])
    | none => none
  | _ => none
def loopIn (P : Program) (f r : Nat) : Option (Code × List KF) :=
  match P.funcs[f]? with
  | some fn => match fn.body with
    | some b => loopAt r b
    | none => none
  | none => none
def loopB (P : Program) (f r : Nat) : Code := match loopIn P f r with | some x => x.1 | none => .skip
def loopK (P : Program) (f r : Nat) : List KF := match loopIn P f r with | some x => x.2 | none => []
def noRet : List KF → Bool
  | [] => true
  | .ret .. :: _ => false
  | _ :: k => noRet k
theorem kpost_env {E' : Env} {β' : Nat → Bk} : ∀ {k : List KF}, noRet k = true → kpost E' β' p Q k = kpost E β p Q k
  | [], _ => rfl
  | .seq c :: k, hk => by simp only [noRet] at hk; simp only [kpost, kpost_env hk]
  | .blk id :: k, hk => by simp only [noRet] at hk; simp only [kpost, kpost_env hk]
  | .loop c :: k, hk => by simp only [noRet] at hk; simp only [kpost, kpost_env hk]
  | .ret .. :: k, hk => by simp [noRet] at hk
theorem hok_sub {E2 : Env} {h h2 : List SBlk} {β2 : Nat → Bk} (hw : HOk E β h w) (ι : Nat → Nat) (hinj : ∀ (i j : Nat) (s t : SBlk) (x : Nat), h2[i]? = some s → h2[j]? = some t → s.at E2 (β2 i) x → t.at E2 (β2 j) x → ι i = ι j → i = j)
    (hι : ∀ (i : Nat) (s : SBlk) (x : Nat), h2[i]? = some s → s.at E2 (β2 i) x → ∃ t : SBlk, h[ι i]? = some t ∧ t.at E (β (ι i)) x)
    (hok : ∀ (i : Nat) (s : SBlk), h2[i]? = some s → SBlk.ok E2 β2 (β2 i) w s) : HOk E2 β2 h2 w := by
  refine ⟨fun i j s t x hi hj hri hrj => ?_, fun i s x hi hr => ?_, hok⟩
  · obtain ⟨s', h1, h2⟩ := hι i s x hi hri
    obtain ⟨t', h4, h5⟩ := hι j t x hj hrj
    exact hinj i j s t x hi hj hri hrj (hw.dis _ _ s' t' x h1 h4 h2 h5)
  · obtain ⟨s', h1, h2⟩ := hι i s x hi hr
    exact hw.lt _ s' x h1 h2
def isW : Option SBlk → Bool
  | some (.row ..) | some (.cells ..) | some (.pr ..) => true
  | _ => false
theorem isW_wr {o : Option SBlk} {s : SBlk} {bk : Bk} {x : Nat} (h : isW o = true) (ho : o = some s) (hs : s.at E bk x) : s.wr bk := by
  subst ho
  cases s <;> simp_all [isW, SBlk.at, SBlk.wr, SBlk.real]
theorem ext_sub {E0 E2 : Env} {h0 h h2 : List SBlk} {β0 β2 : Nat → Bk} {w0 : World} (x : Ext E0 h0 β0 w0 E h β w) (ι : Nat → Nat) (hlen : h0.length ≤ h2.length) (hag : ∀ i, i < h0.length → β2 i = β0 i)
    (hι : ∀ (i : Nat) (s : SBlk) (q : Nat), h2[i]? = some s → s.at E2 (β2 i) q → ∃ t : SBlk, h[ι i]? = some t ∧ t.at E (β (ι i)) q)
    (hwr : ∀ (i : Nat) (s : SBlk), i < h0.length → h2[i]? = some s → s.wr (β2 i) → ∃ t : SBlk, h[i]? = some t ∧ t.wr (β i))
    (hlow : ∀ (i : Nat) (s : SBlk) (q : Nat), i < h0.length → h2[i]? = some s → s.at E2 (β2 i) q → ι i = i) (hhi : ∀ (i : Nat) (s : SBlk) (q : Nat), h0.length ≤ i → h2[i]? = some s → s.at E2 (β2 i) q → h0.length ≤ ι i ∨ isW h0[ι i]? = true) : Ext E0 h0 β0 w0 E2 h2 β2 w where
  len := hlen
  agree := hag
  kind i s hi hs hw := by
    obtain ⟨t, h1, h2⟩ := hwr i s hi hs (by rw [hag i hi]; exact hw)
    rw [x.agree i hi] at h2
    exact x.kind i t hi h1 h2
  fresh i s q hs hr := by
    obtain ⟨t, h1, h2⟩ := hι i s q hs hr
    rcases x.fresh _ t q h1 h2 with h3 | ⟨j, u, h3, h4, h5⟩
    · exact .inl h3
    · refine .inr ⟨j, u, h3, h4, ?_⟩
      rcases h5 with h5 | rfl
      · exact .inl h5
      · have hj := (List.getElem?_eq_some_iff.1 h3).1
        rcases Nat.lt_or_ge i h0.length with h6 | h6
        · exact .inr (hlow i s q h6 hs hr)
        · rcases hhi i s q h6 hs hr with h7 | h7
          · omega
          · exact .inl (isW_wr h7 h3 h4)
  size := x.size
  same := x.same
  os := x.os
  tape := x.tape
  output := x.output
structure Pt where
  r : Nat
  b : Code
  K : List KF
  n : Nat
  tmps : List (Nat × SV)
  ds : List SD := []
  heap : List SBlk
  facts : Fx
def tm (n : Nat) : List (Nat × SV) → Tm
  | [] => Tm.empty n true
  | (i, v) :: r => (tm n r).put i v
def Pt.cf (t : Pt) (f : FuncId) : Cf := { tmps := tm t.n t.tmps, ds := t.ds, heap := t.heap, facts := t.facts, fo := .code t.b, k := .loop t.b :: t.K, fid := f }
def chkDs (S : Sub) : List SD → List SD → Bool
  | [], [] => true
  | d :: r, e :: t => d.fn == e.fn && chkVL S d.cap e.cap && chkVL S d.args e.args && chkDs S r t
  | _, _ => false
theorem chkDs_ok {S : Sub} {β0 : Nat → Bk} (hB : Bmap S β β0) : ∀ {l l' : List SD}, chkDs S l l' = true → l'.map (SD.den E β) = l.map (SD.den (E.sub β S) β0)
  | [], [], _ => rfl
  | d :: r, e :: t, h => by
    simp only [chkDs, Bool.and_eq_true, beq_iff_eq] at h
    simp only [List.map_cons, SD.den, h.1.1.1, chkVL_ok (E := E) hB h.1.1.2, chkVL_ok (E := E) hB h.1.2, chkDs_ok hB h.2]
  | [], _ :: _, h => by simp [chkDs] at h
  | _ :: _, [], h => by simp [chkDs] at h
def idK : Nat → List (Nat × Option Nat)
  | 0 => []
  | n + 1 => (n, some n) :: idK n
def mDs : List SD → List SD → Sub → Sub
  | d :: r, e :: t, S => mDs r t (mVL d.args e.args (mVL d.cap e.cap S))
  | _, _, S => S
def mTm : List (Nat × SV) → Tm → Sub → Sub
  | [], _, S => S
  | (i, p) :: r, x, S => mTm r x (mV p (x.get i) S)
def chkTm (S : Sub) (x : Tm) : List (Nat × SV) → Bool
  | [] => true
  | (i, p) :: r => chkV S p (x.get i) && chkTm S x r
theorem tm_n (n : Nat) : ∀ (l : List (Nat × SV)), (tm n l).n = n
  | [] => rfl
  | (i, v) :: r => by show (tm n r).n = n; exact tm_n n r
theorem chkTm_ok {S : Sub} {β0 : Nat → Bk} (hB : Bmap S β β0) {n : Nat} {x : Tm} (ht : S.t = some x) (hn : x.n = n) (ho : ∀ p ∈ S.o, n ≤ p.1) : ∀ {l : List (Nat × SV)}, chkTm S x l = true → x.den E β = (tm n l).den (E.sub β S) β0 := by
  have key : ∀ (l : List (Nat × SV)), chkTm S x l = true → ∀ i, i < n → (x.get i).den E β = ((tm n l).get i).den (E.sub β S) β0 := by
    intro l
    induction l with
    | nil =>
      intro _ i hi
      have hb : Nat.ble n i = false := by
        cases hh : Nat.ble n i with
        | true => have := Nat.le_of_ble_eq_true hh; omega
        | false => rfl
      have hf : fnd i S.o = none := by
        cases hh : fnd i S.o with
        | none => rfl
        | some u => have := ho (i, u) (fnd_mem hh); simp only at this; omega
      simp only [tm, Tm.get, Tm.empty, hb, cond_false, Tr.get, cond_true, SV.den, Env.sub, hf, ht]
    | cons q r ih =>
      intro h i hi
      obtain ⟨k, p⟩ := q
      simp only [chkTm, Bool.and_eq_true] at h
      simp only [tm]
      rw [Tm.get_put, tm_n]
      by_cases hk : i = k
      · subst hk
        rw [if_pos ⟨rfl, hi⟩]
        have hc := h.1
        simp only [chkV, Bool.and_eq_true] at hc
        have := SV.inst_ok (E := E) hB p hc.1
        rw [SV.same_ok hc.2] at this
        exact this
      · rw [if_neg (by omega)]
        exact ih h.2 i hi
  intro l h
  unfold Tm.den
  rw [tm_n, hn]
  congr 1
  apply List.map_congr_left
  intro i hi
  exact key l h i (List.mem_range.1 hi)
def idD (pat : List SBlk) (m : Nat) : List (Nat × Option Nat) := (idK m).filter fun x => !(match pat[x.1]? with | some s => isDead s | none => false)
def mHead (m : Nat) (t : Pt) (l : Cf) : Sub := mHeap t.heap l.heap t.heap.length (mDs t.ds l.ds (mTm t.tmps l.tmps { k := idD t.heap m, t := some l.tmps }))
def lowOk (S : Sub) (m : Nat) (pat h : List SBlk) : Bool :=
  (List.range m).all fun j => match fnd j S.k with
    | some (some b) => b == j && (match h[j]? with | some (.row _ _ _ (_ :: _) _) => false | _ => true)
    | some none => false
    | none => match pat[j]? with | some s => isDead s | none => false
def hiOk (S : Sub) (h0 : List SBlk) (n : Nat) : Bool :=
  (List.range n).all fun j => decide (j < h0.length) || match fnd j S.k with
    | some (some b) => decide (h0.length ≤ b) || isW h0[b]?
    | _ => true
def chkHead (h0 : List SBlk) (t : Pt) (l : Cf) (S0 : Sub) : Bool :=
  let S := { S0 with t := some l.tmps }
  (chkTm S l.tmps t.tmps && (S.o.all (fun p => decide (t.n ≤ p.1)) && l.tmps.n == t.n)) && chkDs S t.ds l.ds && chkHeap S l.facts t.heap l.heap && lowOk S h0.length t.heap l.heap && hiOk S h0 t.heap.length && decide (h0.length ≤ t.heap.length)
theorem bsub_low {S : Sub} {m : Nat} {pat h : List SBlk} (hl : lowOk S m pat h = true) {i : Nat} (hi : i < m) : bsub E β h S i = β i ∧ (fnd i S.k = some (some i) ∨ ∃ s, pat[i]? = some s ∧ isDead s = true) := by
  have := List.all_eq_true.1 hl i (List.mem_range.2 hi)
  split at this
  · rename_i b hb
    simp only [Bool.and_eq_true, beq_iff_eq] at this
    obtain ⟨rfl, h2⟩ := this
    refine ⟨?_, .inl hb⟩
    unfold bsub siteQ
    rw [hb]
    simp only
    cases hh : h[b]? with
    | none => rfl
    | some s =>
      rw [hh] at h2
      cases s with
      | row a ks n tail T =>
        cases tail with
        | nil => rfl
        | cons v r => simp at h2
      | _ => rfl
  · cases this
  · rename_i hb
    split at this
    · rename_i s hs
      refine ⟨?_, .inr ⟨s, hs, this⟩⟩
      unfold bsub; rw [hb]
    · cases this
theorem ext_match {F : Fx} (hF : Facts E F) {S : Sub} {E0 : Env} {h0 h pat : List SBlk} {β0 : Nat → Bk} {w0 : World} (hw : HOk E β h w) (x : Ext E0 h0 β0 w0 E h β w) (hc : chkHeap S F pat h = true) (h1 : lowOk S h0.length pat h = true) (h2 : hiOk S h0 pat.length = true) (h3 : h0.length ≤ pat.length) :
    Ext E0 h0 β0 w0 (E.sub β S) pat (bsub E β h S) w := by
  refine ext_sub x (fun i => match fnd i S.k with | some (some b) => b | _ => i) h3 (fun i hi => ?_) (fun i s q hi hr => ?_) (fun i s hi hs hw => ?_) (fun i s q hi hs hr => ?_) (fun i s q hi hs hr => ?_)
  · rw [(bsub_low h1 hi).1]; exact x.agree i hi
  · obtain ⟨b, t, f1, f2, _, f3, f4⟩ := chk_at hF hc hi hr
    simp only [f1]
    exact ⟨t, f2, f3⟩
  · have hk : fnd i S.k = some (some i) := by
      rcases (bsub_low (E := E) (β := β) h1 hi).2 with hk | ⟨s', e1, e2⟩
      · exact hk
      · rw [hs] at e1; cases e1; cases s <;> simp_all [isDead, SBlk.wr]
    have hone := chk_one hc hs
    unfold chkOne at hone
    simp only [hk] at hone
    cases hb : h[i]? with
    | none => unfold chkBlk at hone; simp only [hb] at hone; cases s <;> simp_all
    | some t => exact ⟨t, rfl, (blk_iff (E := E) (β := β) hF hk hb hone).2.2.2.2 hw⟩
  · rcases (bsub_low (E := E) (β := β) h1 hi).2 with hk | ⟨s', e1, e2⟩
    · simp only [hk]
    · rw [hs] at e1; cases e1; exact (dead_at e2 hr).elim
  · obtain ⟨b, t, f1, f2, _, f3, f4⟩ := chk_at hF hc hs hr
    simp only [f1]
    have := List.all_eq_true.1 h2 i (List.mem_range.2 (List.getElem?_eq_some_iff.1 hs).1)
    rw [f1] at this
    simp only [Bool.or_eq_true, decide_eq_true_eq] at this
    rcases this with h | h
    · omega
    · exact h
inductive Eqn where
  | i (x y : SE)
  | b (x y : SB)
  | a (x y : AE) (n : SE) (K : Nat)
  | p (k : Nat) (x y : SL)
def Eqn.ok (E E0 : Env) : Eqn → Prop
  | .i x y => x.den E = y.den E0
  | .b x y => x.den E = y.den E0
  | .a x y n K => ∀ j, j < (n.den E0).toNat * K → x.den E j = y.den E0 j
  | .p k x y => ∀ a v w, E.fn.p k (x.den E) a v w → E0.fn.p k (y.den E0) a v w ∧ ∀ q, E0.fn.ft k (y.den E0) a v q → E.fn.ft k (x.den E) a v q
theorem Eqn.p_of {E0 : Env} {k : Nat} {x y : SL} (hf : E.fn = E0.fn) (h : x.den E = y.den E0) : (Eqn.p k x y).ok E E0 := fun a v w hp => by rw [← hf, ← h]; exact ⟨hp, fun _ hq => hq⟩
def eqnE (x y : SE) : List Eqn := match x, y with
  | .c a, .c b => if a = b then [] else [.i x y]
  | x, y => [.i x y]
def eqnB (x y : SB) : List Eqn := match x, y with
  | .c a, .c b => if a = b then [] else [.b x y]
  | x, y => [.b x y]
theorem eqnE_ok {E0 : Env} {x y : SE} (h : ∀ q ∈ eqnE x y, q.ok E E0) : x.den E = y.den E0 := by
  unfold eqnE at h
  split at h
  · split at h
    · rename_i hab; subst hab; rfl
    · exact h (.i _ _) List.mem_cons_self
  · exact h (.i _ _) List.mem_cons_self
theorem eqnB_ok {E0 : Env} {x y : SB} (h : ∀ q ∈ eqnB x y, q.ok E E0) : x.den E = y.den E0 := by
  unfold eqnB at h
  split at h
  · split at h
    · rename_i hab; subst hab; rfl
    · exact h (.b _ _) List.mem_cons_self
  · exact h (.b _ _) List.mem_cons_self
def oapp (x y : Option (List Eqn)) : Option (List Eqn) := match x, y with
  | some a, some b => some (a ++ b)
  | _, _ => none
theorem oapp_some {x y : Option (List Eqn)} {l : List Eqn} (h : oapp x y = some l) : ∃ a b, x = some a ∧ y = some b ∧ l = a ++ b := by
  unfold oapp at h; split at h
  · cases h; exact ⟨_, _, rfl, rfl, rfl⟩
  · cases h
def eqOff (o q : Off) : Option (List Eqn) := if o.stride = q.stride ∧ o.col = q.col then some (eqnE o.row q.row) else none
theorem eqOff_ok {E0 : Env} {o q : Off} {l : List Eqn} (h : eqOff o q = some l) (hl : ∀ q ∈ l, q.ok E E0) : o.den E = q.den E0 := by
  unfold eqOff at h
  split at h
  · rename_i hc; cases h; simp only [Off.den, eqnE_ok hl, hc.1, hc.2]
  · cases h
mutual
/-- What a value asks to be the one that a contract tells. -/
def eqV (S : Sub) : SV → SV → Option (List Eqn)
  | .int k e, .int j f => if k = j then some (eqnE e f) else none
  | .bool a, .bool b => some (eqnB a b)
  | .flt k n, .flt j m => if k = j ∧ n = m then some [] else none
  | .str a, .str b => if a = b then some [] else none
  | .nilptr, .nilptr => some []
  | .ptr b o, .ptr c o2 => if fnd c S.k = some (some b) then eqOff o o2 else none
  | .nilslice, .nilslice => some []
  | .slice b o n c, .slice b' o' n' c' => if fnd b' S.k = some (some b) then oapp (eqOff o o') (some (eqnE n n' ++ eqnE c c')) else none
  | .nilmap, .nilmap => some []
  | .map b, .map c => if fnd c S.k = some (some b) then some [] else none
  | .nilfunc, .nilfunc => some []
  | .func f a c, .func g b d => if f = g then oapp (eqVL S a b) (eqVL S c d) else none
  | .nilif, .nilif => some []
  | .ifc t v, .ifc s u => if t = s then eqV S v u else none
  | .agg a, .agg b => eqVL S a b
  | .tup a, .tup b => eqVL S a b
  | .own b, .own c => if fnd c S.k = some (some b) then some [] else none
  | .nilslice, .own c => if fnd c S.k = some none then some [] else none
  | .pa e o, .pa e' o' => some (eqnE e e' ++ eqnE o o')
  | .nilptr, .pa e' _ => some (eqnE (.c (-1)) e')
  | .sa e o l c, .sa e' o' l' c' => some ((eqnE e e' ++ eqnE o o') ++ (eqnE l l' ++ eqnE c c'))
  | .nilslice, .sa e' _ _ _ => some (eqnE (.c (-1)) e')
  | _, _ => none
def eqVL (S : Sub) : List SV → List SV → Option (List Eqn)
  | [], [] => some []
  | x :: r, y :: s => oapp (eqV S x y) (eqVL S r s)
  | _, _ => none
end
mutual
theorem eqV_ok {S : Sub} {E0 : Env} {β0 : Nat → Bk} (hB : Bmap S β β0) : ∀ {v u : SV} {l : List Eqn}, eqV S v u = some l → (∀ q ∈ l, q.ok E E0) → v.den E β = u.den E0 β0
  | .int k e, .int j f, l, h, hl => by
    simp only [eqV] at h; split at h
    · rename_i hk; subst hk; cases h; simp only [SV.den, eqnE_ok hl]
    · cases h
  | .bool a, .bool b, l, h, hl => by simp only [eqV] at h; cases h; simp only [SV.den, eqnB_ok hl]
  | .flt k n, .flt j m, l, h, hl => by
    simp only [eqV] at h; split at h
    · rename_i hk; simp only [SV.den, hk.1, hk.2]
    · cases h
  | .str a, .str b, l, h, hl => by
    simp only [eqV] at h; split at h
    · rename_i hk; simp only [SV.den, hk]
    · cases h
  | .nilptr, .nilptr, l, h, hl | .nilslice, .nilslice, l, h, hl | .nilmap, .nilmap, l, h, hl | .nilfunc, .nilfunc, l, h, hl | .nilif, .nilif, l, h, hl => by simp only [SV.den]
  | .ptr b o, .ptr c o2, l, h, hl => by
    simp only [eqV] at h; split at h
    · rename_i hk
      have := hB c _ hk
      simp only at this
      simp only [SV.den, eqOff_ok h hl, this.a, this.o]
    · cases h
  | .slice b o n c, .slice b' o' n' c', l, h, hl => by
    simp only [eqV] at h; split at h
    · rename_i hk
      have := hB b' _ hk
      simp only at this
      obtain ⟨x, y, h1, h2, rfl⟩ := oapp_some h
      cases h2
      simp only [SV.den, eqOff_ok h1 (fun q hq => hl q (by simp [hq])), eqnE_ok (x := n) (y := n') (fun q hq => hl q (by simp [hq])), eqnE_ok (x := c) (y := c') (fun q hq => hl q (by simp [hq])), this.a, this.o]
    · cases h
  | .map b, .map c, l, h, hl => by
    simp only [eqV] at h; split at h
    · rename_i hk
      have := hB c _ hk
      simp only at this
      simp only [SV.den, this.a]
    · cases h
  | .func f a c, .func g b d, l, h, hl => by
    simp only [eqV] at h; split at h
    · rename_i hk
      obtain ⟨x, y, h1, h2, rfl⟩ := oapp_some h
      simp only [SV.den, hk, eqVL_ok hB h1 (fun q hq => hl q (by simp [hq])), eqVL_ok hB h2 (fun q hq => hl q (by simp [hq]))]
    · cases h
  | .ifc t v, .ifc s u, l, h, hl => by
    simp only [eqV] at h; split at h
    · rename_i hk; simp only [SV.den, hk, eqV_ok hB h hl]
    · cases h
  | .agg a, .agg b, l, h, hl => by simp only [eqV] at h; simp only [SV.den, eqVL_ok hB h hl]
  | .tup a, .tup b, l, h, hl => by simp only [eqV] at h; simp only [SV.den, eqVL_ok hB h hl]
  | .own b, .own c, l, h, hl => by
    simp only [eqV] at h; split at h
    · rename_i hk
      have := hB c _ hk
      simp only at this
      simp only [SV.den, this.like_v]
    · cases h
  | .nilslice, .own c, l, h, hl => by
    simp only [eqV] at h; split at h
    · rename_i hk
      have := hB c _ hk
      simp only at this
      simp only [SV.den, Bk.v, this, if_true]
    · cases h
  | .pa e o, .pa e' o', l, h, hl => by
    simp only [eqV] at h; cases h
    simp only [SV.den, eqnE_ok fun q hq => hl q (List.mem_append_left _ hq), eqnE_ok fun q hq => hl q (List.mem_append_right _ hq)]
  | .nilptr, .pa e' o', l, h, hl => by
    simp only [eqV] at h; cases h
    have := eqnE_ok hl
    simp only [SE.den] at this
    simp only [SV.den, ← this]; rfl
  | .sa e o n c, .sa e' o' n' c', l, h, hl => by
    simp only [eqV] at h; cases h
    simp only [SV.den, eqnE_ok (x := e) (y := e') (fun q hq => hl q (by simp [hq])), eqnE_ok (x := o) (y := o') (fun q hq => hl q (by simp [hq])), eqnE_ok (x := n) (y := n') (fun q hq => hl q (by simp [hq])), eqnE_ok (x := c) (y := c') (fun q hq => hl q (by simp [hq]))]
  | .nilslice, .sa e' _ _ _, l, h, hl => by
    simp only [eqV] at h; cases h
    have := eqnE_ok hl
    simp only [SE.den] at this
    simp only [SV.den, ← this]; rfl
theorem eqVL_ok {S : Sub} {E0 : Env} {β0 : Nat → Bk} (hB : Bmap S β β0) : ∀ {v u : List SV} {l : List Eqn}, eqVL S v u = some l → (∀ q ∈ l, q.ok E E0) → SV.denL E β v = SV.denL E0 β0 u
  | [], [], l, h, hl => rfl
  | x :: r, y :: s, l, h, hl => by
    simp only [eqVL] at h
    obtain ⟨a, b, h1, h2, rfl⟩ := oapp_some h
    simp only [SV.denL, eqV_ok hB h1 (fun q hq => hl q (by simp [hq])), eqVL_ok hB h2 (fun q hq => hl q (by simp [hq]))]
  | [], _ :: _, l, h, hl => by simp [eqVL] at h
  | _ :: _, [], l, h, hl => by simp [eqVL] at h
end
def eqBlk (S : Sub) (F : Fx) (h : List SBlk) (pat : SBlk) (x : Option Nat) : Option (List Eqn) :=
  match x with
  | none => match pat with
    | .row a ks n [] T => some (eqnE (.c 0) n)
    | .pr k (.i n _) => if 1000 ≤ k then some (eqnE (.c 0) n) else none
    | _ => none
  | some b => match pat, h[b]? with
    | .any, some (.cells ..) => some []
    | .any, some (.arr ..) => some []
    | .any, some .any => some []
    | .cells l T, some (.cells l' T') => if T = T' then eqVL S l' l else none
    | .arr a ks n, some (.arr a' ks' n') => if ks = ks' then some (.a a' a n ks.length :: eqnE n' n) else none
    | .row a ks n [] T, some (.row a' ks' n' tail T') => if ks = ks' ∧ T = T' ∧ ks.length ≠ 0 ∧ tail.length % ks.length = 0 ∧ (tail.isEmpty || nonneg F n') = true ∧ tailOk ks 0 tail = true then
        some (.a (tailA a' n' ks.length tail) a n ks.length :: eqnE (rowsN n' ks.length tail) n) else none
    | .pr k l, some (.pr k' l') => if k = k' then some [.p k l' l] else none
    | _, _ => none
theorem eqBlk_ok {F : Fx} (hF : Facts E F) {S : Sub} {E0 : Env} {h : List SBlk} {pat s : SBlk} {j b : Nat} {l : List Eqn} (hj : fnd j S.k = some (some b)) (hs : h[b]? = some s) (hc : eqBlk S F h pat (some b) = some l) (hl : ∀ q ∈ l, q.ok E E0) :
    (SBlk.ok E β (β b) w s → SBlk.ok E0 (bsub E β h S) (bsub E β h S j) w pat ∧ (∀ x, pat.at E0 (bsub E β h S j) x → s.at E (β b) x)) ∧ (pat.wr (bsub E β h S j) → s.wr (β b)) := by
  have hlk := bsub_like (E := E) (β := β) (h := h) hj
  unfold eqBlk at hc
  simp only [hs] at hc
  split at hc
  all_goals try (cases hc; done)
  · rename_i hx; cases hx; exact ⟨fun _ => ⟨trivial, fun x hx => ⟨trivial, hx.2.trans hlk.a⟩⟩, fun hh => hh.elim⟩
  · rename_i hx; cases hx; exact ⟨fun _ => ⟨trivial, fun x hx => ⟨trivial, hx.2.trans hlk.a⟩⟩, fun hh => hh.elim⟩
  · rename_i hx; cases hx; exact ⟨fun _ => ⟨trivial, fun x hx => ⟨trivial, hx.2.trans hlk.a⟩⟩, fun hh => hh.elim⟩
  · rename_i l0 T l' T' hx
    cases hx
    split at hc
    · rename_i hT
      subst hT
      have e := eqVL_ok (E := E) (bsub_map (E := E) (β := β) (h := h) (S := S)) hc hl
      refine ⟨fun hh => ⟨?_, fun x hx => ⟨trivial, hx.2.trans hlk.a⟩⟩, fun _ => trivial⟩
      simp only [SBlk.ok, hlk.o, hlk.a, ← e] at hh ⊢; exact hh
    · cases hc
  · rename_i a ks n a' ks' n' hx
    cases hx
    split at hc
    · rename_i hk
      subst hk
      cases hc
      have hq : (bsub E β h S j).q = (β b).q := by
        unfold bsub siteQ; rw [hj]; simp only [hs]
      have e1 : ∀ k, k < (n.den E0).toNat * ks.length → a'.den E k = a.den E0 k := hl (.a a' a n ks.length) List.mem_cons_self
      have e2 := eqnE_ok (E := E) (E0 := E0) (x := n') (y := n) (fun q hq => hl q (by simp [hq]))
      refine ⟨fun hh => ⟨?_, fun x hx => ⟨trivial, hx.2.trans hlk.a⟩⟩, fun hh => hh.elim⟩
      simp only [SBlk.ok, hlk.o, hlk.a, hq] at hh ⊢
      obtain ⟨cs, T, fz, h1, h2⟩ := hh
      refine ⟨cs, T, fz, h1, fun k hk => ?_⟩
      rw [h2 k (by rw [e2]; exact hk), e1 k hk]
    · cases hc
  · rename_i a ks n T a' ks' n' tail T' hx
    cases hx
    split at hc
    · rename_i hcc
      obtain ⟨h1, h2, h3, h4, h5, h6⟩ := hcc
      subst h1; subst h2
      cases hc
      have hq : (bsub E β h S j).q = rowQ E β (β b).q n' ks.length tail := by
        unfold bsub siteQ; rw [hj]; simp only [hs]
      have e1 : ∀ k, k < (n.den E0).toNat * ks.length → (tailA a' n' ks.length tail).den E k = a.den E0 k := hl (.a (tailA a' n' ks.length tail) a n ks.length) List.mem_cons_self
      have e2 := eqnE_ok (E := E) (E0 := E0) (x := rowsN n' ks.length tail) (y := n) (fun q hq => hl q (by simp [hq]))
      have hn : tail = [] ∨ 0 ≤ n'.den E := by
        rw [Bool.or_eq_true] at h5
        rcases h5 with h | h
        · left; cases tail <;> simp_all
        · right; exact nonneg_ok hF h
      obtain ⟨m, hm⟩ : ∃ m, tail.length = m * ks.length := ⟨tail.length / ks.length, by rw [Nat.div_mul_cancel (Nat.dvd_of_mod_eq_zero h4)]⟩
      have hnn : (n.den E0).toNat = (n'.den E).toNat + m := by rw [← e2]; exact rowsN_den h3 hm hn
      have hcells : rowCells E0 (bsub E β h S) (bsub E β h S j).q a ks (n.den E0).toNat [] = rowCells E β (β b).q a' ks (n'.den E).toNat tail := by
        rw [rowCells_norm hm hn h6, hq]
        simp only [rowCells, SV.denL, List.append_nil]
        rw [← hnn]
        apply List.map_congr_left
        intro k hk
        rw [e1 k (List.mem_range.1 hk)]
      refine ⟨fun hh => ⟨?_, fun x hh => ⟨?_, hh.2.trans hlk.a⟩⟩, fun hh => ?_⟩
      · obtain ⟨h0, m', hm', hh⟩ := hh
        have : m' = m := Nat.eq_of_mul_eq_mul_right (Nat.pos_of_ne_zero h3) (hm'.symm.trans hm)
        subst this
        refine ⟨by rw [hlk.o]; exact h0, 0, by simp, ?_⟩
        rw [hcells, hlk.like_v, hnn]; exact hh
      · have := hh.1; simp only [SBlk.real, hlk.z] at this ⊢; exact this
      · simp only [SBlk.wr, hlk.z] at hh ⊢; exact hh
    · cases hc
  · rename_i k l0 k' l' hx
    cases hx
    split at hc
    · rename_i hk
      subst hk
      cases hc
      have e := hl (.p k l' l0) List.mem_cons_self
      refine ⟨fun hh => ?_, fun _ => trivial⟩
      simp only [SBlk.ok, SBlk.at, hlk.o, hlk.a, hlk.like_v] at hh ⊢
      obtain ⟨e1, e2⟩ := e _ _ _ hh
      exact ⟨e1, e2⟩
    · cases hc
def eqHeapGo (S : Sub) (F : Fx) (h : List SBlk) : List (SBlk × Nat) → Option (List Eqn)
  | [] => some []
  | (p, j) :: r => match fnd j S.k with
    | some x => if isDead p then eqHeapGo S F h r else oapp (eqBlk S F h p x) (eqHeapGo S F h r)
    | none => if isDead p then eqHeapGo S F h r else none
theorem eqHeapGo_ok {S : Sub} {F : Fx} {h : List SBlk} {E0 : Env} : ∀ {l : List (SBlk × Nat)} {es : List Eqn}, eqHeapGo S F h l = some es → (∀ q ∈ es, q.ok E E0) → ∀ p j, (p, j) ∈ l → isDead p = true ∨ ∃ x e, fnd j S.k = some x ∧ eqBlk S F h p x = some e ∧ ∀ q ∈ e, q.ok E E0
  | [], es, h, hq, p, j, hm => by cases hm
  | (p', j') :: r, es, h, hq, p, j, hm => by
    simp only [eqHeapGo] at h
    simp only [List.mem_cons, Prod.mk.injEq] at hm
    split at h
    · rename_i x hx
      split at h
      · rename_i hd
        rcases hm with ⟨rfl, rfl⟩ | hm
        · exact .inl hd
        · exact eqHeapGo_ok h hq p j hm
      · obtain ⟨a, b, h1, h2, rfl⟩ := oapp_some h
        rcases hm with ⟨rfl, rfl⟩ | hm
        · exact .inr ⟨x, a, hx, h1, fun q hh => hq q (by simp [hh])⟩
        · exact eqHeapGo_ok h2 (fun q hh => hq q (by simp [hh])) p j hm
    · split at h
      · rename_i hd
        rcases hm with ⟨rfl, rfl⟩ | hm
        · exact .inl hd
        · exact eqHeapGo_ok h hq p j hm
      · cases h
end Go.Sy
