/- A function keeps its contract: by the ways from its entry and from its points. -/
import Derived.Test.YtgianhjmjiiadaaSyW
import Derived.WalkKit
import Derived.ProofKit
import Derived.OpenShut
import Derived.ChangeOld
import Derived.Below
import Derived.ReadAgain
import Derived.Deep.Slices
import Derived.MapKept
section
set_option autoImplicit true
set_option relaxedAutoImplicit true
set_option linter.unusedVariables false
set_option linter.unusedSimpArgs false
namespace Go.Sy
open Go Go.RowKit
variable {E : Env} {β : Nat → Bk} {p : Prm} {w : World} {Q : Exit → Act → World → Prop}
def Env.put (E : Env) (si : List (Nat × SE)) (sb : List (Nat × SB)) (sa : List (Nat × AE)) (o : Nat → Value) : Env where
  i j := match fnd j si with | some e => e.den E | none => E.i j
  b j := match fnd j sb with | some e => e.den E | none => E.b j
  a j := match fnd j sa with | some e => e.den E | none => E.a j
  o := o
  fn := E.fn
def dI : List (Nat × SE) → List (Nat × SE)
  | [] => []
  | (k, e) :: r => bif decide (e = .v k) && (fnd k r).isNone then dI r else (k, e) :: dI r
def dB : List (Nat × SB) → List (Nat × SB)
  | [] => []
  | (k, e) :: r => bif decide (e = .v k) && (fnd k r).isNone then dB r else (k, e) :: dB r
def dA : List (Nat × AE) → List (Nat × AE)
  | [] => []
  | (k, e) :: r => bif decide (e = .v k) && (fnd k r).isNone then dA r else (k, e) :: dA r
theorem dI_none {j : Nat} : ∀ {l : List (Nat × SE)}, fnd j l = none → fnd j (dI l) = none
  | [], h => h
  | (k, e) :: r, h => by
    simp only [fnd] at h
    split at h
    · cases h
    · rename_i hk
      simp only [dI]
      cases (decide (e = .v k) && (fnd k r).isNone) with
      | true => exact dI_none h
      | false => simp only [cond_false, fnd, if_neg hk]; exact dI_none h
theorem dB_none {j : Nat} : ∀ {l : List (Nat × SB)}, fnd j l = none → fnd j (dB l) = none
  | [], h => h
  | (k, e) :: r, h => by
    simp only [fnd] at h
    split at h
    · cases h
    · rename_i hk
      simp only [dB]
      cases (decide (e = .v k) && (fnd k r).isNone) with
      | true => exact dB_none h
      | false => simp only [cond_false, fnd, if_neg hk]; exact dB_none h
theorem dA_none {j : Nat} : ∀ {l : List (Nat × AE)}, fnd j l = none → fnd j (dA l) = none
  | [], h => h
  | (k, e) :: r, h => by
    simp only [fnd] at h
    split at h
    · cases h
    · rename_i hk
      simp only [dA]
      cases (decide (e = .v k) && (fnd k r).isNone) with
      | true => exact dA_none h
      | false => simp only [cond_false, fnd, if_neg hk]; exact dA_none h
theorem dI_den (E : Env) (j : Nat) : ∀ l : List (Nat × SE), (match fnd j (dI l) with | some e => e.den E | none => E.i j) = (match fnd j l with | some e => e.den E | none => E.i j)
  | [] => rfl
  | (k, e) :: r => by
    simp only [dI]
    cases h : (decide (e = .v k) && (fnd k r).isNone) with
    | true =>
      simp only [Bool.and_eq_true, decide_eq_true_eq, Option.isNone_iff_eq_none] at h
      obtain ⟨rfl, hn⟩ := h
      simp only [cond_true, fnd]
      by_cases hk : k = j
      · subst hk; rw [dI_none hn]; simp only [if_true, SE.den]
      · rw [if_neg hk]; exact dI_den E j r
    | false =>
      simp only [cond_false, fnd]
      by_cases hk : k = j
      · simp only [if_pos hk]
      · simp only [if_neg hk]; exact dI_den E j r
theorem dB_den (E : Env) (j : Nat) : ∀ l : List (Nat × SB), (match fnd j (dB l) with | some e => e.den E | none => E.b j) = (match fnd j l with | some e => e.den E | none => E.b j)
  | [] => rfl
  | (k, e) :: r => by
    simp only [dB]
    cases h : (decide (e = .v k) && (fnd k r).isNone) with
    | true =>
      simp only [Bool.and_eq_true, decide_eq_true_eq, Option.isNone_iff_eq_none] at h
      obtain ⟨rfl, hn⟩ := h
      simp only [cond_true, fnd]
      by_cases hk : k = j
      · subst hk; rw [dB_none hn]; simp only [if_true, SB.den]
      · rw [if_neg hk]; exact dB_den E j r
    | false =>
      simp only [cond_false, fnd]
      by_cases hk : k = j
      · simp only [if_pos hk]
      · simp only [if_neg hk]; exact dB_den E j r
theorem dA_den (E : Env) (j : Nat) : ∀ l : List (Nat × AE), (match fnd j (dA l) with | some e => e.den E | none => E.a j) = (match fnd j l with | some e => e.den E | none => E.a j)
  | [] => rfl
  | (k, e) :: r => by
    simp only [dA]
    cases h : (decide (e = .v k) && (fnd k r).isNone) with
    | true =>
      simp only [Bool.and_eq_true, decide_eq_true_eq, Option.isNone_iff_eq_none] at h
      obtain ⟨rfl, hn⟩ := h
      simp only [cond_true, fnd]
      by_cases hk : k = j
      · subst hk; rw [dA_none hn]; simp only [if_true]; rfl
      · rw [if_neg hk]; exact dA_den E j r
    | false =>
      simp only [cond_false, fnd]
      by_cases hk : k = j
      · simp only [if_pos hk]
      · simp only [if_neg hk]; exact dA_den E j r
theorem put_d (E : Env) (si : List (Nat × SE)) (sb : List (Nat × SB)) (sa : List (Nat × AE)) (o : Nat → Value) : E.put (dI si) (dB sb) (dA sa) o = E.put si sb sa o := by
  unfold Env.put
  congr 1
  · funext j; exact dI_den E j si
  · funext j; exact dB_den E j sb
  · funext j; exact dA_den E j sa
inductive Vl where
  | dead (F : Fx)
  | go (i : Nat) (si : List (Nat × SE)) (sb : List (Nat × SB)) (sa : List (Nat × AE)) (F : Fx) (fo : Fo) (k : List KF)
  | out (a : Nat) (es : List Eqn) (F : Fx)
  | bad (c : Cf)
def regOf (l : Cf) : Option Nat :=
  match l.fo, l.k with
  | .code (.loop b), _ => firstRegion b
  | .exit .normal, .loop b :: _ => firstRegion b
  | _, _ => none
def findPt (h0 : List SBlk) (l : Cf) (r : Option Nat) : List Pt → Nat → Option (Nat × Sub)
  | [], _ => none
  | t :: q, i => if some t.r = r then (let S := { mHead h0.length t l with t := some l.tmps }; if chkHead h0 t l S then some (i, S) else findPt h0 l r q (i + 1)) else findPt h0 l r q (i + 1)
def altMay (F : Fx) (a : Alt) : Bool := match dec F a.c with | some false => false | _ => true
def altTry (h0 : List SBlk) (o : Out) (a : Alt) : Option (Sub × List Eqn) :=
  let S := mHeap a.post o.heap a.post.length (mV a.res o.res { k := idD a.post h0.length })
  if lowOk S h0.length a.post o.heap && hiOk S h0 a.post.length && injB S a.post.length && decide (h0.length ≤ a.post.length) && altMay o.facts a then
    match oapp (eqV S o.res a.res) (eqHeapGo S o.facts o.heap a.post.zipIdx) with
    | some es => some (S, es)
    | none => none
  else none
def altsTry (h0 : List SBlk) (o : Out) : List Alt → Nat → Option (Nat × Sub × List Eqn)
  | [], _ => none
  | a :: r, i => match altTry h0 o a with
    | some (S, es) => some (i, S, es)
    | none => altsTry h0 o r (i + 1)
def vOf (p : Prm) (ct : Ct) (pts : List Pt) (l : Bool × Cf) : Vl :=
  if l.1 then .dead l.2.facts else
  if l.2.fid != ct.g then .bad l.2 else
  match outOf p l with
  | some o => match altsTry ct.heap o ct.alts 0 with
    | some (i, _, es) => .out i es o.facts
    | none => .bad l.2
  | none => match findPt ct.heap l.2 (regOf l.2) pts 0 with
    | some (i, S) => .go i (dI S.i) (dB S.b) (dA S.a) l.2.facts l.2.fo l.2.k
    | none => .bad l.2
def VOk (pts : List Pt) (ct : Ct) (I : Env → Nat → Env → Prop) (μ : Env → Nat → Env → Nat) (bound : Option Nat) (E0 E : Env) : Vl → Prop
  | .dead F => Facts E F → False
  | .go i si sb sa F fo k => Facts E F → (∃ t, pts[i]? = some t ∧ ((fo = .code (.loop t.b) ∧ k = t.K) ∨ (fo = .exit .normal ∧ k = .loop t.b :: t.K))) ∧
      ∀ o, I E0 i (E.put si sb sa o) ∧ ∀ b, bound = some b → μ E0 i (E.put si sb sa o) < b
  | .out a es F => Facts E F → altSel E0 ct.alts = ct.alts[a]? ∧ ∀ q ∈ es, q.ok E E0
  | .bad _ => False
def VOkX (pts : List Pt) (ct : Ct) (I : Env → Nat → Env → Prop) (μ : Env → Nat → Env → Nat) (bound : Option Nat) (E0 E : Env) : Vl → Prop
  | .dead F => Facts E F → False
  | .go i si sb sa F fo k => Facts E F → (∃ t, pts[i]? = some t ∧ ((fo = .code (.loop t.b) ∧ k = t.K) ∨ (fo = .exit .normal ∧ k = .loop t.b :: t.K))) ∧
      ∀ o, I E0 i (E.put si sb sa o) ∧ ∀ b, bound = some b → μ E0 i (E.put si sb sa o) < b
  | .out a es F => Facts E F → altSel E0 ct.alts = ct.alts[a]? ∧ ∃ V, (∀ q ∈ es, q.ok E (E0.upd xb ct.nx V)) ∧ ∀ a', ct.alts[a]? = some a' → Facts (E0.upd xb ct.nx V) a'.xf
  | .bad _ => False
theorem VOk.x {pts : List Pt} {ct : Ct} {I : Env → Nat → Env → Prop} {μ : Env → Nat → Env → Nat} {bound : Option Nat} {E0 E : Env} (hnx : ct.nx = 0) (hxf : ∀ a ∈ ct.alts, a.xf = []) {v : Vl} (h : VOk pts ct I μ bound E0 E v) : VOkX pts ct I μ bound E0 E v := by
  cases v with
  | dead F => exact h
  | go i si sb sa F fo k => exact h
  | out a es F =>
    intro hF
    obtain ⟨h1, h2⟩ := h hF
    refine ⟨h1, E0, by rw [hnx, Env.upd_zero]; exact h2, fun a' ha' => ?_⟩
    rw [hxf a' (List.mem_of_getElem? ha')]
    intro q hq; cases hq
  | bad c => exact h
theorem findPt_ok {h0 : List SBlk} {l : Cf} {r : Option Nat} : ∀ {pts : List Pt} {i0 i : Nat} {S : Sub}, findPt h0 l r pts i0 = some (i, S) → ∃ t, i0 ≤ i ∧ pts[i - i0]? = some t ∧ chkHead h0 t l S = true ∧ S.t = some l.tmps
  | [], i0, i, S, h => by cases h
  | t :: q, i0, i, S, h => by
    simp only [findPt] at h
    have next : findPt h0 l r q (i0 + 1) = some (i, S) → ∃ t', i0 ≤ i ∧ (t :: q)[i - i0]? = some t' ∧ chkHead h0 t' l S = true ∧ S.t = some l.tmps := fun h => by
      obtain ⟨t', h1, h2, h3⟩ := findPt_ok h
      have e : i - i0 = (i - (i0 + 1)) + 1 := by omega
      exact ⟨t', by omega, by rw [e]; simpa using h2, h3⟩
    split at h
    · split at h
      · rename_i hc; cases h; exact ⟨t, Nat.le_refl _, by simp, hc, rfl⟩
      · exact next h
    · exact next h
theorem altsTry_ok {h0 : List SBlk} {o : Out} : ∀ {alts : List Alt} {i0 i : Nat} {S : Sub} {es : List Eqn}, altsTry h0 o alts i0 = some (i, S, es) → ∃ a, i0 ≤ i ∧ alts[i - i0]? = some a ∧ altTry h0 o a = some (S, es)
  | [], i0, i, S, es, h => by cases h
  | a :: r, i0, i, S, es, h => by
    simp only [altsTry] at h
    split at h
    · rename_i S' es' hc; cases h; exact ⟨a, Nat.le_refl _, by simp, hc⟩
    · obtain ⟨t', h1, h2, h3⟩ := altsTry_ok h
      have e : i - i0 = (i - (i0 + 1)) + 1 := by omega
      exact ⟨t', by omega, by rw [e]; simpa using h2, h3⟩
theorem out_ok {o : Out} (hF : Facts E o.facts) (hw : HOk E β o.heap w) {Es E0 : Env} {a : Alt} {S : Sub} {es : List Eqn} {h0 : List SBlk} {β0 : Nat → Bk} {w0 : World} (x : Ext Es h0 β0 w0 E o.heap β w) (h : altTry h0 o a = some (S, es)) (hq : ∀ q ∈ es, q.ok E E0) :
    ∃ β', o.res.den E β = a.res.den E0 β' ∧ HOk E0 β' a.post w ∧ Ext Es h0 β0 w0 E0 a.post β' w := by
  unfold altTry at h
  simp only at h
  generalize hS : mHeap a.post o.heap a.post.length (mV a.res o.res { k := idD a.post h0.length }) = S' at h
  split at h
  · rename_i hc
    split at h
    · rename_i es' he
      cases h
      simp only [Bool.and_eq_true, decide_eq_true_eq] at hc
      obtain ⟨⟨⟨⟨h1, h2⟩, h3⟩, h4⟩, _⟩ := hc
      obtain ⟨e1, e2, k1, k2, rfl⟩ := oapp_some he
      have hres := eqV_ok (E := E) (bsub_map (E := E) (β := β) (h := o.heap) (S := S)) k1 fun q hh => hq q (by simp [hh])
      have hone : ∀ (i : Nat) (s : SBlk), a.post[i]? = some s → isDead s = true ∨ ∃ x e, fnd i S.k = some x ∧ eqBlk S o.facts o.heap s x = some e ∧ ∀ q ∈ e, q.ok E E0 := fun i s hi =>
        eqHeapGo_ok k2 (fun q hh => hq q (by simp [hh])) s i (by rw [List.mem_zipIdx_iff_getElem?]; exact hi)
      have hsome : ∀ (i : Nat) (s : SBlk) (b : Nat) (e : List Eqn), fnd i S.k = some (some b) → eqBlk S o.facts o.heap s (some b) = some e → (∀ q ∈ e, q.ok E E0) → ∃ t, o.heap[b]? = some t ∧
          SBlk.ok E0 (bsub E β o.heap S) (bsub E β o.heap S i) w s ∧ (∀ x, s.at E0 (bsub E β o.heap S i) x → t.at E (β b) x) ∧ (s.wr (bsub E β o.heap S i) → t.wr (β b)) := fun i s b e g1 g2 g3 => by
        cases hb : o.heap[b]? with
        | none => unfold eqBlk at g2; simp only [hb] at g2; cases s <;> simp_all
        | some t =>
          obtain ⟨q1, q2⟩ := eqBlk_ok (E := E) (β := β) (w := w) hF g1 hb g2 g3
          obtain ⟨q3, q4⟩ := q1 (hw.ok b t hb)
          exact ⟨t, rfl, q3, q4, q2⟩
      have hnil : ∀ (i : Nat) (s : SBlk) (e : List Eqn), fnd i S.k = some none → eqBlk S o.facts o.heap s none = some e → (∀ q ∈ e, q.ok E E0) → SBlk.ok E0 (bsub E β o.heap S) (bsub E β o.heap S i) w s ∧ ∀ x, ¬ s.at E0 (bsub E β o.heap S i) x := fun i s e g1 g2 g3 => by
        rw [bsub_nil g1]
        unfold eqBlk at g2
        simp only at g2
        split at g2
        · rename_i a' ks n T
          cases g2
          have e2 := eqnE_ok (E := E) (E0 := E0) (x := .c 0) (y := n) g3
          refine ⟨⟨rfl, 0, by simp, ?_⟩, fun x hx => by simp [SBlk.at, SBlk.real, nilBk] at hx⟩
          simp only [← e2, SE.den, rowCells, Bk.v, nilBk]
          simpa [SV.denL] using World.ownsRow_nil w 0 T ks.length
        · rename_i k n r
          split at g2
          · rename_i hk
            cases g2
            have e2 := eqnE_ok (E := E) (E0 := E0) (x := .c 0) (y := n) g3
            simp only [SBlk.ok, SBlk.at, SL.den, ← e2]
            exact ⟨E0.fn.pn k _ _ _ hk, fun x => E0.fn.fn k _ _ x hk⟩
          · cases g2
        · cases g2
      have hat : ∀ (i : Nat) (s : SBlk) (x : Nat), a.post[i]? = some s → s.at E0 (bsub E β o.heap S i) x → ∃ b t, fnd i S.k = some (some b) ∧ o.heap[b]? = some t ∧ t.at E (β b) x := fun i s x hi hr => by
        rcases hone i s hi with h | ⟨y, e, g1, g2, g3⟩
        · exact (dead_at h hr).elim
        · cases y with
          | none => exact ((hnil i s e g1 g2 g3).2 x hr).elim
          | some b =>
            obtain ⟨t, q1, _, q3, _⟩ := hsome i s b e g1 g2 g3
            exact ⟨b, t, g1, q1, q3 x hr⟩
      refine ⟨bsub E β o.heap S, hres, hok_sub hw (fun i => match fnd i S.k with | some (some b) => b | _ => i) (fun i j s t x hi hj hri hrj he => ?_) (fun i s x hi hr => ?_) (fun i s hi => ?_),
        ext_sub x (fun i => match fnd i S.k with | some (some b) => b | _ => i) h4 (fun i hi => ?_) (fun i s q hi hr => ?_) (fun i s hi hs hwr => ?_) (fun i s q hi hs hr => ?_) (fun i s q hi hs hr => ?_)⟩
      · obtain ⟨b, t', f1, _⟩ := hat i s x hi hri
        obtain ⟨c, u', g1, _⟩ := hat j t x hj hrj
        simp only [f1, g1] at he
        subst he
        exact injB_ok h3 (List.getElem?_eq_some_iff.1 hi).1 (List.getElem?_eq_some_iff.1 hj).1 f1 g1
      · obtain ⟨b, t, f1, f2, f3⟩ := hat i s x hi hr
        simp only [f1]
        exact ⟨t, f2, f3⟩
      · rcases hone i s hi with h | ⟨x, e, g1, g2, g3⟩
        · cases s <;> simp_all [isDead, SBlk.ok]
        · cases x with
          | none => exact (hnil i s e g1 g2 g3).1
          | some b =>
            obtain ⟨t, _, q2, _⟩ := hsome i s b e g1 g2 g3
            exact q2
      · rw [(bsub_low h1 hi).1]; exact x.agree i hi
      · obtain ⟨b, t, f1, f2, f3⟩ := hat i s q hi hr
        simp only [f1]
        exact ⟨t, f2, f3⟩
      · rcases hone i s hs with h | ⟨x, e, g1, g2, g3⟩
        · cases s <;> simp_all [isDead, SBlk.wr]
        · have hk : fnd i S.k = some (some i) := by
            rcases (bsub_low (E := E) (β := β) h1 hi).2 with hk | ⟨s', e1, e2⟩
            · exact hk
            · rw [hs] at e1; cases e1; cases s <;> simp_all [isDead, SBlk.wr]
          rw [hk] at g1
          cases g1
          obtain ⟨t, q1, _, _, q4⟩ := hsome i s i e hk g2 g3
          exact ⟨t, q1, q4 hwr⟩
      · rcases (bsub_low (E := E) (β := β) h1 hi).2 with hk | ⟨s', e1, e2⟩
        · simp only [hk]
        · rw [hs] at e1; cases e1; exact (dead_at e2 hr).elim
      · obtain ⟨b, t, f1, f2, _⟩ := hat i s q hs hr
        simp only [f1]
        have := List.all_eq_true.1 h2 i (List.mem_range.2 (List.getElem?_eq_some_iff.1 hs).1)
        rw [f1] at this
        simp only [Bool.or_eq_true, decide_eq_true_eq] at this
        rcases this with h | h
        · omega
        · exact h
    · cases h
  · cases h
theorem outOf_parts {l : Bool × Cf} {o : Out} (hd : l.1 = false) (h : outOf p l = some o) : o.facts = l.2.facts ∧ o.heap = l.2.heap ∧ o.dead = false := by
  unfold outOf at h
  rw [hd] at h
  simp only [Bool.false_eq_true, if_false] at h
  split at h
  · cases h
  · split at h
    · split at h
      · split at h
        · cases h; exact ⟨rfl, rfl, rfl⟩
        · cases h
      · cases h
    · cases h
  · cases h
theorem leaf_out (hp : PrmOk E p) {l : Cf} {o : Out} {fn : Func} {R : Ending → World → Prop} (hF : Facts E l.facts) (hw : HOk E β l.heap w) (hol : outOf p (false, l) = some o) (hfn : p.P.funcs[l.fid]? = some fn)
    (hR : R (.returned (o.res.den E β)) w) : l.wp E β p (bodyPostD p.P fn R) w := by
  unfold outOf at hol
  simp only [Bool.false_eq_true, if_false] at hol
  have fin : ∀ e, l.k = [] → l.fo = .exit e → (e = .normal ∨ e = .ret) → (if l.ds.all (SD.fine p) then
      match p.P.funcs[l.fid]? with
      | some fn => match sRes p.P l.facts l.heap l.tmps fn.results.toList with
        | some v => some (Out.mk false l.facts v l.heap)
        | none => none
      | none => none
    else none) = some o → l.wp E β p (bodyPostD p.P fn R) w := by
    intro e hk hfo he hol
    split at hol
    · rename_i hfine
      rw [hfn] at hol
      simp only at hol
      split at hol
      · rename_i v hv
        cases hol
        simp only [Cf.wp, hfo, hk, kpost]
        have hL : Leaves p.P fn (l.tmps.den E β) R (l.ds.map (SD.den E β)) .returning w :=
          benign_leaves hp hfine ⟨_, sRes_ok hF hw hv, hR⟩
        rcases he with rfl | rfl <;> exact hL
      · cases hol
    · cases hol
  split at hol
  · cases hol
  · rename_i e hne hk hfo
    cases e with
    | normal => exact fin .normal hk hfo (Or.inl rfl) hol
    | ex id => exact (hne id rfl).elim
    | ret => exact fin .ret hk hfo (Or.inr rfl) hol
  · cases hol
theorem leaf_v (hp : PrmOk E p) (hg : p.gm.ok β) {ct : Ct} {pts : List Pt} {I : Env → Nat → Env → Prop} {μ : Env → Nat → Env → Nat} {bound : Option Nat} {E0 : Env} {β0 : Nat → Bk} {w0 : World} {fn : Func}
    (hgb : ∀ q ∈ p.gm, q.2 < ct.heap.length) (hfn : p.P.funcs[ct.g]? = some fn) (hK : ∀ t ∈ pts, noRet t.K = true)
    (ih : ∀ i t E' β' w', pts[i]? = some t → E'.fn = E.fn → (∀ b, bound = some b → μ E0 i E' < b) → I E0 i E' → p.gm.ok β' → HOk E' β' t.heap w' → Ext E0 ct.heap β0 w0 E' t.heap β' w' → (t.cf ct.g).wp E' β' p (bodyPostD p.P fn (ctPost E0 β0 w0 ct)) w')
    {l : Bool × Cf} (hF : Facts E l.2.facts) (hw : HOk E β l.2.heap w) (x : Ext E0 ct.heap β0 w0 E l.2.heap β w) (H : VOkX pts ct I μ bound E0 E (vOf p ct pts l)) : l.1 = false ∧ l.2.wp E β p (bodyPostD p.P fn (ctPost E0 β0 w0 ct)) w := by
  obtain ⟨d, l⟩ := l
  unfold vOf at H
  simp only at hF hw x H ⊢
  split at H
  · exact (H hF).elim
  · rename_i hd
    have hd : d = false := by simpa using hd
    subst hd
    refine ⟨rfl, ?_⟩
    split at H
    · exact H.elim
    · rename_i hfid
      have hfid : l.fid = ct.g := by simpa using hfid
      split at H
      · rename_i o ho
        obtain ⟨p1, p2, _⟩ := outOf_parts (p := p) rfl ho
        simp only at p1 p2
        split at H
        · rename_i i S es hal
          obtain ⟨a, _, ha, hat⟩ := altsTry_ok hal
          simp only [Nat.sub_zero] at ha
          rw [← p1] at hF
          obtain ⟨q1, V, q2, q3⟩ := H hF
          obtain ⟨β', r1, r2, r3⟩ := out_ok (E := E) (w := w) (β0 := β0) (w0 := w0) hF (by rw [p2]; exact hw) (by rw [p2]; exact x) hat q2
          refine leaf_out hp (by rw [← p1]; exact hF) hw ho (by rw [hfid]; exact hfn) ⟨a, β', V, by rw [q1]; exact ha, by rw [r1], r2, r3, q3 a ha⟩
        · exact H.elim
      · split at H
        · rename_i i S hpt
          obtain ⟨t, _, ht, hch, hSt⟩ := findPt_ok hpt
          simp only [Nat.sub_zero] at ht
          unfold chkHead at hch
          have hSS : ({ S with t := some l.tmps } : Sub) = S := by rw [← hSt]
          simp only [hSS, Bool.and_eq_true, decide_eq_true_eq, beq_iff_eq] at hch
          obtain ⟨⟨⟨⟨⟨⟨c1, c1'⟩, c2⟩, c3⟩, c4⟩, c5⟩, c6⟩ := hch
          obtain ⟨⟨t', ht', hfo⟩, hI⟩ := H hF
          rw [ht] at ht'
          cases ht'
          have hB := bsub_map (E := E) (β := β) (h := l.heap) (S := S)
          have hact : actS E β l.tmps l.ds = actS (E.sub β S) (bsub E β l.heap S) (tm t.n t.tmps) t.ds := by
            unfold actS actD
            rw [chkTm_ok (E := E) hB hSt c1'.2 (fun p hp => by simpa using List.all_eq_true.1 c1'.1 p hp) c1, chkDs_ok (E := E) hB c2]
          have hgm' : p.gm.ok (bsub E β l.heap S) := fun q hq => by
            rw [(bsub_low (E := E) (β := β) c4 (hgb q hq)).1]; exact hg q hq
          have hEp : E.sub β S = E.put S.i S.b S.a (E.sub β S).o := rfl
          have hI' := hI (E.sub β S).o
          rw [put_d, ← hEp] at hI'
          have hcf := ih i t (E.sub β S) (bsub E β l.heap S) w ht rfl hI'.2 hI'.1 hgm' (hok_match hF hw c3) (ext_match hF hw x c3 c4 c5 c6)
          have hnr := hK t (List.mem_of_getElem? ht)
          simp only [Pt.cf, Cf.wp, kpost] at hcf
          rw [kpost_env (E := E) (β := β) hnr] at hcf
          rcases hfo with ⟨h1, h2⟩ | ⟨h1, h2⟩
          · simp only [Cf.wp, h1, h2]
            rw [hact]
            exact loop_of hcf
          · simp only [Cf.wp, h1, h2, kpost, SX.den, Exit.then]
            rw [hact]
            exact loopC_of hcf
        · exact H.elim
theorem ct_of_ptsX {fns : Fns} {ct : Ct} {pts : List Pt} {n : Nat} {fn : Func} {c0 : Cf} (hp : ∀ E : Env, E.fn = fns → PrmOk E p) (hgm : ct.gm = p.gm) (hgb : ∀ q ∈ p.gm, q.2 < ct.heap.length) (hfn : p.P.funcs[ct.g]? = some fn)
    (hen : enter p ct.g ct.args ct.heap ct.pre = some c0) (hK : ∀ t ∈ pts, noRet t.K = true ∧ ct.heap.length ≤ t.heap.length) (I : Env → Nat → Env → Prop) (μ : Env → Nat → Env → Nat) (ls0 : List Vl) (hr0 : (run p n c0).map (vOf p ct pts) = ls0)
    (h0 : ∀ E0 : Env, E0.fn = fns → Facts E0 ct.pre → (∀ a, altSel E0 ct.alts = some a → Facts E0 a.facts) ∧ ∀ E' : Env, AgE 1000 E0 E' → (p.nox = true → E' = E0) → ∀ x ∈ ls0, VOkX pts ct I μ none E0 E' x)
    (hpt : ∀ i t, pts[i]? = some t → ∃ ls, (run p n (t.cf ct.g)).map (vOf p ct pts) = ls ∧ ∀ E0 E : Env, E0.fn = fns → E.fn = fns → Facts E0 ct.pre → I E0 i E → Facts E t.facts ∧ ∀ E' : Env, AgE 1000 E E' → (p.nox = true → E' = E) → ∀ x ∈ ls, VOkX pts ct I μ (some (μ E0 i E)) E0 E' x) :
    CtOk p.P fns ct := by
  intro E0 β0 w0 hE0 hg0 hw0 hF0
  obtain ⟨ha, hl0⟩ := h0 E0 hE0 hF0
  refine ⟨ha, ?_⟩
  rw [hgm] at hg0
  have main : ∀ m i t E β w, μ E0 i E = m → pts[i]? = some t → E.fn = fns → I E0 i E → p.gm.ok β → HOk E β t.heap w → Ext E0 ct.heap β0 w0 E t.heap β w → (t.cf ct.g).wp E β p (bodyPostD p.P fn (ctPost E0 β0 w0 ct)) w := by
    intro m
    induction m using Nat.strongRecOn with
    | ind m ih =>
      intro i t E β w hm ht hE hI hg hw hx
      obtain ⟨ls, hr, hls⟩ := hpt i t ht
      obtain ⟨hFt, hvl⟩ := hls E0 E hE0 hE hF0 hI
      have hlen := (hK t (List.mem_of_getElem? ht)).2
      refine run_sound n (t.cf ct.g) E β w _ (hp E hE) hg (fun q hq => Nat.lt_of_lt_of_le (hgb q hq) hlen) hFt hw fun l hl => fun E' hR hF => ?_
      have hE' : E'.fn = fns := hR.1.fn.trans hE
      have hv := hvl E' hR.1 (fun h => hR.2.2 (.inr h)) (vOf p ct pts l) (by rw [← hr]; exact List.mem_map_of_mem hl)
      have key : ∀ β' w', Ext E t.heap β w E' l.2.heap β' w' → HOk E' β' l.2.heap w' → l.1 = false ∧ l.2.wp E' β' p (bodyPostD p.P fn (ctPost E0 β0 w0 ct)) w' := fun β' w' hx' hw' =>
        leaf_v (hp E' hE') (gm_ext hg (fun q hq => Nat.lt_of_lt_of_le (hgb q hq) hlen) hx').1 hgb hfn (fun t ht => (hK t ht).1)
          (fun j u E2 β2 w2 hj hE2 hb hI' hg2 hw2 hx2 => ih _ (by rw [← hm]; exact hb _ rfl) j u E2 β2 w2 rfl hj (hE2.trans hE') hI' hg2 hw2 hx2) hF hw' (hx.trans hx') hv
      refine ⟨?_, fun β' w' hx' hw' => (key β' w' hx' hw').2⟩
      cases hl1 : l.1 with
      | false => rfl
      | true =>
        unfold vOf at hv
        simp only [hl1, if_true] at hv
        exact (hv hF).elim
  unfold enter at hen
  rw [hfn] at hen
  simp only at hen
  split at hen
  · rename_i b hb
    cases hen
    refine calls_of_wp_defers hfn hb ?_
    have ea : ({ tmps := (SV.denL E0 β0 ct.args).toArray ++ Array.replicate (fn.ntmps - (SV.denL E0 β0 ct.args).toArray.size) undef, defers := [] } : Act) = actS E0 β0 (Tm.entry ct.args fn.ntmps) [] := by
      unfold actS actD
      rw [Tm.entry_den]; rfl
    rw [ea]
    have := run_sound n { tmps := Tm.entry ct.args fn.ntmps, ds := [], heap := ct.heap, facts := ct.pre, fo := .code b, k := [], fid := ct.g } E0 β0 w0 (bodyPostD p.P fn (ctPost E0 β0 w0 ct)) (hp E0 hE0) hg0 hgb hF0 hw0 (fun l hl => fun E' hR hF => by
      have hE' : E'.fn = fns := hR.1.fn.trans hE0
      have hv := hl0 E' hR.1 (fun h => hR.2.2 (.inr h)) (vOf p ct pts l) (by rw [← hr0]; exact List.mem_map_of_mem hl)
      have key : ∀ β' w', Ext E0 ct.heap β0 w0 E' l.2.heap β' w' → HOk E' β' l.2.heap w' → l.1 = false ∧ l.2.wp E' β' p (bodyPostD p.P fn (ctPost E0 β0 w0 ct)) w' := fun β' w' hx' hw' =>
        leaf_v (hp E' hE') (gm_ext hg0 hgb hx').1 hgb hfn (fun t ht => (hK t ht).1)
          (fun j u E2 β2 w2 hj hE2 hb hI' hg2 hw2 hx2 => main _ j u E2 β2 w2 rfl hj (hE2.trans hE') hI' hg2 hw2 hx2) hF hw' hx' hv
      refine ⟨?_, fun β' w' hx' hw' => (key β' w' hx' hw').2⟩
      cases hl1 : l.1 with
      | false => rfl
      | true =>
        unfold vOf at hv
        simp only [hl1, if_true] at hv
        exact (hv hF).elim)
    simp only [Cf.wp, kpost] at this
    exact this
  · cases hen
theorem ct_of_pts {fns : Fns} {ct : Ct} {pts : List Pt} {n : Nat} {fn : Func} {c0 : Cf} (hp : ∀ E : Env, E.fn = fns → PrmOk E p) (hgm : ct.gm = p.gm) (hgb : ∀ q ∈ p.gm, q.2 < ct.heap.length) (hfn : p.P.funcs[ct.g]? = some fn)
    (hen : enter p ct.g ct.args ct.heap ct.pre = some c0) (hK : ∀ t ∈ pts, noRet t.K = true ∧ ct.heap.length ≤ t.heap.length) (I : Env → Nat → Env → Prop) (μ : Env → Nat → Env → Nat) (ls0 : List Vl) (hr0 : (run p n c0).map (vOf p ct pts) = ls0)
    (h0 : ∀ E0 : Env, E0.fn = fns → Facts E0 ct.pre → (∀ a, altSel E0 ct.alts = some a → Facts E0 a.facts) ∧ ∀ x ∈ ls0, VOk pts ct I μ none E0 E0 x)
    (hpt : ∀ i t, pts[i]? = some t → ∃ ls, (run p n (t.cf ct.g)).map (vOf p ct pts) = ls ∧ ∀ E0 E : Env, E0.fn = fns → E.fn = fns → Facts E0 ct.pre → I E0 i E → Facts E t.facts ∧ ∀ x ∈ ls, VOk pts ct I μ (some (μ E0 i E)) E0 E x)
    (hnox : p.nox = true := by rfl) (hnx : ct.nx = 0 := by rfl) (hxf : ct.alts.all (fun a => a.xf.isEmpty) = true := by rfl) : CtOk p.P fns ct := by
  have hx : ∀ a ∈ ct.alts, a.xf = [] := fun a ha => by simpa using List.all_eq_true.1 hxf a ha
  refine ct_of_ptsX hp hgm hgb hfn hen hK I μ ls0 hr0 (fun E0 hE0 hF => ⟨(h0 E0 hE0 hF).1, fun E' _ he x hm => ?_⟩) (fun i t ht => ?_)
  · rw [he hnox]; exact VOk.x hnx hx ((h0 E0 hE0 hF).2 x hm)
  · obtain ⟨ls, h1, h2⟩ := hpt i t ht
    refine ⟨ls, h1, fun E0 E e1 e2 e3 e4 => ⟨(h2 E0 E e1 e2 e3 e4).1, fun E' _ he x hm => ?_⟩⟩
    rw [he hnox]; exact VOk.x hnx hx ((h2 E0 E e1 e2 e3 e4).2 x hm)
def noCf : Cf := { tmps := Tm.empty 0 false, ds := [], heap := [], facts := [], fo := .exit .normal, k := [], fid := 0 }
def enterD (p : Prm) (ct : Ct) : Cf := (enter p ct.g ct.args ct.heap ct.pre).getD noCf
def ptD (pts : List Pt) (i : Nat) (g : FuncId) : Cf := match pts[i]? with | some t => t.cf g | none => noCf
theorem ptD_some {pts : List Pt} {i : Nat} {t : Pt} (h : pts[i]? = some t) (g : FuncId) : ptD pts i g = t.cf g := by unfold ptD; rw [h]
end Go.Sy
end
section
set_option autoImplicit true
set_option relaxedAutoImplicit true
set_option linter.unusedVariables false
set_option linter.unusedSimpArgs false
namespace Go.Sy
open Go Go.ChangeShapes Go.WideShapes Go.RowKit
section
variable {H : Type} {enc : TypeId × Value → H} {P : Program} {W W' : World}
theorem trodAll_carry {base : Nat} {spare : Nat → Bool} {held : Bool} : ∀ {ts : List TypeId} {vs : List Value} {ds : List (DataW H)} {ps : List MemPlace}, DataW.TrodAll enc P W base spare held ts vs ds ps → (∀ p ∈ ps, W.sameAt W' p) → DataW.TrodAll enc P W' base spare held ts vs ds ps
  | [], vs, ds, ps, h, _ => by
    obtain ⟨rfl, rfl, rfl⟩ := trodAll_nil h
    exact trodAll_mk0
  | t :: ts, vs, ds, ps, h, hs => by
    obtain ⟨v, vs', d, ds', p, q, rfl, rfl, rfl, ⟨n, h1⟩, h2⟩ := trodAll_cons h
    exact trodAll_cons_mk ⟨n, DataW.trod_carry n t _ _ h1 fun p hp => hs p (by simp [show p ∈ _ from hp])⟩ (trodAll_carry h2 fun p hp => hs p (by simp [hp]))
theorem trodAll_again {T : TypeId → Prop} (K : Kids P T) (hz : ∀ t e, T t → P.underlying t = some (.slice e) → 0 < P.cellsOf e) {ts : List TypeId} {vs : List Value} {ds : List (DataW H)} {ps : List MemPlace} (hT : ∀ t ∈ ts, T t) (bel : Below W.heap.size W W')
    (h : DataW.TrodAll enc P W 0 (fun _ => true) true ts vs ds ps) (hlt : ∀ p ∈ ps, p.block < W.heap.size) : DataW.TrodAll enc P W' 0 (fun b => decide (b < W.heap.size)) true ts vs ds ps :=
  DataW.TrodAll.respare K hz hT (trodAll_carry h fun p hp => bel.same (hlt p hp)) fun p hp => by simpa using hlt p hp
def zr : Nat → Value := fun _ => .nilIface
def numsAt (w : World) (ks : List SK) (a o n : Nat) (A : Nat → Int) : Prop :=
  ∃ cs T fz, w.heap[a]? = some (.cells cs T fz) ∧ ∀ j, j < n * ks.length → cs[o + j]? = some ((ks.getD (j % ks.length) default).val (A j) .nilIface)
theorem open_rows {t e : TypeId} {ks : List SK} {v : Value} {d : DataW H} {ps : List MemPlace} {r : Reach} {b0 : Nat} (ht : P.underlying t = some (.slice e)) (hK : P.cellsOf e = ks.length) (hk0 : 0 < ks.length) (R : Nat → Int → Prop)
    (hel : ∀ n cs' y, DataW.trod enc P W 0 (fun _ => true) true n e cs' = some y → ∃ f : Nat → Int, cs' = (List.range ks.length).map (fun c => (ks.getD c default).val (f c) .nilIface) ∧ ∀ c, c < ks.length → R c (f c))
    (hv : Value.okWide P W r b0 t v) (h : DataW.Trod enc P W 0 (fun _ => true) true t v d ps) :
    v = .slice none 0 0 ∨ ∃ (a o len cap : Nat) (A : Nat → Int), v = .slice (some ⟨a, o, none⟩) len cap ∧ len ≤ cap ∧ cap ≤ maxLen ∧ a < W.heap.size ∧ numsAt W ks a o cap A ∧ ∀ j, j < cap * ks.length → R (j % ks.length) (A j) := by
  obtain ⟨fuel, hf⟩ := h
  rcases Go.Deep.open_slice ht hf with ⟨h0, _⟩ | ⟨a, len, cap, m, n, D, Pl, hcs, _, hl, hm, hmm, hx, hel'⟩
  · left
    cases v <;> simp [Value.cells] at h0
    · rw [h0.1, h0.2.1, h0.2.2]
    · simp only [Value.okWide, ht, Cell.okWide, Cell.ok] at hv
  · right
    have hvs : v = .slice (some a) len cap := by
      cases v <;> simp [Value.cells] at hcs
      · rw [hcs.1, hcs.2.1, hcs.2.2]
      · simp only [Value.okWide, ht, Cell.okWide, Cell.ok] at hv
    subst hvs
    simp only [if_true] at hmm
    have hmm := hmm.symm
    subst hmm
    have hv' : W.has P r b0 a e cap := by
      simp only [Value.okWide, ht, Cell.okWide, Cell.ok] at hv
      exact hv.2.2
    obtain ⟨_, hsp, row, cells, hsh, _⟩ := hv'
    obtain ⟨ab, ao, asp⟩ := a
    simp only at hsp
    subst hsp
    obtain ⟨cs, T, fz, hblk⟩ : ∃ cs T fz, W.heap[ab]? = some (.cells cs T fz) := by
      unfold World.shape? at hsh
      split at hsh
      · rename_i c el f hh; exact ⟨c, el, f, hh⟩
      · cases hsh
    have each : ∀ i, ∃ f : Nat → Int, i < cap → (∀ c, c < ks.length → cs[ao + (i * ks.length + c)]? = some ((ks.getD c default).val (f c) .nilIface)) ∧ ∀ c, c < ks.length → R c (f c) := fun i => by
      by_cases hi : i < cap
      · obtain ⟨cs', h1, h2⟩ := hel' i hi
        obtain ⟨f, rfl, h4⟩ := hel _ _ _ h2
        refine ⟨f, fun _ => ⟨fun c hc => ?_, h4⟩⟩
        obtain ⟨_, _, h5⟩ := World.cells?_some h1
        have h6 := h5 c (by rw [hK]; exact hc)
        rw [Go.Deep.add_add] at h6
        have h7 : (List.map (fun c => (ks.getD c default).val (f c) .nilIface) (List.range ks.length))[c]? = some ((ks.getD c default).val (f c) .nilIface) := by simp [hc]
        rw [h7, hK] at h6
        rw [← h6]
        have h8 : (Addr.add ⟨ab, ao, none⟩ (i * ks.length + c)) = ⟨ab, ao + (i * ks.length + c), none⟩ := addr_add _ _ _
        rw [h8]
        simp [World.cell?, hblk]
      · exact ⟨fun _ => 0, fun h => (hi h).elim⟩
    let F : Nat → Nat → Int := fun i => Classical.choose (each i)
    have hF : ∀ i, i < cap → (∀ c, c < ks.length → cs[ao + (i * ks.length + c)]? = some ((ks.getD c default).val (F i c) .nilIface)) ∧ ∀ c, c < ks.length → R c (F i c) := fun i => Classical.choose_spec (each i)
    refine ⟨ab, ao, len, cap, fun j => F (j / ks.length) (j % ks.length), rfl, hl, hm, (Array.getElem?_eq_some_iff.1 hblk).1, ⟨cs, T, fz, hblk, fun j hj => ?_⟩, fun j hj => ?_⟩
    · have h1 : j / ks.length < cap := (Nat.div_lt_iff_lt_mul hk0).2 hj
      have h2 := (hF _ h1).1 (j % ks.length) (Nat.mod_lt _ hk0)
      have h3 : j / ks.length * ks.length + j % ks.length = j := by rw [Nat.mul_comm]; exact Nat.div_add_mod j ks.length
      rw [h3] at h2
      exact h2
    · have h1 : j / ks.length < cap := (Nat.div_lt_iff_lt_mul hk0).2 hj
      exact (hF _ h1).2 (j % ks.length) (Nat.mod_lt _ hk0)
theorem el_int {u : TypeId} {k : IntKind} (hu : P.underlying u = some (.int k)) {n : Nat} {cs' : List Value} {y : DataW H × List MemPlace} (h : DataW.trod enc P W 0 (fun _ => true) true n u cs' = some y) :
    ∃ f : Nat → Int, cs' = (List.range 1).map (fun c => .int k (f c)) ∧ ∀ c, c < 1 → k.min ≤ f c ∧ f c ≤ k.max := by
  obtain ⟨z, h2, _, h3⟩ := DataW.trod_int hu h
  exact ⟨fun _ => z, by rw [h2]; rfl, fun _ _ => by simpa [Lit.wf] using h3⟩
theorem hok_nums {E : Env} {ks : List SK} {a o n : Nat} {A : Nat → Int} {N : SE} (hlt : a < W.heap.size) (h : numsAt W ks a o n A) (hA : ∀ j, j < n * ks.length → E.a 0 j = A j) (hN : (N.den E).toNat ≤ n) : HOk E (fun _ => { a := a, o := o, q := zr }) [.arr (.v 0) ks N] W := by
  have at0 : ∀ (i : Nat) (s : SBlk) (x : Nat), [SBlk.arr (.v 0) ks N][i]? = some s → s.at E { a := a, o := o, q := zr } x → x = a := fun i s x hi hx => by
    have h1 := (List.getElem?_eq_some_iff.1 hi).1
    have h0 : i = 0 := by simp at h1; omega
    subst h0
    obtain rfl := Option.some.inj hi
    exact hx.2
  refine ⟨fun i j s t x hi hj _ _ => ?_, fun i s x hi hx => by rw [at0 i s x hi hx]; exact hlt, fun i s hi => ?_⟩
  · have h1 := (List.getElem?_eq_some_iff.1 hi).1
    have h2 := (List.getElem?_eq_some_iff.1 hj).1
    simp at h1 h2; omega
  · have h1 := (List.getElem?_eq_some_iff.1 hi).1
    have h0 : i = 0 := by simp at h1; omega
    subst h0
    obtain rfl := Option.some.inj hi
    obtain ⟨cs, T, fz, h2, h3⟩ := h
    refine ⟨cs, T, fz, h2, fun j hj => ?_⟩
    have hj' : j < n * ks.length := Nat.lt_of_lt_of_le hj (Nat.mul_le_mul_right _ hN)
    show cs[o + j]? = some ((ks.getD (j % ks.length) default).val ((AE.v 0).den E j) .nilIface)
    rw [h3 j hj']
    simp only [AE.den, hA j hj']
theorem law_of_ct {fns : Fns} {ct : Ct} {E : Env} {β : Nat → Bk} {w : World} {post : List SBlk} {F : Fx} (h : CtOk P fns ct) (hE : E.fn = fns) (hg : ct.gm = []) (hw : HOk E β ct.heap w) (hF : Facts E ct.pre) (ha : ct.alts = [{ res := .bool (.c true), post := post, facts := F }])
    (hro : ∀ s ∈ ct.heap, ∀ bk : Bk, ¬ s.wr bk) : Calls P ct.g (SV.denL E β ct.args).toArray w fun e w' => e = .returned (.bool true) ∧ Below w.heap.size w w' := by
  refine (h E β w hE (by rw [hg]; intro q hq; cases hq) hw hF).2.mono fun e w' ⟨a, β', V, h1, h2, h3, h4, _⟩ => ?_
  rw [ha] at h1
  obtain rfl := Option.some.inj h1
  refine ⟨by rw [h2]; rfl, h4.os, h4.tape, h4.output, h4.size, fun b hb => h4.same b hb fun i s hi hs => (hro s (List.mem_of_getElem? hi) _ hs).elim⟩
end
end Go.Sy
end
section
set_option autoImplicit true
set_option relaxedAutoImplicit true
set_option linter.unusedVariables false
set_option linter.unusedSimpArgs false
namespace Go.Sy
open Go Go.MapKept
section
variable {P : Program} {w : World}
def MapV (w : World) (r : Nat) (ik : IntKind) (off : Nat) (pres : Nat → Int) (val : Nat → Value) : Prop :=
  ∃ es clock, w.heap[r]? = some (.map es clock) ∧ Stamped es clock ∧ (∀ x ∈ es.toList, ∃ z : Nat, x.key = .int ik ((z : Int) - off) ∧ pres z ≠ 0 ∧ x.val = val z) ∧ ∀ z : Nat, pres z ≠ 0 → ∃ x ∈ es.toList, x.key = .int ik ((z : Int) - off)
theorem MapV.frame {w' : World} {r : Nat} {ik : IntKind} {off : Nat} {pres : Nat → Int} {val : Nat → Value} (h : MapV w r ik off pres val) (hs : w'.heap[r]? = w.heap[r]?) : MapV w' r ik off pres val := by
  obtain ⟨es, clock, h1, h2⟩ := h
  exact ⟨es, clock, by rw [hs]; exact h1, h2⟩
end
section
variable {E : Env} {β : Nat → Bk} {P : Program} {w : World}
end
def AE.z : AE := .tl (.v 0) (.c 0) .nil
section
variable {E : Env} {β : Nat → Bk} {P : Program} {w : World} {fns : Fns}
structure MapB (fns : Fns) (k : Nat) (ik : IntKind) (off : Nat) : Prop where
  p : ∀ A B a v w, fns.p k [.a A, .a B] a v w ↔ MapV w a ik off A (fun z => .bool (B z != 0))
  ft : ∀ l a v x, fns.ft k l a v x ↔ x = a
theorem ctPost0 {E : Env} {β β' : Nat → Bk} {w w' : World} {e : Ending} {c : Ct} {a : Alt} (ha : altSel E c.alts = some a) (hnx : c.nx = 0) (hxf : a.xf = []) (he : e = .returned (a.res.den E β')) (hw : HOk E β' a.post w') (hx : Ext E c.heap β w E a.post β' w') : ctPost E β w c e w' := by
  refine ⟨a, β', E, ha, ?_, ?_, ?_, ?_⟩ <;> rw [hnx, Env.upd_zero]
  · exact he
  · exact hw
  · exact hx
  · rw [hxf]; intro q hq; cases hq
theorem ext_same (E : Env) (h : List SBlk) (β : Nat → Bk) (w : World) (e : Ending) (c : Ct) (hh : c.heap = h) {a : Alt} (ha : altSel E c.alts = some a) (hnx : c.nx = 0) (hxf : a.xf = []) (hpost : a.post = h) (he : e = .returned (a.res.den E β)) (hw : HOk E β h w) : ctPost E β w c e w := by
  subst hh
  refine ⟨a, β, E, ha, ?_, ?_, ?_, ?_⟩ <;> rw [hnx, Env.upd_zero]
  · exact he
  · rw [hpost]; exact hw
  · rw [hpost]; exact Ext.refl _ _ _ _
  · rw [hxf]; intro q hq; cases hq
end
def BSame (E : Env) (s s' : SBlk) : Prop := (∀ γ bk w, SBlk.ok E γ bk w s ↔ SBlk.ok E γ bk w s') ∧ (∀ bk x, s.at E bk x ↔ s'.at E bk x) ∧ (∀ bk, s.wr bk ↔ s'.wr bk)
def HSame (E : Env) (h h' : List SBlk) : Prop := h.length = h'.length ∧ ∀ (i : Nat) (s s' : SBlk), h[i]? = some s → h'[i]? = some s' → BSame E s s'
theorem BSame.refl (E : Env) (s : SBlk) : BSame E s s := ⟨fun _ _ _ => Iff.rfl, fun _ _ => Iff.rfl, fun _ => Iff.rfl⟩
theorem BSame.symm {E : Env} {s s' : SBlk} (h : BSame E s s') : BSame E s' s := ⟨fun g b w => (h.1 g b w).symm, fun b x => (h.2.1 b x).symm, fun b => (h.2.2 b).symm⟩
theorem HSame.symm {E : Env} {h h' : List SBlk} (H : HSame E h h') : HSame E h' h := ⟨H.1.symm, fun i s s' a b => (H.2 i s' s b a).symm⟩
theorem HSame.nil (E : Env) : HSame E [] [] := ⟨rfl, fun i s s' a _ => by cases a⟩
theorem HSame.cons {E : Env} {s s' : SBlk} {h h' : List SBlk} (a : BSame E s s') (b : HSame E h h') : HSame E (s :: h) (s' :: h') := ⟨by simp [b.1], fun i x y hx hy => by
  cases i with
  | zero => cases hx; cases hy; exact a
  | succ j => exact b.2 j x y hx hy⟩
theorem HSame.get {E : Env} {h h' : List SBlk} (H : HSame E h h') {i : Nat} {s : SBlk} (hs : h[i]? = some s) : ∃ s', h'[i]? = some s' ∧ BSame E s s' := by
  have : i < h'.length := by rw [← H.1]; exact lt_len hs
  exact ⟨_, List.getElem?_eq_getElem this, H.2 i s _ hs (List.getElem?_eq_getElem this)⟩
theorem BSame.row {E : Env} {a a' : AE} {n n' : SE} (ha : a.den E = a'.den E) (hn : n.den E = n'.den E) (ks : List SK) (tl : List SV) (T : TypeId) : BSame E (.row a ks n tl T) (.row a' ks n' tl T) :=
  ⟨fun γ bk w => by simp only [SBlk.ok, rowCells, ha, hn], fun _ _ => Iff.rfl, fun _ => Iff.rfl⟩
end Go.Sy
end
