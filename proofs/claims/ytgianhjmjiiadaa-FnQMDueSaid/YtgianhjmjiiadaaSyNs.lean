/- A function keeps its contract: by the ways from its entry and from its points. -/
import Derived.Test.YtgianhjmjiiadaaSyW
import Derived.WalkKit
import Derived.ProofKit
import Derived.OpenShut
import Derived.ChangeOld
import Derived.Below
import Derived.ReadAgain
import Derived.Deep.Slices
import Derived.MapKept
import Derived.Deep.Upon
import Derived.Laws.MakeOwn
section
section
set_option autoImplicit true
set_option relaxedAutoImplicit true
set_option linter.unusedVariables false
set_option linter.unusedSimpArgs false
namespace Go.Sy
open Go Go.RowKit
variable {E:Env} {β:Nat→Bk} {p:Prm} {w:World} {Q:Exit→Act→World→Prop}
def Env.put (E:Env) (si:List (Nat×SE)) (sb:List (Nat×SB)) (sa:List (Nat×AE)) (o:Nat→Value):Env where
 i j:=match fnd j si with|some e=>e.den E|none=>E.i j
 b j:=match fnd j sb with|some e=>e.den E|none=>E.b j
 a j:=match fnd j sa with|some e=>e.den E|none=>E.a j
 o i:=if 1000≤i then E.o i else o i
 fn:=E.fn
def dI:List (Nat×SE)→List (Nat×SE)
 |[]=>[]
 |(k,e)::r=>bif decide (e= .v k)&&(fnd k r).isNone then dI r else (k,e)::dI r
def dB:List (Nat×SB)→List (Nat×SB)
 |[]=>[]
 |(k,e)::r=>bif decide (e= .v k)&&(fnd k r).isNone then dB r else (k,e)::dB r
def dA:List (Nat×AE)→List (Nat×AE)
 |[]=>[]
 |(k,e)::r=>bif decide (e= .v k)&&(fnd k r).isNone then dA r else (k,e)::dA r
theorem dI_none {j:Nat}: ∀{l:List (Nat×SE)},fnd j l=none→fnd j (dI l)=none
 |[],h=>h
 |(k,e)::r,h=>by
  simp only [fnd] at h
  split at h
  ·cases h
  ·rename_i hk
   simp only [dI]
   cases (decide (e= .v k)&&(fnd k r).isNone) with
   |true=>exact dI_none h
   |false=>simp only [cond_false,fnd,if_neg hk];exact dI_none h
theorem dB_none {j:Nat}: ∀{l:List (Nat×SB)},fnd j l=none→fnd j (dB l)=none
 |[],h=>h
 |(k,e)::r,h=>by
  simp only [fnd] at h
  split at h
  ·cases h
  ·rename_i hk
   simp only [dB]
   cases (decide (e= .v k)&&(fnd k r).isNone) with
   |true=>exact dB_none h
   |false=>simp only [cond_false,fnd,if_neg hk];exact dB_none h
theorem dA_none {j:Nat}: ∀{l:List (Nat×AE)},fnd j l=none→fnd j (dA l)=none
 |[],h=>h
 |(k,e)::r,h=>by
  simp only [fnd] at h
  split at h
  ·cases h
  ·rename_i hk
   simp only [dA]
   cases (decide (e= .v k)&&(fnd k r).isNone) with
   |true=>exact dA_none h
   |false=>simp only [cond_false,fnd,if_neg hk];exact dA_none h
theorem dI_den (E:Env) (j:Nat): ∀l:List (Nat×SE),(match fnd j (dI l) with|some e=>e.den E|none=>E.i j)=(match fnd j l with|some e=>e.den E|none=>E.i j)
 |[]=>rfl
 |(k,e)::r=>by
  simp only [dI]
  cases h:(decide (e= .v k)&&(fnd k r).isNone) with
  |true=>
   simp only [Bool.and_eq_true,decide_eq_true_eq,Option.isNone_iff_eq_none] at h
   obtain ⟨rfl,hn⟩:=h
   simp only [cond_true,fnd]
   by_cases hk:k=j
   ·subst hk;rw [dI_none hn];simp only [if_true,SE.den]
   ·rw [if_neg hk];exact dI_den E j r
  |false=>
   simp only [cond_false,fnd]
   by_cases hk:k=j
   ·simp only [if_pos hk]
   ·simp only [if_neg hk];exact dI_den E j r
theorem dB_den (E:Env) (j:Nat): ∀l:List (Nat×SB),(match fnd j (dB l) with|some e=>e.den E|none=>E.b j)=(match fnd j l with|some e=>e.den E|none=>E.b j)
 |[]=>rfl
 |(k,e)::r=>by
  simp only [dB]
  cases h:(decide (e= .v k)&&(fnd k r).isNone) with
  |true=>
   simp only [Bool.and_eq_true,decide_eq_true_eq,Option.isNone_iff_eq_none] at h
   obtain ⟨rfl,hn⟩:=h
   simp only [cond_true,fnd]
   by_cases hk:k=j
   ·subst hk;rw [dB_none hn];simp only [if_true,SB.den]
   ·rw [if_neg hk];exact dB_den E j r
  |false=>
   simp only [cond_false,fnd]
   by_cases hk:k=j
   ·simp only [if_pos hk]
   ·simp only [if_neg hk];exact dB_den E j r
theorem dA_den (E:Env) (j:Nat): ∀l:List (Nat×AE),(match fnd j (dA l) with|some e=>e.den E|none=>E.a j)=(match fnd j l with|some e=>e.den E|none=>E.a j)
 |[]=>rfl
 |(k,e)::r=>by
  simp only [dA]
  cases h:(decide (e= .v k)&&(fnd k r).isNone) with
  |true=>
   simp only [Bool.and_eq_true,decide_eq_true_eq,Option.isNone_iff_eq_none] at h
   obtain ⟨rfl,hn⟩:=h
   simp only [cond_true,fnd]
   by_cases hk:k=j
   ·subst hk;rw [dA_none hn];simp only [if_true];rfl
   ·rw [if_neg hk];exact dA_den E j r
  |false=>
   simp only [cond_false,fnd]
   by_cases hk:k=j
   ·simp only [if_pos hk]
   ·simp only [if_neg hk];exact dA_den E j r
theorem put_d (E:Env) (si:List (Nat×SE)) (sb:List (Nat×SB)) (sa:List (Nat×AE)) (o:Nat→Value):E.put (dI si) (dB sb) (dA sa) o=E.put si sb sa o:=by
 unfold Env.put
 congr 1
 ·funext j;exact dI_den E j si
 ·funext j;exact dB_den E j sb
 ·funext j;exact dA_den E j sa
inductive Vl where
 |dead (F:Fx)
 |go (i:Nat) (si:List (Nat×SE)) (sb:List (Nat×SB)) (sa:List (Nat×AE)) (F:Fx) (fo:Fo) (k:List KF)
 |out (a:Nat) (es:List Eqn) (F:Fx)
 |bad (c:Cf)
def regOf (l:Cf):Option Nat:=
 match l.fo,l.k with
 | .code (.loop b),_=>firstRegion b
 | .exit .normal,.loop b::_=>firstRegion b
 |_,_=>none
def findPt (h0:List SBlk) (l:Cf) (r:Option Nat):List Pt→Nat→Option (Nat×Sub)
 |[],_=>none
 |t::q,i=>if some t.r=r then (let S:={ mHead h0.length t l with t:=some l.tmps };if chkHead h0 t l S then some (i,S) else findPt h0 l r q (i+1)) else findPt h0 l r q (i+1)
def decA (F:Fx):SB→Option Bool
 | .not x=>(decA F x).map (!·)
 | .and x y=>match dec F (.and x y) with
   |some t=>some t
   |none=>match decA F x,decA F y with
    |some false,_=>some false
    |_,some false=>some false
    |some true,some true=>some true
    |_,_=>none
 |b=>dec F b
def altMay (F:Fx) (a:Alt):Bool:=match decA F a.c with|some false=>false|_=>true
def altTry (h0:List SBlk) (o:Out) (a:Alt):Option (Sub×List Eqn):=
 let S:=mHeap a.post o.heap a.post.length (mV a.res o.res { k:=idD a.post h0.length })
 if lowOk S h0.length a.post o.heap&&hiOk S h0 a.post.length&&injB S a.post.length&&decide (h0.length≤a.post.length)&&altMay o.facts a then
  match oapp (eqV S o.res a.res) (eqHeapGo S o.facts o.heap a.post.zipIdx) with
  |some es=>some (S,es)
  |none=>none
 else none
def altsTry (h0:List SBlk) (o:Out):List Alt→Nat→Option (Nat×Sub×List Eqn)
 |[],_=>none
 |a::r,i=>match altTry h0 o a with
  |some (S,es)=>some (i,S,es)
  |none=>altsTry h0 o r (i+1)
def vOf (p:Prm) (ct:Ct) (pts:List Pt) (l:Bool×Cf):Vl:=
 if l.1 then .dead l.2.facts else
 if l.2.fid !=ct.g then .bad l.2 else
 match outOf p l with
 |some o=>match altsTry ct.heap o ct.alts 0 with
  |some (i,_,es)=> .out i es o.facts
  |none=> .bad l.2
 |none=>match findPt ct.heap l.2 (regOf l.2) pts 0 with
  |some (i,S)=> .go i (dI S.i) (dB S.b) (dA S.a) l.2.facts l.2.fo l.2.k
  |none=> .bad l.2
def VOk (pts:List Pt) (ct:Ct) (I:Env→Nat→Env→Prop) (μ:Env→Nat→Env→Nat) (bound:Option Nat) (E0 E:Env):Vl→Prop
 | .dead F=>Facts E F→False
 | .go i si sb sa F fo k=>Facts E F→(∃t,pts[i]?=some t∧((fo= .code (.loop t.b)∧k=t.K)∨(fo= .exit .normal∧k= .loop t.b::t.K)))∧
    ∀o,I E0 i (E.put si sb sa o)∧ ∀b,bound=some b→μ E0 i (E.put si sb sa o)<b
 | .out a es F=>Facts E F→altSel E0 ct.alts=ct.alts[a]?∧ ∀q∈es,q.ok E E0
 | .bad _=>False
def VOkX (pts:List Pt) (ct:Ct) (I:Env→Nat→Env→Prop) (μ:Env→Nat→Env→Nat) (bound:Option Nat) (E0 E:Env):Vl→Prop
 | .dead F=>Facts E F→False
 | .go i si sb sa F fo k=>Facts E F→(∃t,pts[i]?=some t∧((fo= .code (.loop t.b)∧k=t.K)∨(fo= .exit .normal∧k= .loop t.b::t.K)))∧
    ∀o,I E0 i (E.put si sb sa o)∧ ∀b,bound=some b→μ E0 i (E.put si sb sa o)<b
 | .out a es F=>Facts E F→altSel E0 ct.alts=ct.alts[a]?∧ ∃V,(∀q∈es,q.ok E (E0.upd xb ct.nx V))∧ ∀a',ct.alts[a]?=some a'→Facts (E0.upd xb ct.nx V) a'.xf
 | .bad _=>False
theorem VOk.x {pts:List Pt} {ct:Ct} {I:Env→Nat→Env→Prop} {μ:Env→Nat→Env→Nat} {bound:Option Nat} {E0 E:Env} (hnx:ct.nx=0) (hxf: ∀a∈ct.alts,a.xf=[]) {v:Vl} (h:VOk pts ct I μ bound E0 E v):VOkX pts ct I μ bound E0 E v:=by
 cases v with
 |dead F=>exact h
 |go i si sb sa F fo k=>exact h
 |out a es F=>
  intro hF
  obtain ⟨h1,h2⟩:=h hF
  refine ⟨h1,E0,by rw [hnx,Env.upd_zero];exact h2,fun a' ha'=>?_⟩
  rw [hxf a' (List.mem_of_getElem? ha')]
  intro q hq;cases hq
 |bad c=>exact h
theorem findPt_ok {h0:List SBlk} {l:Cf} {r:Option Nat}: ∀{pts:List Pt} {i0 i:Nat} {S:Sub},findPt h0 l r pts i0=some (i,S)→ ∃t,i0≤i∧pts[i - i0]?=some t∧chkHead h0 t l S=true∧S.t=some l.tmps
 |[],i0,i,S,h=>by cases h
 |t::q,i0,i,S,h=>by
  simp only [findPt] at h
  have next:findPt h0 l r q (i0+1)=some (i,S)→ ∃t',i0≤i∧(t::q)[i - i0]?=some t'∧chkHead h0 t' l S=true∧S.t=some l.tmps:=fun h=>by
   obtain ⟨t',h1,h2,h3⟩:=findPt_ok h
   have e:i - i0=(i - (i0+1))+1:=by omega
   exact ⟨t',by omega,by rw [e];simpa using h2,h3⟩
  split at h
  ·split at h
   ·rename_i hc;cases h;exact ⟨t,Nat.le_refl _,by simp,hc,rfl⟩
   ·exact next h
  ·exact next h
theorem altsTry_ok {h0:List SBlk} {o:Out}: ∀{alts:List Alt} {i0 i:Nat} {S:Sub} {es:List Eqn},altsTry h0 o alts i0=some (i,S,es)→ ∃a,i0≤i∧alts[i - i0]?=some a∧altTry h0 o a=some (S,es)
 |[],i0,i,S,es,h=>by cases h
 |a::r,i0,i,S,es,h=>by
  simp only [altsTry] at h
  split at h
  ·rename_i S' es' hc;cases h;exact ⟨a,Nat.le_refl _,by simp,hc⟩
  ·obtain ⟨t',h1,h2,h3⟩:=altsTry_ok h
   have e:i - i0=(i - (i0+1))+1:=by omega
   exact ⟨t',by omega,by rw [e];simpa using h2,h3⟩
theorem out_ok {o:Out} (hF:Facts E o.facts) (hw:HOk E β o.heap w) {Es E0:Env} {a:Alt} {S:Sub} {es:List Eqn} {h0:List SBlk} {β0:Nat→Bk} {w0:World} (x:Ext Es h0 β0 w0 E o.heap β w) (h:altTry h0 o a=some (S,es)) (hq: ∀q∈es,q.ok E E0) (hop: ∀i,1000≤i→E.o i=E0.o i):
 ∃β',o.res.den E β=a.res.den E0 β'∧HOk E0 β' a.post w∧Ext Es h0 β0 w0 E0 a.post β' w:=by
 unfold altTry at h
 simp only at h
 generalize hS:mHeap a.post o.heap a.post.length (mV a.res o.res { k:=idD a.post h0.length })=S' at h
 split at h
 ·rename_i hc
  split at h
  ·rename_i es' he
   cases h
   simp only [Bool.and_eq_true,decide_eq_true_eq] at hc
   obtain ⟨⟨⟨⟨h1,h2⟩,h3⟩,h4⟩,_⟩:=hc
   obtain ⟨e1,e2,k1,k2,rfl⟩:=oapp_some he
   have hres:=eqV_ok (E:=E) (bsub_map (E:=E) (β:=β) (h:=o.heap) (S:=S)) hop k1 fun q hh=>hq q (by simp [hh])
   have hone: ∀(i:Nat) (s:SBlk),a.post[i]?=some s→isDead s=true∨ ∃x e,fnd i S.k=some x∧eqBlk S o.facts o.heap s x=some e∧ ∀q∈e,q.ok E E0:=fun i s hi=>
    eqHeapGo_ok k2 (fun q hh=>hq q (by simp [hh])) s i (by rw [List.mem_zipIdx_iff_getElem?];exact hi)
   have hsome: ∀(i:Nat) (s:SBlk) (b:Nat) (e:List Eqn),fnd i S.k=some (some b)→eqBlk S o.facts o.heap s (some b)=some e→(∀q∈e,q.ok E E0)→ ∃t,o.heap[b]?=some t∧
    SBlk.ok E0 (bsub E β o.heap S) (bsub E β o.heap S i) w s∧(∀x,s.at E0 (bsub E β o.heap S i) x→t.at E (β b) x)∧(s.wr (bsub E β o.heap S i)→t.wr (β b)):=fun i s b e g1 g2 g3=>by
    cases hb:o.heap[b]? with
    |none=>unfold eqBlk at g2;simp only [hb] at g2;cases s<;>simp_all
    |some t=>
     obtain ⟨q1,q2⟩:=eqBlk_ok (E:=E) (β:=β) (w:=w) hF g1 hb g2 g3 hop
     obtain ⟨q3,q4⟩:=q1 (hw.ok b t hb)
     exact ⟨t,rfl,q3,q4,q2⟩
   have hnil: ∀(i:Nat) (s:SBlk) (e:List Eqn),fnd i S.k=some none→eqBlk S o.facts o.heap s none=some e→(∀q∈e,q.ok E E0)→SBlk.ok E0 (bsub E β o.heap S) (bsub E β o.heap S i) w s∧ ∀x,¬s.at E0 (bsub E β o.heap S i) x:=fun i s e g1 g2 g3=>by
    rw [bsub_nil g1]
    unfold eqBlk at g2
    simp only at g2
    split at g2
    ·rename_i a' ks n T
     cases g2
     have e2:=eqnE_ok (E:=E) (E0:=E0) (x:= .c 0) (y:=n) g3
     refine ⟨⟨rfl,0,by simp,?_⟩,fun x hx=>by simp [SBlk.at,SBlk.real,nilBk] at hx⟩
     simp only [←e2,SE.den,rowCells,Bk.v,nilBk]
     simpa [SV.denL] using World.ownsRow_nil w 0 T ks.length
    ·rename_i k n r
     split at g2
     ·rename_i hk
      cases g2
      have e2:=eqnE_ok (E:=E) (E0:=E0) (x:= .c 0) (y:=n) g3
      simp only [SBlk.ok,SBlk.at,SL.den,←e2]
      exact ⟨E0.fn.pn k _ _ _ hk,fun x=>E0.fn.fn k _ _ x hk⟩
     ·cases g2
    ·cases g2
   have hat: ∀(i:Nat) (s:SBlk) (x:Nat),a.post[i]?=some s→s.at E0 (bsub E β o.heap S i) x→ ∃b t,fnd i S.k=some (some b)∧o.heap[b]?=some t∧t.at E (β b) x:=fun i s x hi hr=>by
    rcases hone i s hi with h|⟨y,e,g1,g2,g3⟩
    ·exact (dead_at h hr).elim
    ·cases y with
     |none=>exact ((hnil i s e g1 g2 g3).2 x hr).elim
     |some b=>
      obtain ⟨t,q1,_,q3,_⟩:=hsome i s b e g1 g2 g3
      exact ⟨b,t,g1,q1,q3 x hr⟩
   refine ⟨bsub E β o.heap S,hres,hok_sub hw (fun i=>match fnd i S.k with|some (some b)=>b|_=>i) (fun i j s t x hi hj hri hrj he=>?_) (fun i s x hi hr=>?_) (fun i s hi=>?_),
    ext_sub x (fun i=>match fnd i S.k with|some (some b)=>b|_=>i) h4 (fun i hi=>?_) (fun i s q hi hr=>?_) (fun i s hi hs hwr=>?_) (fun i s q hi hs hr=>?_) (fun i s q hi hs hr=>?_)⟩
   ·obtain ⟨b,t',f1,_⟩:=hat i s x hi hri
    obtain ⟨c,u',g1,_⟩:=hat j t x hj hrj
    simp only [f1,g1] at he
    subst he
    exact injB_ok h3 (List.getElem?_eq_some_iff.1 hi).1 (List.getElem?_eq_some_iff.1 hj).1 f1 g1
   ·obtain ⟨b,t,f1,f2,f3⟩:=hat i s x hi hr
    simp only [f1]
    exact ⟨t,f2,f3⟩
   ·rcases hone i s hi with h|⟨x,e,g1,g2,g3⟩
    ·cases s<;>simp_all [isDead,SBlk.ok]
    ·cases x with
     |none=>exact (hnil i s e g1 g2 g3).1
     |some b=>
      obtain ⟨t,_,q2,_⟩:=hsome i s b e g1 g2 g3
      exact q2
   ·rw [(bsub_low h1 hi).1];exact x.agree i hi
   ·obtain ⟨b,t,f1,f2,f3⟩:=hat i s q hi hr
    simp only [f1]
    exact ⟨t,f2,f3⟩
   ·rcases hone i s hs with h|⟨x,e,g1,g2,g3⟩
    ·cases s<;>simp_all [isDead,SBlk.wr]
    ·have hk:fnd i S.k=some (some i):=by
      rcases (bsub_low (E:=E) (β:=β) h1 hi).2 with hk|⟨s',e1,e2⟩
      ·exact hk
      ·rw [hs] at e1;cases e1;cases s<;>simp_all [isDead,SBlk.wr]
     rw [hk] at g1
     cases g1
     obtain ⟨t,q1,_,_,q4⟩:=hsome i s i e hk g2 g3
     exact ⟨t,q1,q4 hwr⟩
   ·rcases (bsub_low (E:=E) (β:=β) h1 hi).2 with hk|⟨s',e1,e2⟩
    ·simp only [hk]
    ·rw [hs] at e1;cases e1;exact (dead_at e2 hr).elim
   ·obtain ⟨b,t,f1,f2,_⟩:=hat i s q hs hr
    simp only [f1]
    have:=List.all_eq_true.1 h2 i (List.mem_range.2 (List.getElem?_eq_some_iff.1 hs).1)
    rw [f1] at this
    simp only [Bool.or_eq_true,decide_eq_true_eq] at this
    rcases this with h|h
    ·omega
    ·exact h
  ·cases h
 ·cases h
theorem outOf_parts {l:Bool×Cf} {o:Out} (hd:l.1=false) (h:outOf p l=some o):o.facts=l.2.facts∧o.heap=l.2.heap∧o.dead=false:=by
 unfold outOf at h
 rw [hd] at h
 simp only [Bool.false_eq_true,if_false] at h
 split at h
 ·cases h
 ·split at h
  ·split at h
   ·split at h
    ·cases h;exact ⟨rfl,rfl,rfl⟩
    ·cases h
   ·cases h
  ·cases h
 ·cases h
theorem leaf_out (hp:PrmOk E p) {l:Cf} {o:Out} {fn:Func} {R:Ending→World→Prop} (hF:Facts E l.facts) (hw:HOk E β l.heap w) (hol:outOf p (false,l)=some o) (hfn:p.P.funcs[l.fid]?=some fn)
 (hR:R (.returned (o.res.den E β)) w):l.wp E β p (bodyPostD p.P fn R) w:=by
 unfold outOf at hol
 simp only [Bool.false_eq_true,if_false] at hol
 have fin: ∀e,l.k=[]→l.fo= .exit e→(e= .normal∨e= .ret)→(if l.ds.all (SD.fine p) then
  match p.P.funcs[l.fid]? with
  |some fn=>match sRes p.P l.facts l.heap l.tmps fn.results.toList with
   |some v=>some (Out.mk false l.facts v l.heap)
   |none=>none
  |none=>none
  else none)=some o→l.wp E β p (bodyPostD p.P fn R) w:=by
  intro e hk hfo he hol
  split at hol
  ·rename_i hfine
   rw [hfn] at hol
   simp only at hol
   split at hol
   ·rename_i v hv
    cases hol
    simp only [Cf.wp,hfo,hk,kpost]
    have hL:Leaves p.P fn (l.tmps.den E β) R (l.ds.map (SD.den E β)) .returning w:=
     benign_leaves hp hfine ⟨_,sRes_ok hF hw hv,hR⟩
    rcases he with rfl|rfl<;>exact hL
   ·cases hol
  ·cases hol
 split at hol
 ·cases hol
 ·rename_i e hne hk hfo
  cases e with
  |normal=>exact fin .normal hk hfo (Or.inl rfl) hol
  |ex id=>exact (hne id rfl).elim
  |ret=>exact fin .ret hk hfo (Or.inr rfl) hol
 ·cases hol
theorem leaf_v (hp:PrmOk E p) (hg:p.gm.ok β) {ct:Ct} {pts:List Pt} {I:Env→Nat→Env→Prop} {μ:Env→Nat→Env→Nat} {bound:Option Nat} {E0:Env} {β0:Nat→Bk} {w0:World} {fn:Func}
 (hgb: ∀q∈p.gm,q.2<ct.heap.length) (hfn:p.P.funcs[ct.g]?=some fn) (hK: ∀t∈pts,noRet t.K=true)
 (hop: ∀i,1000≤i→E.o i=E0.o i)
 (ih: ∀i t E' β' w',pts[i]?=some t→E'.fn=E.fn→(∀i,1000≤i→E'.o i=E0.o i)→(∀b,bound=some b→μ E0 i E'<b)→I E0 i E'→p.gm.ok β'→HOk E' β' t.heap w'→Ext E0 ct.heap β0 w0 E' t.heap β' w'→(t.cf ct.g).wp E' β' p (bodyPostD p.P fn (ctPost E0 β0 w0 ct)) w')
 {l:Bool×Cf} (hF:Facts E l.2.facts) (hw:HOk E β l.2.heap w) (x:Ext E0 ct.heap β0 w0 E l.2.heap β w) (H:VOkX pts ct I μ bound E0 E (vOf p ct pts l)):l.1=false∧l.2.wp E β p (bodyPostD p.P fn (ctPost E0 β0 w0 ct)) w:=by
 obtain ⟨d,l⟩:=l
 unfold vOf at H
 simp only at hF hw x H⊢
 split at H
 ·exact (H hF).elim
 ·rename_i hd
  have hd:d=false:=by simpa using hd
  subst hd
  refine ⟨rfl,?_⟩
  split at H
  ·exact H.elim
  ·rename_i hfid
   have hfid:l.fid=ct.g:=by simpa using hfid
   split at H
   ·rename_i o ho
    obtain ⟨p1,p2,_⟩:=outOf_parts (p:=p) rfl ho
    simp only at p1 p2
    split at H
    ·rename_i i S es hal
     obtain ⟨a,_,ha,hat⟩:=altsTry_ok hal
     simp only [Nat.sub_zero] at ha
     rw [←p1] at hF
     obtain ⟨q1,V,q2,q3⟩:=H hF
     obtain ⟨β',r1,r2,r3⟩:=out_ok (E:=E) (w:=w) (β0:=β0) (w0:=w0) hF (by rw [p2];exact hw) (by rw [p2];exact x) hat q2 (fun i hi=>hop i hi)
     refine leaf_out hp (by rw [←p1];exact hF) hw ho (by rw [hfid];exact hfn) ⟨a,β',V,by rw [q1];exact ha,by rw [r1],r2,r3,q3 a ha⟩
    ·exact H.elim
   ·split at H
    ·rename_i i S hpt
     obtain ⟨t,_,ht,hch,hSt⟩:=findPt_ok hpt
     simp only [Nat.sub_zero] at ht
     unfold chkHead at hch
     have hSS:({ S with t:=some l.tmps }:Sub)=S:=by rw [←hSt]
     simp only [hSS,Bool.and_eq_true,decide_eq_true_eq,beq_iff_eq] at hch
     obtain ⟨⟨⟨⟨⟨⟨c1,c1',c1n,c1m⟩,c2⟩,c3⟩,c4⟩,c5⟩,c6⟩:=hch
     obtain ⟨⟨t',ht',hfo⟩,hI⟩:=H hF
     rw [ht] at ht'
     cases ht'
     have hB:=bsub_map (E:=E) (β:=β) (h:=l.heap) (S:=S)
     have hact:actS E β l.tmps l.ds=actS (E.sub β S) (bsub E β l.heap S) (tm t.n t.tmps) t.ds:=by
      unfold actS actD
      rw [chkTm_ok (E:=E) hB hSt c1m c1n (fun p hp=>by have:=List.all_eq_true.1 c1' p hp;rw [Bool.and_eq_true,decide_eq_true_eq] at this;exact this.1) c1,chkDs_ok (E:=E) hB c2]
     have hgm':p.gm.ok (bsub E β l.heap S):=fun q hq=>by
      rw [(bsub_low (E:=E) (β:=β) c4 (hgb q hq)).1];exact hg q hq
     have hso: ∀i,1000≤i→(E.sub β S).o i=E.o i:=fun i hi=>by
      show (match fnd i S.o with|some v=>v.den E β|none=>if 1000≤i then E.o i else _)=_
      cases hf:fnd i S.o with
      |none=>simp only [hi,if_true]
      |some v=>
       have:=List.all_eq_true.1 c1' (i,v) (fnd_mem hf)
       simp only [Bool.and_eq_true,Bool.or_eq_true,decide_eq_true_eq] at this
       rcases this.2 with h|h
       ·omega
       ·have h3:v= .opq i:=SV.same_ok h
        subst h3
        simp only [SV.den]
     have hEp:E.sub β S=E.put S.i S.b S.a (E.sub β S).o:=by
      unfold Env.put
      have:(fun i=>if 1000≤i then E.o i else (E.sub β S).o i)=(E.sub β S).o:=by
       funext i
       by_cases hi:1000≤i
       ·rw [if_pos hi,hso i hi]
       ·rw [if_neg hi]
      rw [this];rfl
     have hI':=hI (E.sub β S).o
     rw [put_d,←hEp] at hI'
     have hcf:=ih i t (E.sub β S) (bsub E β l.heap S) w ht rfl (fun i hi=>(hso i hi).trans (hop i hi)) hI'.2 hI'.1 hgm' (hok_match hF hw c3) (ext_match hF hw x c3 c4 c5 c6)
     have hnr:=hK t (List.mem_of_getElem? ht)
     simp only [Pt.cf,Cf.wp,kpost] at hcf
     rw [kpost_env (E:=E) (β:=β) hnr] at hcf
     rcases hfo with ⟨h1,h2⟩|⟨h1,h2⟩
     ·simp only [Cf.wp,h1,h2]
      rw [hact]
      exact loop_of hcf
     ·simp only [Cf.wp,h1,h2,kpost,SX.den,Exit.then]
      rw [hact]
      exact loopC_of hcf
    ·exact H.elim
theorem ct_of_ptsX {fns:Fns} {ct:Ct} {pts:List Pt} {n:Nat} {fn:Func} {c0:Cf} (hp: ∀E:Env,E.fn=fns→PrmOk E p) (hgm:ct.gm=p.gm) (hgb: ∀q∈p.gm,q.2<ct.heap.length) (hfn:p.P.funcs[ct.g]?=some fn)
 (hen:enter p ct.g ct.args ct.heap ct.pre=some c0) (hK: ∀t∈pts,noRet t.K=true∧ct.heap.length≤t.heap.length) (I:Env→Nat→Env→Prop) (μ:Env→Nat→Env→Nat) (ls0:List Vl) (hr0:(run p n c0).map (vOf p ct pts)=ls0)
 (h0: ∀E0:Env,E0.fn=fns→Facts E0 ct.pre→(∀a,altSel E0 ct.alts=some a→Facts E0 a.facts)∧ ∀E':Env,AgE 1000 E0 E'→(p.nox=true→E'=E0)→ ∀x∈ls0,VOkX pts ct I μ none E0 E' x)
 (hpt: ∀i t,pts[i]?=some t→ ∃ls,(run p n (t.cf ct.g)).map (vOf p ct pts)=ls∧ ∀E0 E:Env,E0.fn=fns→E.fn=fns→Facts E0 ct.pre→I E0 i E→Facts E t.facts∧ ∀E':Env,AgE 1000 E E'→(p.nox=true→E'=E)→ ∀x∈ls,VOkX pts ct I μ (some (μ E0 i E)) E0 E' x):
 CtOk p.P fns ct:=by
 intro E0 β0 w0 hE0 hg0 hw0 hF0
 obtain ⟨ha,hl0⟩:=h0 E0 hE0 hF0
 refine ⟨ha,?_⟩
 rw [hgm] at hg0
 have main: ∀m i t E β w,μ E0 i E=m→pts[i]?=some t→E.fn=fns→(∀i,1000≤i→E.o i=E0.o i)→I E0 i E→p.gm.ok β→HOk E β t.heap w→Ext E0 ct.heap β0 w0 E t.heap β w→(t.cf ct.g).wp E β p (bodyPostD p.P fn (ctPost E0 β0 w0 ct)) w:=by
  intro m
  induction m using Nat.strongRecOn with
  |ind m ih=>
   intro i t E β w hm ht hE hop hI hg hw hx
   obtain ⟨ls,hr,hls⟩:=hpt i t ht
   obtain ⟨hFt,hvl⟩:=hls E0 E hE0 hE hF0 hI
   have hlen:=(hK t (List.mem_of_getElem? ht)).2
   refine run_sound n (t.cf ct.g) E β w _ (hp E hE) hg (fun q hq=>Nat.lt_of_lt_of_le (hgb q hq) hlen) hFt hw fun l hl=>fun E' hR hF=>?_
   have hE':E'.fn=fns:=hR.1.fn.trans hE
   have hv:=hvl E' hR.1 (fun h=>hR.2.2 (.inr h)) (vOf p ct pts l) (by rw [←hr];exact List.mem_map_of_mem hl)
   have key: ∀β' w',Ext E t.heap β w E' l.2.heap β' w'→HOk E' β' l.2.heap w'→l.1=false∧l.2.wp E' β' p (bodyPostD p.P fn (ctPost E0 β0 w0 ct)) w':=fun β' w' hx' hw'=>
    leaf_v (hp E' hE') (gm_ext hg (fun q hq=>Nat.lt_of_lt_of_le (hgb q hq) hlen) hx').1 hgb hfn (fun t ht=>(hK t ht).1) (fun i hi=>by rw [hR.1.o];exact hop i hi)
     (fun j u E2 β2 w2 hj hE2 ho2 hb hI' hg2 hw2 hx2=>ih _ (by rw [←hm];exact hb _ rfl) j u E2 β2 w2 rfl hj (hE2.trans hE') ho2 hI' hg2 hw2 hx2) hF hw' (hx.trans hx') hv
   refine ⟨?_,fun β' w' hx' hw'=>(key β' w' hx' hw').2⟩
   cases hl1:l.1 with
   |false=>rfl
   |true=>
    unfold vOf at hv
    simp only [hl1,if_true] at hv
    exact (hv hF).elim
 unfold enter at hen
 rw [hfn] at hen
 simp only at hen
 split at hen
 ·rename_i b hb
  cases hen
  refine calls_of_wp_defers hfn hb ?_
  have ea:({ tmps:=(SV.denL E0 β0 ct.args).toArray++Array.replicate (fn.ntmps - (SV.denL E0 β0 ct.args).toArray.size) undef,defers:=[] }:Act)=actS E0 β0 (Tm.entry ct.args fn.ntmps) []:=by
   unfold actS actD
   rw [Tm.entry_den];rfl
  rw [ea]
  have:=run_sound n { tmps:=Tm.entry ct.args fn.ntmps,ds:=[],heap:=ct.heap,facts:=ct.pre,fo:= .code b,k:=[],fid:=ct.g } E0 β0 w0 (bodyPostD p.P fn (ctPost E0 β0 w0 ct)) (hp E0 hE0) hg0 hgb hF0 hw0 (fun l hl=>fun E' hR hF=>by
   have hE':E'.fn=fns:=hR.1.fn.trans hE0
   have hv:=hl0 E' hR.1 (fun h=>hR.2.2 (.inr h)) (vOf p ct pts l) (by rw [←hr0];exact List.mem_map_of_mem hl)
   have key: ∀β' w',Ext E0 ct.heap β0 w0 E' l.2.heap β' w'→HOk E' β' l.2.heap w'→l.1=false∧l.2.wp E' β' p (bodyPostD p.P fn (ctPost E0 β0 w0 ct)) w':=fun β' w' hx' hw'=>
    leaf_v (hp E' hE') (gm_ext hg0 hgb hx').1 hgb hfn (fun t ht=>(hK t ht).1) (fun i _=>by rw [hR.1.o])
     (fun j u E2 β2 w2 hj hE2 ho2 hb hI' hg2 hw2 hx2=>main _ j u E2 β2 w2 rfl hj (hE2.trans hE') ho2 hI' hg2 hw2 hx2) hF hw' hx' hv
   refine ⟨?_,fun β' w' hx' hw'=>(key β' w' hx' hw').2⟩
   cases hl1:l.1 with
   |false=>rfl
   |true=>
    unfold vOf at hv
    simp only [hl1,if_true] at hv
    exact (hv hF).elim)
  simp only [Cf.wp,kpost] at this
  exact this
 ·cases hen
theorem ct_of_pts {fns:Fns} {ct:Ct} {pts:List Pt} {n:Nat} {fn:Func} {c0:Cf} (hp: ∀E:Env,E.fn=fns→PrmOk E p) (hgm:ct.gm=p.gm) (hgb: ∀q∈p.gm,q.2<ct.heap.length) (hfn:p.P.funcs[ct.g]?=some fn)
 (hen:enter p ct.g ct.args ct.heap ct.pre=some c0) (hK: ∀t∈pts,noRet t.K=true∧ct.heap.length≤t.heap.length) (I:Env→Nat→Env→Prop) (μ:Env→Nat→Env→Nat) (ls0:List Vl) (hr0:(run p n c0).map (vOf p ct pts)=ls0)
 (h0: ∀E0:Env,E0.fn=fns→Facts E0 ct.pre→(∀a,altSel E0 ct.alts=some a→Facts E0 a.facts)∧ ∀x∈ls0,VOk pts ct I μ none E0 E0 x)
 (hpt: ∀i t,pts[i]?=some t→ ∃ls,(run p n (t.cf ct.g)).map (vOf p ct pts)=ls∧ ∀E0 E:Env,E0.fn=fns→E.fn=fns→Facts E0 ct.pre→I E0 i E→Facts E t.facts∧ ∀x∈ls,VOk pts ct I μ (some (μ E0 i E)) E0 E x)
 (hnox:p.nox=true:=by rfl) (hnx:ct.nx=0:=by rfl) (hxf:ct.alts.all (fun a=>a.xf.isEmpty)=true:=by rfl):CtOk p.P fns ct:=by
 have hx: ∀a∈ct.alts,a.xf=[]:=fun a ha=>by simpa using List.all_eq_true.1 hxf a ha
 refine ct_of_ptsX hp hgm hgb hfn hen hK I μ ls0 hr0 (fun E0 hE0 hF=>⟨(h0 E0 hE0 hF).1,fun E' _ he x hm=>?_⟩) (fun i t ht=>?_)
 ·rw [he hnox];exact VOk.x hnx hx ((h0 E0 hE0 hF).2 x hm)
 ·obtain ⟨ls,h1,h2⟩:=hpt i t ht
  refine ⟨ls,h1,fun E0 E e1 e2 e3 e4=>⟨(h2 E0 E e1 e2 e3 e4).1,fun E' _ he x hm=>?_⟩⟩
  rw [he hnox];exact VOk.x hnx hx ((h2 E0 E e1 e2 e3 e4).2 x hm)
def noCf:Cf:={ tmps:=Tm.empty 0 false,ds:=[],heap:=[],facts:=[],fo:= .exit .normal,k:=[],fid:=0 }
def enterD (p:Prm) (ct:Ct):Cf:=(enter p ct.g ct.args ct.heap ct.pre).getD noCf
def ptD (pts:List Pt) (i:Nat) (g:FuncId):Cf:=match pts[i]? with|some t=>t.cf g|none=>noCf
theorem ptD_some {pts:List Pt} {i:Nat} {t:Pt} (h:pts[i]?=some t) (g:FuncId):ptD pts i g=t.cf g:=by unfold ptD;rw [h]
end Go.Sy
end
section
set_option autoImplicit true
set_option relaxedAutoImplicit true
set_option linter.unusedVariables false
set_option linter.unusedSimpArgs false
namespace Go.Sy
open Go Go.ChangeShapes Go.WideShapes Go.RowKit
section
variable {H:Type} {enc:TypeId×Value→H} {P:Program} {W W':World}
theorem trodAll_carry {base:Nat} {spare:Nat→Bool} {held:Bool}: ∀{ts:List TypeId} {vs:List Value} {ds:List (DataW H)} {ps:List MemPlace},DataW.TrodAll enc P W base spare held ts vs ds ps→(∀p∈ps,W.sameAt W' p)→DataW.TrodAll enc P W' base spare held ts vs ds ps
 |[],vs,ds,ps,h,_=>by
  obtain ⟨rfl,rfl,rfl⟩:=trodAll_nil h
  exact trodAll_mk0
 |t::ts,vs,ds,ps,h,hs=>by
  obtain ⟨v,vs',d,ds',p,q,rfl,rfl,rfl,⟨n,h1⟩,h2⟩:=trodAll_cons h
  exact trodAll_cons_mk ⟨n,DataW.trod_carry n t _ _ h1 fun p hp=>hs p (by simp [show p∈_ from hp])⟩ (trodAll_carry h2 fun p hp=>hs p (by simp [hp]))
theorem trodAll_again {T:TypeId→Prop} (K:Kids P T) (hz: ∀t e,T t→P.underlying t=some (.slice e)→0<P.cellsOf e) {ts:List TypeId} {vs:List Value} {ds:List (DataW H)} {ps:List MemPlace} (hT: ∀t∈ts,T t) (bel:Below W.heap.size W W')
 (h:DataW.TrodAll enc P W 0 (fun _=>true) true ts vs ds ps) (hlt: ∀p∈ps,p.block<W.heap.size):DataW.TrodAll enc P W' 0 (fun b=>decide (b<W.heap.size)) true ts vs ds ps:=
 DataW.TrodAll.respare K hz hT (trodAll_carry h fun p hp=>bel.same (hlt p hp)) fun p hp=>by simpa using hlt p hp
def zr:Nat→Value:=fun _=> .nilIface
def numsAt (w:World) (ks:List SK) (a o n:Nat) (A:Nat→Int):Prop:=
 ∃cs T fz,w.heap[a]?=some (.cells cs T fz)∧ ∀j,j<n*ks.length→cs[o+j]?=some ((ks.getD (j % ks.length) default).val (A j) .nilIface)
theorem open_rows {t e:TypeId} {ks:List SK} {v:Value} {d:DataW H} {ps:List MemPlace} {r:Reach} {b0:Nat} (ht:P.underlying t=some (.slice e)) (hK:P.cellsOf e=ks.length) (hk0:0<ks.length) (R:Nat→Int→Prop)
 (hel: ∀n cs' y,DataW.trod enc P W 0 (fun _=>true) true n e cs'=some y→ ∃f:Nat→Int,cs'=(List.range ks.length).map (fun c=>(ks.getD c default).val (f c) .nilIface)∧ ∀c,c<ks.length→R c (f c))
 (hv:Value.okWide P W r b0 t v) (h:DataW.Trod enc P W 0 (fun _=>true) true t v d ps):
 v= .slice none 0 0∨ ∃(a o len cap:Nat) (A:Nat→Int),v= .slice (some ⟨a,o,none⟩) len cap∧len≤cap∧cap≤maxLen∧a<W.heap.size∧numsAt W ks a o cap A∧ ∀j,j<cap*ks.length→R (j % ks.length) (A j):=by
 obtain ⟨fuel,hf⟩:=h
 rcases Go.Deep.open_slice ht hf with ⟨h0,_⟩|⟨a,len,cap,m,n,D,Pl,hcs,_,hl,hm,hmm,hx,hel'⟩
 ·left
  cases v<;>simp [Value.cells] at h0
  ·rw [h0.1,h0.2.1,h0.2.2]
  ·simp only [Value.okWide,ht,Cell.okWide,Cell.ok] at hv
 ·right
  have hvs:v= .slice (some a) len cap:=by
   cases v<;>simp [Value.cells] at hcs
   ·rw [hcs.1,hcs.2.1,hcs.2.2]
   ·simp only [Value.okWide,ht,Cell.okWide,Cell.ok] at hv
  subst hvs
  simp only [if_true] at hmm
  have hmm:=hmm.symm
  subst hmm
  have hv':W.has P r b0 a e cap:=by
   simp only [Value.okWide,ht,Cell.okWide,Cell.ok] at hv
   exact hv.2.2
  obtain ⟨_,hsp,row,cells,hsh,_⟩:=hv'
  obtain ⟨ab,ao,asp⟩:=a
  simp only at hsp
  subst hsp
  obtain ⟨cs,T,fz,hblk⟩: ∃cs T fz,W.heap[ab]?=some (.cells cs T fz):=by
   unfold World.shape? at hsh
   split at hsh
   ·rename_i c el f hh;exact ⟨c,el,f,hh⟩
   ·cases hsh
  have each: ∀i,∃f:Nat→Int,i<cap→(∀c,c<ks.length→cs[ao+(i*ks.length+c)]?=some ((ks.getD c default).val (f c) .nilIface))∧ ∀c,c<ks.length→R c (f c):=fun i=>by
   by_cases hi:i<cap
   ·obtain ⟨cs',h1,h2⟩:=hel' i hi
    obtain ⟨f,rfl,h4⟩:=hel _ _ _ h2
    refine ⟨f,fun _=>⟨fun c hc=>?_,h4⟩⟩
    obtain ⟨_,_,h5⟩:=World.cells?_some h1
    have h6:=h5 c (by rw [hK];exact hc)
    rw [Go.Deep.add_add] at h6
    have h7:(List.map (fun c=>(ks.getD c default).val (f c) .nilIface) (List.range ks.length))[c]?=some ((ks.getD c default).val (f c) .nilIface):=by simp [hc]
    rw [h7,hK] at h6
    rw [←h6]
    have h8:(Addr.add ⟨ab,ao,none⟩ (i*ks.length+c))=⟨ab,ao+(i*ks.length+c),none⟩:=addr_add _ _ _
    rw [h8]
    simp [World.cell?,hblk]
   ·exact ⟨fun _=>0,fun h=>(hi h).elim⟩
  let F:Nat→Nat→Int:=fun i=>Classical.choose (each i)
  have hF: ∀i,i<cap→(∀c,c<ks.length→cs[ao+(i*ks.length+c)]?=some ((ks.getD c default).val (F i c) .nilIface))∧ ∀c,c<ks.length→R c (F i c):=fun i=>Classical.choose_spec (each i)
  refine ⟨ab,ao,len,cap,fun j=>F (j/ks.length) (j % ks.length),rfl,hl,hm,(Array.getElem?_eq_some_iff.1 hblk).1,⟨cs,T,fz,hblk,fun j hj=>?_⟩,fun j hj=>?_⟩
  ·have h1:j/ks.length<cap:=(Nat.div_lt_iff_lt_mul hk0).2 hj
   have h2:=(hF _ h1).1 (j % ks.length) (Nat.mod_lt _ hk0)
   have h3:j/ks.length*ks.length+j % ks.length=j:=by rw [Nat.mul_comm];exact Nat.div_add_mod j ks.length
   rw [h3] at h2
   exact h2
  ·have h1:j/ks.length<cap:=(Nat.div_lt_iff_lt_mul hk0).2 hj
   exact (hF _ h1).2 (j % ks.length) (Nat.mod_lt _ hk0)
theorem el_int {u:TypeId} {k:IntKind} (hu:P.underlying u=some (.int k)) {n:Nat} {cs':List Value} {y:DataW H×List MemPlace} (h:DataW.trod enc P W 0 (fun _=>true) true n u cs'=some y):
 ∃f:Nat→Int,cs'=(List.range 1).map (fun c=> .int k (f c))∧ ∀c,c<1→k.min≤f c∧f c≤k.max:=by
 obtain ⟨z,h2,_,h3⟩:=DataW.trod_int hu h
 exact ⟨fun _=>z,by rw [h2];rfl,fun _ _=>by simpa [Lit.wf] using h3⟩
theorem hok_nums {E:Env} {ks:List SK} {a o n:Nat} {A:Nat→Int} {N:SE} (hlt:a<W.heap.size) (h:numsAt W ks a o n A) (hA: ∀j,j<n*ks.length→E.a 0 j=A j) (hN:(N.den E).toNat≤n):HOk E (fun _=>{ a:=a,o:=o,q:=zr }) [.arr (.v 0) ks N] W:=by
 have at0: ∀(i:Nat) (s:SBlk) (x:Nat),[SBlk.arr (.v 0) ks N][i]?=some s→s.at E { a:=a,o:=o,q:=zr } x→x=a:=fun i s x hi hx=>by
  have h1:=(List.getElem?_eq_some_iff.1 hi).1
  have h0:i=0:=by simp at h1;omega
  subst h0
  obtain rfl:=Option.some.inj hi
  exact hx.2
 refine ⟨fun i j s t x hi hj _ _=>?_,fun i s x hi hx=>by rw [at0 i s x hi hx];exact hlt,fun i s hi=>?_⟩
 ·have h1:=(List.getElem?_eq_some_iff.1 hi).1
  have h2:=(List.getElem?_eq_some_iff.1 hj).1
  simp at h1 h2;omega
 ·have h1:=(List.getElem?_eq_some_iff.1 hi).1
  have h0:i=0:=by simp at h1;omega
  subst h0
  obtain rfl:=Option.some.inj hi
  obtain ⟨cs,T,fz,h2,h3⟩:=h
  refine ⟨cs,T,fz,h2,fun j hj=>?_⟩
  have hj':j<n*ks.length:=Nat.lt_of_lt_of_le hj (Nat.mul_le_mul_right _ hN)
  show cs[o+j]?=some ((ks.getD (j % ks.length) default).val ((AE.v 0).den E j) .nilIface)
  rw [h3 j hj']
  simp only [AE.den,hA j hj']
theorem law_of_ct {fns:Fns} {ct:Ct} {E:Env} {β:Nat→Bk} {w:World} {post:List SBlk} {F:Fx} (h:CtOk P fns ct) (hE:E.fn=fns) (hg:ct.gm=[]) (hw:HOk E β ct.heap w) (hF:Facts E ct.pre) (ha:ct.alts=[{ res:= .bool (.c true),post:=post,facts:=F }])
 (hro: ∀s∈ct.heap,∀bk:Bk,¬s.wr bk):Calls P ct.g (SV.denL E β ct.args).toArray w fun e w'=>e= .returned (.bool true)∧Below w.heap.size w w':=by
 refine (h E β w hE (by rw [hg];intro q hq;cases hq) hw hF).2.mono fun e w' ⟨a,β',V,h1,h2,h3,h4,_⟩=>?_
 rw [ha] at h1
 obtain rfl:=Option.some.inj h1
 refine ⟨by rw [h2];rfl,h4.os,h4.tape,h4.output,h4.size,fun b hb=>h4.same b hb fun i s hi hs=>(hro s (List.mem_of_getElem? hi) _ hs).elim⟩
end
end Go.Sy
end
section
set_option autoImplicit true
set_option relaxedAutoImplicit true
set_option linter.unusedVariables false
set_option linter.unusedSimpArgs false
namespace Go.Sy
open Go Go.MapKept
section
variable {P:Program} {w:World}
def MapV (w:World) (r:Nat) (ik:IntKind) (off:Nat) (pres:Nat→Int) (val:Nat→Value):Prop:=
 ∃es clock,w.heap[r]?=some (.map es clock)∧Stamped es clock∧(∀x∈es.toList,∃z:Nat,x.key= .int ik ((z:Int) - off)∧pres z≠0∧x.val=val z)∧ ∀z:Nat,pres z≠0→ ∃x∈es.toList,x.key= .int ik ((z:Int) - off)
theorem MapV.frame {w':World} {r:Nat} {ik:IntKind} {off:Nat} {pres:Nat→Int} {val:Nat→Value} (h:MapV w r ik off pres val) (hs:w'.heap[r]?=w.heap[r]?):MapV w' r ik off pres val:=by
 obtain ⟨es,clock,h1,h2⟩:=h
 exact ⟨es,clock,by rw [hs];exact h1,h2⟩
theorem isKey_int (ik:IntKind) (n:Int):IsKey (.int ik) (.int ik n):=by simp [IsKey]
theorem key_inj {ik:IntKind} {off z z':Nat} (h:Value.int ik ((z:Int) - off)= .int ik ((z':Int) - off)):z=z':=by
 have:=Value.int.inj h;omega
theorem mapv_find {r:Nat} {ik:IntKind} {off:Nat} {pres:Nat→Int} {val:Nat→Value} {es:Array MapEntry} {z:Nat} (h1: ∀x∈es.toList,∃z:Nat,x.key= .int ik ((z:Int) - off)∧pres z≠0∧x.val=val z) (h2: ∀z:Nat,pres z≠0→ ∃x∈es.toList,x.key= .int ik ((z:Int) - off)):
 (pres z=0∧Instr.findNow (.int ik) (.int ik ((z:Int) - off)) es.toList 0=some none∧ ∀x∈es.toList,x.key≠ .int ik ((z:Int) - off))∨
 (pres z≠0∧ ∃j e,Instr.findNow (.int ik) (.int ik ((z:Int) - off)) es.toList 0=some (some (0+j,e.val))∧es.toList[j]?=some e∧e.key= .int ik ((z:Int) - off)∧e.val=val z):=by
 have hkeys: ∀x∈es.toList,IsKey (.int ik) x.key:=fun x hx=>by
  obtain ⟨z,e,_⟩:=h1 x hx
  rw [e];exact isKey_int ik _
 rcases findNow_spec (isKey_int ik ((z:Int) - off)) es.toList 0 hkeys with ⟨f1,f2⟩|⟨j,e,f1,f2,f3⟩
 ·refine .inl ⟨?_,f1,f2⟩
  by_cases hz:pres z=0
  ·exact hz
  ·obtain ⟨x,hx,hxk⟩:=h2 z hz
   exact absurd hxk (f2 x hx)
 ·obtain ⟨z',e1,e2,e3⟩:=h1 e (List.mem_of_getElem? f2)
  have:z'=z:=key_inj (e1.symm.trans f3)
  subst this
  exact .inr ⟨e2,j,e,f1,f2,f3,e3⟩
theorem mapv_lookup {mty kt et r:Nat} {ik:IntKind} {off:Nat} {pres:Nat→Int} {val:Nat→Value} {z:Nat} {zv:Value} (h:MapV w r ik off pres val) (hm:P.underlying mty=some (.map kt et)) (hk:P.underlying kt=some (.int ik)) (hz:(zeroValue et).run P w= .ok zv w) (ok:Bool):
 (Instr.lookup mty (.map (some r)) (.int ik ((z:Int) - off)) ok).run P w= .ok (if ok then .tuple #[if pres z=0 then zv else val z,.bool (pres z !=0)] else if pres z=0 then zv else val z) w:=by
 obtain ⟨es,clock,hb,hs,h1,h2⟩:=h
 have hck:=run_checkKey (P:=P) (w:=w) hk (isKey_int ik ((z:Int) - off))
 unfold Instr.lookup
 rcases mapv_find (r:=r) (z:=z) h1 h2 with ⟨hA,f1,_⟩|⟨hA,j,e,f1,_,_,f4⟩
 ·have hfk:=run_findKey (P:=P) (w:=w) hk f1
  simp only [Sem.run_bind,run_underlying hm,Result.andThen_ok,MapKept.run_getObj_map hb,Sem.run_pure,hck,hfk]
  cases ok<;>simp [hz,hA,Sem.run_bind]
 ·have hfk:=run_findKey (P:=P) (w:=w) hk f1
  simp only [Sem.run_bind,run_underlying hm,Result.andThen_ok,MapKept.run_getObj_map hb,Sem.run_pure,hck,hfk]
  cases ok<;>simp [hA,f4,Sem.run_bind]
def mset (w:World) (r:Nat) (o:Obj):World:={ w with heap:=w.heap.setIfInBounds r o }
theorem mapv_update {mty kt et r:Nat} {ik:IntKind} {off:Nat} {pres:Nat→Int} {val:Nat→Value} {z:Nat} {v:Value} (h:MapV w r ik off pres val) (hm:P.underlying mty=some (.map kt et)) (hk:P.underlying kt=some (.int ik)):
 ∃o,(Instr.mapUpdate mty (.map (some r)) (.int ik ((z:Int) - off)) v).run P w= .ok () (mset w r o)∧MapV (mset w r o) r ik off (fun y=>if y=z then 1 else pres y) (fun y=>if y=z then v else val y):=by
 obtain ⟨es,clock,hb,hs,h1,h2⟩:=h
 have hkey:=isKey_int ik ((z:Int) - off)
 rcases mapv_find (r:=r) (z:=z) h1 h2 with ⟨hA,f1,f2⟩|⟨hA,j,e,f1,f2,f3,f4⟩
 ·refine ⟨.map (es.push { key:= .int ik ((z:Int) - off),val:=v,born:=clock }) (clock+1),by simp [Instr.mapUpdate,run_underlying hm,MapKept.run_getObj_map hb,run_checkKey hk hkey,run_findKey hk f1,run_setObj_map _ hb,Result.andThen,mset],_,_,(heap_set hb).1,stamped_push hs f2,?_,?_⟩
  ·intro x hx
   simp only [Array.toList_push,List.mem_append,List.mem_singleton] at hx
   rcases hx with hx|rfl
   ·obtain ⟨y,e1,e2,e3⟩:=h1 x hx
    have hne:y≠z:=fun hh=>f2 x hx (by rw [e1,hh])
    exact ⟨y,e1,by simp only [hne,if_false];exact e2,by simp only [hne,if_false];exact e3⟩
   ·exact ⟨z,rfl,by simp,by simp⟩
  ·intro y hy
   by_cases hyz:y=z
   ·subst hyz;exact ⟨{ key:= .int ik ((y:Int) - off),val:=v,born:=clock },by simp,rfl⟩
   ·simp only [hyz,if_false] at hy
    obtain ⟨x,hx,hxk⟩:=h2 y hy
    exact ⟨x,by simp [hx],hxk⟩
 ·have hj:es[j]?=some e:=by simpa using f2
  have hkey': ∀e',es[j]?=some e'→({ e' with key:=(.int ik ((z:Int) - off)),val:=v }:MapEntry).key=e'.key:=fun e' he'=>by rw [hj] at he';cases he';exact f3.symm
  refine ⟨.map (es.modify j fun e=>{ e with key:= .int ik ((z:Int) - off),val:=v }) clock,by simp [Instr.mapUpdate,run_underlying hm,MapKept.run_getObj_map hb,run_checkKey hk hkey,run_findKey hk f1,hj,f3,run_keyThatStays hkey,run_setObj_map _ hb,Result.andThen,mset],_,_,(heap_set hb).1,stamped_modify hs _ _ (fun _ _=>rfl) (fun e' _ he'=>hkey' e' he'),?_,?_⟩
  ·intro x hx
   obtain ⟨k,hk'⟩:=List.getElem?_of_mem hx
   have hk2:(es.modify j fun e=>{ e with key:=(.int ik ((z:Int) - off)),val:=v })[k]?=some x:=by rw [←Array.getElem?_toList];exact hk'
   rw [Array.getElem?_modify] at hk2
   split at hk2
   ·rw [Option.map_eq_some_iff] at hk2
    obtain ⟨y,_,rfl⟩:=hk2
    exact ⟨z,rfl,by simp,by simp⟩
   ·rename_i hjk
    obtain ⟨y,e1,e2,e3⟩:=h1 x (by have:=Array.mem_of_getElem? hk2;simpa using this)
    have hne:y≠z:=fun hh=>by
     subst hh
     have hnd:=hs.2.2
     have a1:(es.toList.map (·.key))[j]?=some (.int ik ((y:Int) - off)):=by rw [List.getElem?_map,f2,Option.map_some,f3]
     have a2:(es.toList.map (·.key))[k]?=some (.int ik ((y:Int) - off)):=by
      have:es.toList[k]?=some x:=by simpa using hk2
      rw [List.getElem?_map,this,Option.map_some,e1]
     have hj1:j<(es.toList.map (·.key)).length:=(List.getElem?_eq_some_iff.1 a1).1
     exact hjk ((List.getElem?_inj hj1 hnd).1 (a1.trans a2.symm))
    exact ⟨y,e1,by simp only [hne,if_false];exact e2,by simp only [hne,if_false];exact e3⟩
  ·intro y hy
   by_cases hyz:y=z
   ·subst hyz
    refine ⟨{ e with key:=(.int ik ((y:Int) - off)),val:=v },?_,rfl⟩
    have:(es.modify j fun e=>{ e with key:=(.int ik ((y:Int) - off)),val:=v })[j]?=some { e with key:=(.int ik ((y:Int) - off)),val:=v }:=by
     rw [Array.getElem?_modify,if_pos rfl,hj];rfl
    exact Array.mem_toList_iff.2 (Array.mem_of_getElem? this)
   ·simp only [hyz,if_false] at hy
    obtain ⟨x,hx,hxk⟩:=h2 y hy
    obtain ⟨k,hk'⟩:=List.getElem?_of_mem hx
    have hk2:es[k]?=some x:=by simpa using hk'
    refine ⟨x,?_,hxk⟩
    have hjk:j≠k:=fun hh=>by
     subst hh
     rw [hj] at hk2;cases hk2
     exact hyz (key_inj (hxk.symm.trans f3))
    have:(es.modify j fun e=>{ e with key:=(.int ik ((z:Int) - off)),val:=v })[k]?=some x:=by
     rw [Array.getElem?_modify,if_neg hjk];exact hk2
    exact Array.mem_toList_iff.2 (Array.mem_of_getElem? this)
end
section
variable {E:Env} {β:Nat→Bk} {P:Program} {w:World}
theorem mset_other {r x:Nat} {o:Obj} (h:x≠r):(mset w r o).heap[x]?=w.heap[x]?:=by
 unfold mset;rw [Array.getElem?_setIfInBounds_ne (Ne.symm h)]
theorem mset_size {r:Nat} {o:Obj}:(mset w r o).heap.size=w.heap.size:=by simp [mset]
theorem one_put {k:Nat} {l l':SL} {o:Obj} (hw:HOk E β [.pr k l] w) (hft: ∀x,E.fn.ft k (l.den E) (β 0).a (β 0).v x↔x=(β 0).a) (hft': ∀x,E.fn.ft k (l'.den E) (β 0).a (β 0).v x→x=(β 0).a)
 (hp:E.fn.p k (l'.den E) (β 0).a (β 0).v (mset w (β 0).a o)):HOk E β [.pr k l'] (mset w (β 0).a o)∧Ext E [.pr k l] β w E [.pr k l'] β (mset w (β 0).a o):=
 HOk.put (b:=0) (s0:= .pr k l) (s1:= .pr k l') hw rfl trivial (fun x hx=>(hft x).2 (hft' x hx)) mset_size (fun x hx=>mset_other fun hh=>hx ((hft x).2 hh)) rfl rfl rfl hp
theorem one_new {k:Nat} {l:SL} {o:Obj} (hft: ∀x,E.fn.ft k (l.den E) w.heap.size (.slice none 0 0) x→x=w.heap.size) (hp:E.fn.p k (l.den E) w.heap.size (.slice none 0 0) (w.alloc o)):
 HOk E (upB β 0 { a:=w.heap.size }) [.pr k l] (w.alloc o)∧Ext E [] β w E [.pr k l] (upB β 0 { a:=w.heap.size }) (w.alloc o):=by
 have hold: ∀c,c<w.heap.size→(w.alloc o).heap[c]?=w.heap[c]?:=fun c hc=>by
  show (w.heap.push _)[c]?=_
  rw [Array.getElem?_push,if_neg (by omega)]
 have:=HOk.more (E:=E) (β:=β) (h:=[]) (w:=w) (s0:= .pr k l) (bk:={ a:=w.heap.size }) (w':=w.alloc o) hok_nil rfl rfl rfl rfl (by simp) hold (fun x hx=>by have:=hft x hx;subst this;simp) hp
 exact this
end
def AE.z:AE:= .tl (.v 0) (.c 0) .nil
theorem AE.z_den (E:Env):AE.z.den E=fun _=>0:=by funext j;simp [AE.z,AE.den,SE.den,SL.nth]
section
variable {E:Env} {β:Nat→Bk} {P:Program} {w:World} {fns:Fns}
structure MapB (fns:Fns) (k:Nat) (ik:IntKind) (off:Nat):Prop where
 p: ∀A B a v w,fns.p k [.a A,.a B] a v w↔MapV w a ik off A (fun z=> .bool (B z !=0))
 ft: ∀l a v x,fns.ft k l a v x↔x=a
def mapS (k:Nat) (a b:AE):SBlk:= .pr k (.a a (.a b .nil))
def btMake (T k:Nat):Bt where
 sel op:=match op with
  | .makeMap t none=>if t=T then some [] else none
  |_=>none
 ct:={ g:=0,args:=[],heap:=[],alts:=[{ res:= .map 0,post:=[mapS k AE.z AE.z] }] }
def btGet (T k:Nat) (ik:IntKind) (off:Nat):Bt where
 sel op:=match op with
  | .lookup t m x false=>if t=T then some [m,x] else none
  |_=>none
 rd:=true
 ct:={ g:=0,args:=[.map 0,.int ik (.v 0)],heap:=[mapS k (.v 0) (.v 1)],pre:=[(.le (.c (-(off:Int))) (.v 0),true)],
       alts:=[{ res:= .bool (.and (.not (.eq (.rd (.v 0) (.add (.v 0) (.c off))) (.c 0))) (.not (.eq (.rd (.v 1) (.add (.v 0) (.c off))) (.c 0)))),post:=[mapS k (.v 0) (.v 1)] }] }
def btPut (T k:Nat) (ik:IntKind) (off:Nat):Bt where
 sel op:=match op with
  | .mapUpdate t m x y=>if t=T then some [m,x,y] else none
  |_=>none
 ct:={ g:=0,args:=[.map 0,.int ik (.v 0),.bool (.v 0)],heap:=[mapS k (.v 0) (.v 1)],pre:=[(.le (.c (-(off:Int))) (.v 0),true)],
       alts:=[{ res:= .tup [],post:=[mapS k (.up (.v 0) (.add (.v 0) (.c off)) (.c 1)) (.up (.v 1) (.add (.v 0) (.c off)) (.ite (.v 0) (.c 1) (.c 0)))] }] }
theorem ctPost0 {E:Env} {β β':Nat→Bk} {w w':World} {e:Ending} {c:Ct} {a:Alt} (ha:altSel E c.alts=some a) (hnx:c.nx=0) (hxf:a.xf=[]) (he:e= .returned (a.res.den E β')) (hw:HOk E β' a.post w') (hx:Ext E c.heap β w E a.post β' w'):ctPost E β w c e w':=by
 refine ⟨a,β',E,ha,?_,?_,?_,?_⟩<;>rw [hnx,Env.upd_zero]
 ·exact he
 ·exact hw
 ·exact hx
 ·rw [hxf];intro q hq;cases hq
theorem ext_same (E:Env) (h:List SBlk) (β:Nat→Bk) (w:World) (e:Ending) (c:Ct) (hh:c.heap=h) {a:Alt} (ha:altSel E c.alts=some a) (hnx:c.nx=0) (hxf:a.xf=[]) (hpost:a.post=h) (he:e= .returned (a.res.den E β)) (hw:HOk E β h w):ctPost E β w c e w:=by
 subst hh
 refine ⟨a,β,E,ha,?_,?_,?_,?_⟩<;>rw [hnx,Env.upd_zero]
 ·exact he
 ·rw [hpost];exact hw
 ·rw [hpost];exact Ext.refl _ _ _ _
 ·rw [hxf];intro q hq;cases hq
theorem key_of {E:Env} {off:Nat} {n:Int} (h: -(off:Int)≤n): ∃z:Nat,n=(z:Int) - off∧(n+off).toNat=z:=⟨(n+off).toNat,by omega,rfl⟩
theorem zero_run {T:TypeId} {z:Value} (h:(P.info? T).bind (·.zero)=some z) (w:World):(zeroValue T).run P w= .ok z w:=by
 cases hi:P.info? T with
 |none=>rw [hi] at h;cases h
 |some i=>rw [hi] at h;simp only [Option.bind_some] at h;simp [zeroValue,typeInfo,hi,h]
theorem btGet_ok {T k:Nat} {ik:IntKind} {off kt et:Nat} (hB:MapB fns k ik off) (hm:P.underlying T=some (.map kt et)) (hk:P.underlying kt=some (.int ik)) (hz: ∀w,(zeroValue et).run P w= .ok (.bool false) w):BtOk P fns (btGet T k ik off):=by
 intro E β w hE _ hw hF
 refine ⟨fun a ha=>(by cases ha;intro q hq;cases hq),fun eval o xs hsel hxs=>?_⟩
 unfold btGet at hsel hxs
 cases ho:o.op<;>simp only [ho] at hsel<;>try (cases hsel;done)
 rename_i t m x ok
 cases ok<;>simp only at hsel<;>try (cases hsel;done)
 split at hsel
 ·rename_i ht
  subst ht
  cases hsel
  simp only [List.map_cons,List.map_nil,SV.denL,SV.den,SE.den,List.cons.injEq,and_true] at hxs
  obtain ⟨e1,e2⟩:=hxs
  have hpre: -(off:Int)≤E.i 0:=by
   have:=hF (.le (.c (-(off:Int))) (.v 0),true) (by simp [btGet])
   exact of_decide_eq_true this
  obtain ⟨z,hz1,hz2⟩:=key_of (E:=E) hpre
  have hp:E.fn.p k ((SL.a (AE.v 0) (SL.a (AE.v 1) .nil)).den E) (β 0).a (β 0).v w:=hw.ok 0 _ rfl
  rw [hE] at hp
  have hp:=(hB.p _ _ _ _ _).1 hp
  have hl:=mapv_lookup (z:=z) hp hm hk (hz w) false
  refine ⟨_,w,.inl ?_,fun _=>rfl,ext_same E _ β w _ _ rfl rfl rfl rfl rfl rfl hw⟩
  unfold execOp
  simp only [ho,e1,e2,hz1]
  refine val_run ?_
  simp only [Bool.false_eq_true,if_false] at hl
  rw [hl]
  congr 1
  simp only [SV.den,SB.den,SE.den,AE.den,hz2]
  by_cases h0:E.a 0 z=0<;>by_cases h1:E.a 1 z=0<;>simp [h0,h1,bne]
 ·cases hsel
theorem btPut_ok {T k:Nat} {ik:IntKind} {off kt et:Nat} (hB:MapB fns k ik off) (hm:P.underlying T=some (.map kt et)) (hk:P.underlying kt=some (.int ik)):BtOk P fns (btPut T k ik off):=by
 intro E β w hE _ hw hF
 refine ⟨fun a ha=>(by cases ha;intro q hq;cases hq),fun eval o xs hsel hxs=>?_⟩
 unfold btPut at hsel hxs
 cases ho:o.op<;>simp only [ho] at hsel<;>try (cases hsel;done)
 rename_i t m x y
 split at hsel
 ·rename_i ht
  subst ht
  cases hsel
  simp only [List.map_cons,List.map_nil,SV.denL,SV.den,SE.den,SB.den,List.cons.injEq,and_true] at hxs
  obtain ⟨e1,e2,e3⟩:=hxs
  have hpre: -(off:Int)≤E.i 0:=by
   have:=hF (.le (.c (-(off:Int))) (.v 0),true) (by simp [btPut])
   exact of_decide_eq_true this
  obtain ⟨z,hz1,hz2⟩:=key_of (E:=E) hpre
  have hp:E.fn.p k ((SL.a (AE.v 0) (SL.a (AE.v 1) .nil)).den E) (β 0).a (β 0).v w:=hw.ok 0 _ rfl
  rw [hE] at hp
  have hp:=(hB.p _ _ _ _ _).1 hp
  obtain ⟨ob,h1,h2⟩:=mapv_update (z:=z) (v:= .bool (E.b 0)) hp hm hk
  obtain ⟨k1,k2⟩:=one_put (E:=E) (β:=β) (w:=w) (l':= .a (.up (.v 0) (.add (.v 0) (.c off)) (.c 1)) (.a (.up (.v 1) (.add (.v 0) (.c off)) (.ite (.v 0) (.c 1) (.c 0))) .nil)) (o:=ob) hw
   (fun x=>by rw [hE];exact hB.ft _ _ _ _) (fun x hx=>by rw [hE] at hx;exact (hB.ft _ _ _ _).1 hx) (by
     rw [hE]
     refine (hB.p _ _ _ _ _).2 ?_
     have ea:(AE.up (.v 0) (.add (.v 0) (.c off)) (.c 1)).den E=fun y=>if y=z then 1 else (AE.v 0).den E y:=by
      funext y;simp only [AE.den,SE.den,hz2]
     have eb:(fun y:Nat=>Value.bool ((AE.up (.v 1) (.add (.v 0) (.c off)) (.ite (.v 0) (.c 1) (.c 0))).den E y !=0))=fun y=>if y=z then Value.bool (E.b 0) else Value.bool ((AE.v 1).den E y !=0):=by
      funext y
      simp only [AE.den,SE.den,SB.den,hz2]
      by_cases hy:y=z
      ·simp only [hy,if_true];by_cases hb:E.b 0=true<;>simp [hb]
      ·simp only [hy,if_false]
     rw [ea,eb];exact h2)
  refine ⟨undef,mset w (β 0).a ob,.inr ⟨rfl,?_,rfl⟩,fun h=>(by cases h),ctPost0 (β':=β) rfl rfl rfl rfl k1 k2⟩
  ·unfold execOp
   simp only [ho,e1,e2,e3,hz1]
   rw [Sem.run_bind,h1];rfl
 ·cases hsel
theorem btMake_ok {T k:Nat} {ik:IntKind} {off:Nat} (hB:MapB fns k ik off):BtOk P fns (btMake T k):=by
 intro E β w hE _ hw hF
 refine ⟨fun a ha=>(by cases ha;intro q hq;cases hq),fun eval o xs hsel hxs=>?_⟩
 unfold btMake at hsel hxs
 cases ho:o.op<;>simp only [ho] at hsel<;>try (cases hsel;done)
 rename_i t r
 cases r<;>simp only at hsel<;>try (cases hsel;done)
 split at hsel
 ·rename_i ht
  subst ht
  cases hsel
  obtain ⟨k1,k2⟩:=one_new (E:=E) (β:=β) (w:=w) (k:=k) (l:= .a AE.z (.a AE.z .nil)) (o:= .map #[] 0) (fun x hx=>by rw [hE] at hx;exact (hB.ft _ _ _ _).1 hx) (by
   rw [hE]
   refine (hB.p _ _ _ _ _).2 ?_
   rw [AE.z_den]
   refine ⟨#[],0,?_,⟨by simp,by simp,by simp⟩,by simp,fun z hz=>(hz rfl).elim⟩
   show (w.heap.push _)[w.heap.size]?=_
   simp)
  refine ⟨.map (some w.heap.size),w.alloc (.map #[] 0),.inl ?_,fun h=>(by cases h),ctPost0 (β':=upB β 0 { a:=w.heap.size }) rfl rfl rfl (by simp only [SV.den,upB_self]) k1 k2⟩
  ·unfold execOp
   simp only [ho]
   simp [Instr.makeMap,newObj]
   rfl
 ·cases hsel
end
def BSame (E:Env) (s s':SBlk):Prop:=(∀γ bk w,SBlk.ok E γ bk w s↔SBlk.ok E γ bk w s')∧(∀bk x,s.at E bk x↔s'.at E bk x)∧(∀bk,s.wr bk↔s'.wr bk)
def HSame (E:Env) (h h':List SBlk):Prop:=h.length=h'.length∧ ∀(i:Nat) (s s':SBlk),h[i]?=some s→h'[i]?=some s'→BSame E s s'
theorem BSame.refl (E:Env) (s:SBlk):BSame E s s:=⟨fun _ _ _=>Iff.rfl,fun _ _=>Iff.rfl,fun _=>Iff.rfl⟩
theorem BSame.symm {E:Env} {s s':SBlk} (h:BSame E s s'):BSame E s' s:=⟨fun g b w=>(h.1 g b w).symm,fun b x=>(h.2.1 b x).symm,fun b=>(h.2.2 b).symm⟩
theorem HSame.symm {E:Env} {h h':List SBlk} (H:HSame E h h'):HSame E h' h:=⟨H.1.symm,fun i s s' a b=>(H.2 i s' s b a).symm⟩
theorem HSame.nil (E:Env):HSame E [] []:=⟨rfl,fun i s s' a _=>by cases a⟩
theorem HSame.cons {E:Env} {s s':SBlk} {h h':List SBlk} (a:BSame E s s') (b:HSame E h h'):HSame E (s::h) (s'::h'):=⟨by simp [b.1],fun i x y hx hy=>by
 cases i with
 |zero=>cases hx;cases hy;exact a
 |succ j=>exact b.2 j x y hx hy⟩
theorem HSame.get {E:Env} {h h':List SBlk} (H:HSame E h h') {i:Nat} {s:SBlk} (hs:h[i]?=some s): ∃s',h'[i]?=some s'∧BSame E s s':=by
 have:i<h'.length:=by rw [←H.1];exact lt_len hs
 exact ⟨_,List.getElem?_eq_getElem this,H.2 i s _ hs (List.getElem?_eq_getElem this)⟩
theorem BSame.row {E:Env} {a a':AE} {n n':SE} (ha:a.den E=a'.den E) (hn:n.den E=n'.den E) (ks:List SK) (tl:List SV) (T:TypeId):BSame E (.row a ks n tl T) (.row a' ks n' tl T):=
 ⟨fun γ bk w=>by simp only [SBlk.ok,rowCells,ha,hn],fun _ _=>Iff.rfl,fun _=>Iff.rfl⟩
theorem hok_same {E:Env} {β:Nat→Bk} {h h':List SBlk} {w:World} (H:HSame E h h') (hw:HOk E β h w):HOk E β h' w:=by
 refine ⟨fun i j s t x hi hj hri hrj=>?_,fun i s x hi hr=>?_,fun i s hi=>?_⟩
 ·obtain ⟨s',a,b⟩:=H.symm.get hi
  obtain ⟨t',c,d⟩:=H.symm.get hj
  exact hw.dis i j s' t' x a c ((b.2.1 _ _).1 hri) ((d.2.1 _ _).1 hrj)
 ·obtain ⟨s',a,b⟩:=H.symm.get hi
  exact hw.lt i s' x a ((b.2.1 _ _).1 hr)
 ·obtain ⟨s',a,b⟩:=H.symm.get hi
  exact (b.1 _ _ _).2 (hw.ok i s' a)
theorem ext_left {E E':Env} {β β':Nat→Bk} {h h1 h':List SBlk} {w w':World} (H:HSame E h h1) (x:Ext E h β w E' h' β' w'):Ext E h1 β w E' h' β' w':=by
 have hl:=H.1
 refine ⟨by rw [←hl];exact x.len,fun i hi=>x.agree i (by rw [hl];exact hi),fun i s' hi h1' h2=>?_,fun i s' y hi hr=>?_,x.size,fun b hb hh=>x.same b hb fun i s hs hwr=>?_,x.os,x.tape,x.output⟩
 ·obtain ⟨s,a,b⟩:=x.kind i s' (by rw [hl];exact hi) h1' h2
  obtain ⟨t,c,d⟩:=H.get a
  exact ⟨t,c,(d.2.2 _).1 b⟩
 ·rcases x.fresh i s' y hi hr with h|⟨j,t,a,b,c⟩
  ·exact .inl h
  ·obtain ⟨t',e,f⟩:=H.get a
   exact .inr ⟨j,t',e,(f.2.1 _ _).1 b,c.imp (f.2.2 _).1 id⟩
 ·obtain ⟨t,c,d⟩:=H.get hs
  intro hat
  exact hh i t c ((d.2.2 _).1 hwr) ((d.2.1 _ _).1 hat)
theorem ext_right {E E':Env} {β β':Nat→Bk} {h h' h2:List SBlk} {w w':World} (H:HSame E' h' h2) (x:Ext E h β w E' h' β' w'):Ext E h β w E' h2 β' w':=by
 refine ⟨by rw [←H.1];exact x.len,x.agree,fun i s' hi h1 hwr=>?_,fun i s' y hi hr=>?_,x.size,x.same,x.os,x.tape,x.output⟩
 ·obtain ⟨t,a,b⟩:=H.symm.get h1
  exact x.kind i t hi a ((b.2.2 _).1 hwr)
 ·obtain ⟨t,a,b⟩:=H.symm.get hi
  exact x.fresh i t y a ((b.2.1 _ _).1 hr)
theorem ct_same {fns:Fns} {ct:Ct} (c:Env→Ct) (hc: ∀E:Env,E.fn=fns→Facts E ct.pre→CtOk P fns (c E)∧(c E).g=ct.g∧(c E).gm=ct.gm∧(c E).nx=0∧ct.nx=0∧(∀β,SV.denL E β (c E).args=SV.denL E β ct.args)∧HSame E ct.heap (c E).heap∧Facts E (c E).pre∧
 ∃a a',(c E).alts=[a]∧ct.alts=[a']∧a.c= .c true∧a'.c= .c true∧a'.facts=[]∧a'.xf=[]∧a.res=a'.res∧HSame E a.post a'.post):CtOk P fns ct:=by
 intro E β w hE hg hw hF
 obtain ⟨k,e1,e2,e3,e4,e5,e6,e7,a,a',f1,f2,f3,f4,f5,f6,f7,f8⟩:=hc E hE hF
 refine ⟨fun b hb=>?_,?_⟩
 ·rw [f2] at hb
  simp only [altSel,f4,SB.den,if_true,Option.some.injEq] at hb
  subst hb;rw [f5];intro q hq;cases hq
 ·obtain ⟨_,k2⟩:=k E β w hE (by rw [e2];exact hg) (hok_same e6 hw) e7
  rw [e1,e5] at k2
  refine k2.mono fun e w' h=>?_
  obtain ⟨b,β',V,h1,h2,h3,h4,h5⟩:=h
  rw [f1] at h1
  simp only [altSel,f3,SB.den,if_true,Option.some.injEq] at h1
  subst h1
  rw [e3,Env.upd_zero] at h2 h3 h4
  refine ⟨a',β',E,by rw [f2];simp only [altSel,f4,SB.den,if_true],?_,?_,?_,by rw [f6];intro q hq;cases hq⟩<;>rw [e4,Env.upd_zero]
  ·rw [h2,f7]
  ·exact hok_same f8 h3
  ·exact ext_left e6.symm (ext_right f8 h4)
end Go.Sy
end
end
section
set_option autoImplicit true
set_option relaxedAutoImplicit true
set_option linter.unusedVariables false
set_option linter.unusedSimpArgs false
namespace Go.Sy
open Go
section
variable {E E2:Env} {β:Nat→Bk} {P:Program} {w:World}
def killK (K:List Nat) (h:List SBlk):List SBlk:=h.zipIdx.map fun p=>if K.contains p.2 then .dead else p.1
theorem killK_length (K:List Nat) (h:List SBlk):(killK K h).length=h.length:=by simp [killK]
theorem killK_get {K:List Nat} {h:List SBlk} {i:Nat} {s:SBlk} (hs:(killK K h)[i]?=some s):(K.contains i=true∧s= .dead)∨(K.contains i=false∧h[i]?=some s):=by
 unfold killK at hs
 rw [List.getElem?_map,List.getElem?_zipIdx] at hs
 cases hh:h[i]? with
 |none=>rw [hh] at hs;simp at hs
 |some t=>
  rw [hh] at hs
  simp only [Option.map_some,Nat.zero_add,Option.some.injEq] at hs
  cases hk:K.contains i with
  |true=>rw [hk] at hs;exact .inl ⟨rfl,by simpa using hs.symm⟩
  |false=>rw [hk] at hs;exact .inr ⟨rfl,by simpa using hs⟩
theorem HOk.absorb {h:List SBlk} (hw:HOk E β h w) (hbnd:h.all (SBlk.bnd h.length)=true) (K:List Nat) {n:Nat} (H:AgE n E E2) (hv:h.all (SBlk.vb n)=true) {s1:SBlk} {bk:Bk} {w':World}
 (hos:w'.os=w.os) (htp:w'.tape=w.tape) (hop:w'.output=w.output) (hsz:w.heap.size≤w'.heap.size)
 (hsame: ∀c,c<w.heap.size→(∀(i:Nat) (s:SBlk),K.contains i=true→h[i]?=some s→ ¬s.at E (β i) c)→w'.heap[c]?=w.heap[c]?)
 (hwr: ∀(i:Nat) (s:SBlk),K.contains i=true→h[i]?=some s→ ∀x,s.at E (β i) x→s.wr (β i))
 (hnew: ∀x,s1.at E2 bk x→x<w'.heap.size∧(w.heap.size≤x∨ ∃(i:Nat) (s:SBlk),K.contains i=true∧h[i]?=some s∧s.at E (β i) x))
 (hok:s1.ok E2 (upB β h.length bk) bk w'):
 HOk E2 (upB β h.length bk) (killK K h++[s1]) w'∧Ext E h β w E2 (killK K h++[s1]) (upB β h.length bk) w':=by
 have hag: ∀i,i<h.length→upB β h.length bk i=β i:=fun i hi=>upB_ne (by omega)
 have lt2: ∀i s,(killK K h++[s1])[i]?=some s→(i<h.length∧(killK K h)[i]?=some s∧upB β h.length bk i=β i)∨(i=h.length∧s=s1∧upB β h.length bk i=bk):=fun i s hs=>by
  rcases Nat.lt_or_ge i h.length with h1|h1
  ·rw [List.getElem?_append_left (by rw [killK_length];exact h1)] at hs;exact .inl ⟨h1,hs,hag i h1⟩
  ·have hi:i=h.length:=by
    have:=(List.getElem?_eq_some_iff.1 hs).1
    simp [killK_length] at this;omega
   subst hi
   rw [List.getElem?_append_right (by rw [killK_length];exact h1)] at hs
   simp [killK_length] at hs
   exact .inr ⟨rfl,hs.symm,upB_self _ _ _⟩
 have hvb: ∀{i:Nat} {s:SBlk},h[i]?=some s→s.vb n=true:=fun hi=>List.all_eq_true.1 hv _ (List.mem_of_getElem? hi)
 have old: ∀(i:Nat) (s:SBlk) (x:Nat),(killK K h)[i]?=some s→s.at E2 (β i) x→K.contains i=false∧h[i]?=some s∧s.at E (β i) x:=fun i s x hs hr=>by
  rcases killK_get hs with ⟨_,rfl⟩|⟨h1,h2⟩
  ·exact hr.1.elim
  ·exact ⟨h1,h2,(SBlk.at_ag H s (hvb h2) _ x).1 hr⟩
 have apart: ∀(i j:Nat) (s t:SBlk) (x:Nat),K.contains i=false→h[i]?=some s→s.at E (β i) x→K.contains j=true→h[j]?=some t→t.at E (β j) x→False:=fun i j s t x h1 h2 h3 h4 h5 h6=>by
  have:=hw.dis i j s t x h2 h5 h3 h6
  subst this;rw [h1] at h4;cases h4
 have cross: ∀(i:Nat) (s:SBlk) (x:Nat),(killK K h)[i]?=some s→s.at E2 (β i) x→s1.at E2 bk x→False:=fun i s x hs hr hn=>by
  obtain ⟨a1,a2,a3⟩:=old i s x hs hr
  rcases (hnew x hn).2 with h7|⟨j,t,b1,b2,b3⟩
  ·have:=hw.lt i s x a2 a3;omega
  ·exact apart i j s t x a1 a2 a3 b1 b2 b3
 refine ⟨⟨fun i j s t x hi hj hri hrj=>?_,fun i s x hi hr=>?_,fun i s hs=>?_⟩,⟨by simp [killK_length],hag,fun i s hi hk hr=>?_,fun i s x h2 hr=>?_,hsz,fun c hc hn=>?_,hos,htp,hop⟩⟩
 ·rcases lt2 i s hi with ⟨h1,h2,h3⟩|⟨h1,h2,h3⟩<;>rcases lt2 j t hj with ⟨h4,h5,h6⟩|⟨h4,h5,h6⟩<;>rw [h3] at hri<;>rw [h6] at hrj
  ·obtain ⟨_,a2,a3⟩:=old i s x h2 hri
   obtain ⟨_,b2,b3⟩:=old j t x h5 hrj
   exact hw.dis i j s t x a2 b2 a3 b3
  ·rw [h5] at hrj;exact (cross i s x h2 hri hrj).elim
  ·rw [h2] at hri;exact (cross j t x h5 hrj hri).elim
  ·omega
 ·rcases lt2 i s hi with ⟨h1,h2,h3⟩|⟨h1,h2,h3⟩<;>rw [h3] at hr
  ·obtain ⟨_,a2,a3⟩:=old i s x h2 hr
   have:=hw.lt i s x a2 a3;omega
  ·rw [h2] at hr;exact (hnew x hr).1
 ·rcases lt2 i s hs with ⟨h1,h2,h3⟩|⟨h1,h2,h3⟩<;>rw [h3]
  ·rcases killK_get h2 with ⟨_,rfl⟩|⟨a1,a2⟩
   ·trivial
   ·have hsb:s.bnd h.length=true:=List.all_eq_true.1 hbnd s (List.mem_of_getElem? a2)
    rw [SBlk.ok_agree hag s hsb,SBlk.ok_ag H s (hvb a2)]
    exact SBlk.ok_frame (fun x hx=>hsame x (hw.lt i s x a2 hx) fun j t b1 b2 b3=>apart i j s t x a1 a2 hx b1 b2 b3) (hw.ok i s a2)
  ·rw [h2];exact hok
 ·rw [List.getElem?_append_left (by rw [killK_length];exact hi)] at hk
  rcases killK_get hk with ⟨_,rfl⟩|⟨a1,a2⟩
  ·exact hr.elim
  ·exact ⟨s,a2,hr⟩
 ·rcases lt2 i s h2 with ⟨h3,h4,h5⟩|⟨h3,h4,h5⟩
  ·rw [h5] at hr
   obtain ⟨_,a2,a3⟩:=old i s x h4 hr
   exact .inr ⟨i,s,a2,a3,.inr rfl⟩
  ·rw [h5,h4] at hr
   rcases (hnew x hr).2 with h7|⟨j,t,b1,b2,b3⟩
   ·exact .inl h7
   ·exact .inr ⟨j,t,b2,b3,.inl (hwr j t b1 b2 x b3)⟩
 ·exact hsame c hc fun i s h1 h2 h3=>hn i s h2 (hwr i s h1 h2 c h3) h3
theorem ctPostX {E:Env} {β β':Nat→Bk} {w w':World} {e:Ending} {c:Ct} {a:Alt} (V:Env) (ha:altSel E c.alts=some a) (he:e= .returned (a.res.den (E.upd xb c.nx V) β')) (hw:HOk (E.upd xb c.nx V) β' a.post w') (hx:Ext E c.heap β w (E.upd xb c.nx V) a.post β' w') (hf:Facts (E.upd xb c.nx V) a.xf):ctPost E β w c e w':=
 ⟨a,β',V,ha,he,hw,hx,hf⟩
theorem append_own3 (t ty e:TypeId) (i:TypeInfo) (z:Value) (ht:P.underlying t=some (.slice e)) (hi:P.info? e=some i) (hz:i.zero=some z) (hzs:z.cells.size=i.size) (hsz:0<i.size)
 {v:Value} {n:Nat} {xs:List Value} (hown:w.ownsRow 0 e i.size v n xs)
 (a:Addr) (m c:Nat) (news:List Value) (hl:news.length=m*i.size) (hnews: ∀j u,news[j]?=some u→w.cell? (a.add j)=some u) (h1: ∀u∈news,u.oneCell'=true)
 (h63:n+m≤maxLen) (hbytes:(n+m)*i.bytes≤140737488355328) (hm:0<m):
 ∃v' w' g cap,(Builtin.append_ #[t,t] ty #[v,.slice (some a) m c]).run P w= .ok v' w'∧w'.ownsRow 0 e i.size v' (n+m) (xs++news)∧w.grownBy w' v.ownBlock∧v'= .slice (some ⟨g,0,none⟩) (n+m) cap∧(w.heap.size≤g∨v.ownBlock=some g)∧g<w'.heap.size:=by
 have fin: ∀(v':Value) (w':World) (base:Nat) (row:Option Nat),(Builtin.append_ #[t,t] ty #[v,.slice (some a) m c]).run P w= .ok v' w'→w'.ownsRow base e i.size v' (n+m) (xs++news)→w.grownBy w' row→(row=none∨row=v.ownBlock)→(∀g,v'.ownBlock=some g→w.heap.size≤g∨v.ownBlock=some g)→
  ∃v' w' g cap,(Builtin.append_ #[t,t] ty #[v,.slice (some a) m c]).run P w= .ok v' w'∧w'.ownsRow 0 e i.size v' (n+m) (xs++news)∧w.grownBy w' v.ownBlock∧v'= .slice (some ⟨g,0,none⟩) (n+m) cap∧(w.heap.size≤g∨v.ownBlock=some g)∧g<w'.heap.size:=by
  intro v' w' base row r1 r2 r3 r4 r5
  rcases r2.2 with ⟨_,hv⟩|⟨g,cap,cur,rfl,_,hg,hr⟩
  ·omega
  ·refine ⟨_,w',g,cap,r1,⟨r2.1,.inr ⟨g,cap,cur,rfl,Nat.zero_le _,hg,hr⟩⟩,⟨r3.os,r3.tape,r3.output,r3.size,fun k hk hne=>r3.block k hk ?_⟩,rfl,r5 g rfl,(Array.getElem?_eq_some_iff.1 hg).1⟩
   rcases r4 with r4|r4
   ·rw [r4];simp
   ·rw [r4];exact hne
 have hlen:=hown.1
 rcases hown.2 with ⟨rfl,rfl⟩|⟨g,cap,cur,rfl,_,hg,hcap,hcm,hcs,hx⟩
 ·have hxs:xs=[]:=List.eq_nil_of_length_eq_zero (by rw [hlen];simp)
  subst hxs
  obtain ⟨v',w',r1,r2,r3,_⟩:=run_append_own (P:=P) w w.heap.size t ty e i z i.size i.bytes ht hi hz rfl rfl hzs hsz (.slice none 0 0) 0 [] (World.ownsRow_nil w _ e i.size) a m c news hl hnews h1 h63 hbytes (Nat.le_refl _)
  exact fin v' w' w.heap.size none r1 r2 r3 (.inl rfl) fun g hg=> .inl (r2.lt g hg).1
 ·by_cases hroom:n+m≤cap
  ·have hfit:n*i.size+news.length≤cur.size:=by
    rw [hl,hcs,←Nat.add_mul];exact Nat.mul_le_mul_right _ hroom
   have r1:=run_append_room (P:=P) w t ty e i ht hi g n cap cur hg a m c news hl hnews h1 hroom hfit
   refine fin _ _ 0 (some g) r1 ⟨by rw [List.length_append,hlen,hl,Nat.add_mul],.inr ⟨g,cap,(cur.toList.take (n*i.size)++news++cur.toList.drop (n*i.size+news.length)).toArray,rfl,Nat.zero_le _,setRow_heap w _ _ _ _ _ hg,hroom,hcm,?_,?_⟩⟩ ?_ (.inr rfl) (fun g' hg'=> .inr hg')
   ·simp
    rw [←hcs]
    omega
   ·have hle:(xs++news).length=(n+m)*i.size:=by rw [List.length_append,hlen,hl,Nat.add_mul]
    rw [hx,←hle]
    exact List.take_left
   ·exact ⟨rfl,rfl,rfl,by simp,fun k _ hk=>setRow_other w _ k _ (fun hh=>hk (by rw [hh]))⟩
  ·obtain ⟨v',w',r1,r2,r3⟩:=run_append_arg_grows (P:=P) w t ty e i z i.size i.bytes ht hi hz rfl rfl hzs hsz ⟨g,0,none⟩ n cap xs hlen (fun j u hj=>by
    have hjl:j<xs.length:=(List.getElem?_eq_some_iff.1 hj).1
    rw [addr_add,Nat.zero_add]
    simp only [World.cell?,hg]
    rw [←hx] at hj
    rw [List.getElem?_take] at hj
    split at hj
    ·simpa using hj
    ·cases hj) a m c news hl hnews (by omega) h63 hbytes
   exact fin v' w' w.heap.size none r1 r2 r3 (.inl rfl) fun g' hg'=> .inl (r2.lt g' hg').1
end
section
variable {E E2:Env} {β:Nat→Bk} {P:Program} {w:World}
structure RecP where
 ks:List SK
 T:TypeId
 cols:List (Nat×List SK×TypeId)
 W:Nat
def RecP.S (r:RecP):Nat:=r.ks.length
def RecP.m (r:RecP):Nat:=r.cols.length
def RecP.col (r:RecP) (f:Nat):Nat:=(r.cols.getD f default).1
def RecP.nk (r:RecP) (f:Nat):List SK:=(r.cols.getD f default).2.1
def RecP.nT (r:RecP) (f:Nat):TypeId:=(r.cols.getD f default).2.2
def RecP.idx (r:RecP) (j:Nat):Option Nat:=(List.range r.m).find? fun f=>r.col f==j
def skInt:SK→Bool
 | .opq=>false
 |_=>true
def RecP.good (r:RecP):Bool:=decide (0<r.S)&&(List.range r.m).all (fun f=>r.idx (r.col f)==some f&&decide (r.col f<r.S)&&(r.ks.getD (r.col f) default== .opq)&&decide (0<(r.nk f).length)&&(r.nk f).all skInt)&&
 (List.range r.S).all (fun j=>(r.idx j).isSome||skInt (r.ks.getD j default))
theorem RecP.good_S {r:RecP} (h:r.good=true):0<r.S:=by unfold RecP.good at h;simp only [Bool.and_eq_true,decide_eq_true_eq] at h;exact h.1.1
theorem RecP.good_f {r:RecP} (h:r.good=true) {f:Nat} (hf:f<r.m):r.idx (r.col f)=some f∧r.col f<r.S∧r.ks.getD (r.col f) default= .opq∧0<(r.nk f).length∧(r.nk f).all skInt=true:=by
 unfold RecP.good at h;simp only [Bool.and_eq_true] at h
 have:=List.all_eq_true.1 h.1.2 f (List.mem_range.2 hf)
 simp only [Bool.and_eq_true,beq_iff_eq,decide_eq_true_eq] at this
 obtain ⟨⟨⟨⟨a,b⟩,c⟩,d⟩,e⟩:=this
 exact ⟨a,b,c,d,e⟩
theorem RecP.good_j {r:RecP} (h:r.good=true) {j:Nat} (hj:j<r.S) (hn:r.idx j=none):skInt (r.ks.getD j default)=true:=by
 unfold RecP.good at h;simp only [Bool.and_eq_true] at h
 have:=List.all_eq_true.1 h.2 j (List.mem_range.2 hj)
 rw [hn] at this;simpa using this
theorem RecP.idx_some {r:RecP} {j f:Nat} (h:r.idx j=some f):f<r.m∧r.col f=j:=by
 unfold RecP.idx at h
 exact ⟨List.mem_range.1 (List.mem_of_find?_eq_some h),by simpa using List.find?_some h⟩
def rawS (e l c:Int):Value:=if 0≤e then .slice (some ⟨e.toNat,0,none⟩) l.toNat c.toNat else .slice none 0 0
def NestOk (w:World) (ks:List SK) (W:Nat) (B L:Int) (C:Nat→Int) (k:Nat):Prop:=
 L.toNat*ks.length≤W∧(if 0≤B then∃cs T fz,w.heap[B.toNat]?=some (.cells cs T fz)∧ ∀j,j<L.toNat*ks.length→cs[j]?=some ((ks.getD (j % ks.length) default).val (C (k*W+j)) .nilIface) else L.toNat=0)
def RecIs (r:RecP) (n:Nat) (A B L K C:Nat→Int) (v:Value) (w:World):Prop:=
 ∃q:Nat→Value,w.ownsRow 0 r.T r.S v n ((List.range (n*r.S)).map fun j=>(r.ks.getD (j % r.S) default).val (A j) (q j))∧
  ∀i f,i<n→f<r.m→q (i*r.S+r.col f)=rawS (B (i*r.m+f)) (L (i*r.m+f)) (K (i*r.m+f))∧NestOk w (r.nk f) r.W (B (i*r.m+f)) (L (i*r.m+f)) C (i*r.m+f)∧
   (0≤B (i*r.m+f)→v.ownBlock≠some (B (i*r.m+f)).toNat)
def RecFt (r:RecP) (n:Nat) (B:Nat→Int) (v:Value) (x:Nat):Prop:=v.ownBlock=some x∨ ∃i f,i<n∧f<r.m∧0≤B (i*r.m+f)∧x=(B (i*r.m+f)).toNat
theorem RecIs.frame {r:RecP} {n:Nat} {A B L K C:Nat→Int} {v:Value} {w w':World} (h:RecIs r n A B L K C v w) (hs: ∀x,RecFt r n B v x→w'.heap[x]?=w.heap[x]?):RecIs r n A B L K C v w':=by
 obtain ⟨q,h1,h2⟩:=h
 refine ⟨q,ownsRow_frame h1 fun g hg=>hs g (.inl hg),fun i f hi hf=>?_⟩
 obtain ⟨a,b,c⟩:=h2 i f hi hf
 refine ⟨a,⟨b.1,?_⟩,c⟩
 have b2:=b.2
 split
 ·rename_i hB
  rw [if_pos hB] at b2
  rw [hs _ (.inr ⟨i,f,hi,hf,hB,rfl⟩)];exact b2
 ·rename_i hB
  rw [if_neg hB] at b2;exact b2
theorem RecIs.nil (r:RecP) (A B L K C:Nat→Int) (w:World):RecIs r 0 A B L K C (.slice none 0 0) w:=by
 refine ⟨fun _=> .nilIface,?_,fun i f hi=>by omega⟩
 simp only [Nat.zero_mul,List.range_zero,List.map_nil]
 exact World.ownsRow_nil w 0 r.T r.S
structure RecOk (fns:Fns) (k kc:Nat) (r:RecP):Prop where
 p: ∀n A B L K C a v w,fns.p k [.i n,.a A,.a B,.a L,.a K,.a C] a v w↔RecIs r n.toNat A B L K C v w
 ft: ∀n A B L K C a v x,fns.ft k [.i n,.a A,.a B,.a L,.a K,.a C] a v x↔RecFt r n.toNat B v x
 cat: ∀C b a,fns.a kc [.a C,.i b,.a a]=fun j=>if j<b.toNat then C j else a (j - b.toNat)
 good:r.good=true
def recB (k:Nat) (n:SE) (A B L K C:AE):SBlk:= .pr k (.i n (.a A (.a B (.a L (.a K (.a C .nil))))))
def recV (k:Nat):SBlk:=recB k (.v 0) (.v 0) (.v 1) (.v 2) (.v 3) (.v 4)
def RecP.pat (r:RecP) (j:Nat):SV:=
 match r.idx j with
 |some f=> .own (2+f)
 |none=>match r.ks.getD j default with
  | .int k=> .int k (.v (10+j))
  | .bool=> .bool (.v (10+j))
  | .opq=> .bool (.c true)
def RecP.pats (r:RecP):List SV:=(List.range r.S).map r.pat
def RecP.sl (r:RecP):List Nat→SL
 |[]=> .nil
 |j::t=>match r.idx j with
  |some _=> .i (.c 0) (r.sl t)
  |none=>match r.ks.getD j default with
   | .int _=> .i (.v (10+j)) (r.sl t)
   | .bool=> .b (.v (10+j)) (r.sl t)
   | .opq=> .i (.c 0) (r.sl t)
def RecP.num (r:RecP) (E:Env) (j:Nat):Int:=
 match r.idx j with
 |some _=>0
 |none=>match r.ks.getD j default with
  | .int _=>E.i (10+j)
  | .bool=>b2i (E.b (10+j))
  | .opq=>0
theorem RecP.sl_nth (r:RecP) (E:Env): ∀(l:List Nat) (i j:Nat),l[i]?=some j→(r.sl l).nth E i=r.num E j
 |[],i,j,h=>by simp at h
 |a::t,0,j,h=>by
  simp only [List.getElem?_cons_zero,Option.some.injEq] at h
  subst h
  unfold RecP.sl RecP.num
  split
  ·rfl
  ·split<;>rfl
 |a::t,i+1,j,h=>by
  simp only [List.getElem?_cons_succ] at h
  have ih:=RecP.sl_nth r E t i j h
  unfold RecP.sl
  split
  ·simp only [SL.nth,Nat.add_one_ne_zero,if_false,Nat.add_sub_cancel];exact ih
  ·split<;>(simp only [SL.nth,Nat.add_one_ne_zero,if_false,Nat.add_sub_cancel];exact ih)
def slV (v:Nat):Nat→SL
 |0=> .nil
 |n+1=> .i (.v v) (slV (v+1) n)
theorem slV_nth (E:Env): ∀(n v i:Nat),i<n→(slV v n).nth E i=E.i (v+i)
 |0,_,_,h=>by omega
 |n+1,v,0,_=>rfl
 |n+1,v,i+1,h=>by
  simp only [slV,SL.nth,Nat.add_one_ne_zero,if_false,Nat.add_sub_cancel]
  rw [slV_nth E n (v+1) i (by omega)];congr 1;omega
def RecP.cat (r:RecP) (kc:Nat):Nat→AE
 |0=> .v 4
 |f+1=> .ap kc (.a (r.cat kc f) (.i (.add (.mul (.v 0) (.c (r.m*r.W:Nat))) (.c (f*r.W:Nat))) (.a (.v (20+f)) .nil)))
def RecP.rowsP (r:RecP):List SBlk:=(List.range r.m).map fun f=> .row (.v (20+f)) (r.nk f) (.v (20+f)) [] (r.nT f)
def RecP.heapP (r:RecP) (k:Nat):List SBlk:=recV k:: .cells r.pats r.T::r.rowsP
def RecP.killed (r:RecP):List Nat:=0::(List.range r.m).map (·+2)
def RecP.newB (r:RecP) (k kc:Nat):SBlk:=
 recB k (.add (.v 0) (.c 1)) (.tl (.v 0) (.mul (.v 0) (.c (r.S:Nat))) (r.sl (List.range r.S))) (.tl (.v 1) (.mul (.v 0) (.c (r.m:Nat))) (slV 500 r.m)) (.tl (.v 2) (.mul (.v 0) (.c (r.m:Nat))) (slV 20 r.m)) (.tl (.v 3) (.mul (.v 0) (.c (r.m:Nat))) (slV (500+r.m) r.m)) (r.cat kc r.m)
def btRecApp (TS k kc:Nat) (r:RecP):Bt where
 sel op:=match op with
  | .call { callee:= .builtin .append,args:=⟨[s,x]⟩,argTypes:=⟨[t,t']⟩ }=>if t=TS∧t'=TS then some [s,x] else none
  |_=>none
 ct:={ g:=0,args:=[.own 0,.slice 1 Off.z (.c 1) (.c 1)],heap:=r.heapP k,nx:=2*r.m,
       pre:=[(.le (.c 0) (.v 0),true),(.le (.v 0) (.c 100000),true)]++(List.range r.m).map (fun f=>(.le (.mul (.v (20+f)) (.c ((r.nk f).length:Nat))) (.c (r.W:Nat)),true)),
       alts:=[{ res:= .own (2+r.m),post:=killK r.killed (r.heapP k)++[r.newB k kc] }] }
theorem range_idx {n i:Nat} (h:i<n):(List.range n)[i]?=some i:=by simp [h]
theorem mul_lt {i n S c:Nat} (hi:i<n) (hc:c<S):i*S+c<n*S:=by
 have:(i+1)*S≤n*S:=Nat.mul_le_mul_right _ hi
 rw [Nat.add_mul] at this;omega
theorem btRecApp_ok {fns:Fns} {TS k kc:Nat} {r:RecP} (hR:RecOk fns k kc r) {i:TypeInfo} {z:Value} (ht:P.underlying TS=some (.slice r.T)) (hi:P.info? r.T=some i) (hz:i.zero=some z) (hzs:z.cells.size=i.size) (his:i.size=r.S) (hby:i.bytes≤1000000)
 (hb1:(r.heapP k).all (SBlk.bnd (r.heapP k).length)=true) (hb2:(r.heapP k).all (SBlk.vb 500)=true):BtOk P fns (btRecApp TS k kc r):=by
 intro E β w hE _ hw hF
 have hS:=RecP.good_S hR.good
 refine ⟨fun a ha=>(by cases ha;intro q hq;cases hq),fun eval o xs hsel hxs=>?_⟩
 have hlen:(r.heapP k).length=2+r.m:=by simp [RecP.heapP,RecP.rowsP];omega
 have hg0:(r.heapP k)[0]?=some (recV k):=rfl
 have hg1:(r.heapP k)[1]?=some (.cells r.pats r.T):=rfl
 have hgf: ∀f,f<r.m→(r.heapP k)[2+f]?=some (.row (.v (20+f)) (r.nk f) (.v (20+f)) [] (r.nT f)):=fun f hf=>by
  rw [Nat.add_comm]
  show (r.rowsP)[f]?=_
  unfold RecP.rowsP
  rw [List.getElem?_map,range_idx hf];rfl
 have p0:0≤E.i 0:=of_decide_eq_true (hF (.le (.c 0) (.v 0),true) (by simp [btRecApp]))
 have p1:E.i 0≤100000:=of_decide_eq_true (hF (.le (.v 0) (.c 100000),true) (by simp [btRecApp]))
 have pf: ∀f,f<r.m→E.i (20+f)*((r.nk f).length:Int)≤(r.W:Int):=fun f hf=>by
  have:=hF (.le (.mul (.v (20+f)) (.c ((r.nk f).length:Nat))) (.c (r.W:Nat)),true) (by
   simp only [btRecApp]
   exact List.mem_append_right _ (List.mem_map.2 ⟨f,List.mem_range.2 hf,rfl⟩))
  exact of_decide_eq_true this
 obtain ⟨n,hn⟩: ∃n:Nat,E.i 0=n:=⟨(E.i 0).toNat,by omega⟩
 have hrec0:E.fn.p k ((SL.i (.v 0) (.a (.v 0) (.a (.v 1) (.a (.v 2) (.a (.v 3) (.a (.v 4) .nil)))))).den E) (β 0).a (β 0).v w:=hw.ok 0 _ hg0
 rw [hE] at hrec0
 have hrec:=(hR.p _ _ _ _ _ _ _ _ _).1 hrec0
 have hnn:((SE.v 0).den E).toNat=n:=by show (E.i 0).toNat=n;omega
 rw [hnn] at hrec
 obtain ⟨q,hq1,hq2⟩:=hrec
 obtain ⟨c1o,hc1⟩:=hw.ok 1 _ hg1
 have hsel': ∃s x,o.op= .call { callee:= .builtin .append,args:= #[s,x],argTypes:= #[TS,TS] }∧xs=[s,x]:=by
  unfold btRecApp at hsel
  simp only at hsel
  split at hsel
  ·rename_i s x t t' ho
   split at hsel
   ·rename_i htt
    obtain ⟨rfl,rfl⟩:=htt
    cases hsel
    exact ⟨s,x,ho,rfl⟩
   ·cases hsel
  ·cases hsel
 obtain ⟨s,x,ho,rfl⟩:=hsel'
 simp only [btRecApp,List.map_cons,List.map_nil,SV.denL,List.cons.injEq,and_true] at hxs
 obtain ⟨e1,e2⟩:=hxs
 have e2':eval x= .slice (some ⟨(β 1).a,0,none⟩) 1 1:=by rw [e2];simp [SV.den,Off.den,Off.z,SE.den,c1o]
 have e1':eval s=(β 0).v:=by rw [e1];simp [SV.den]
 have hnewsl:(SV.denL E β r.pats).length=1*i.size:=by rw [denL_length,his];simp [RecP.pats]
 have hpat: ∀j,j<r.S→(SV.denL E β r.pats)[j]?=some ((r.pat j).den E β):=fun j hj=>by
  rw [SV.denL_map,List.getElem?_map]
  unfold RecP.pats
  rw [List.getElem?_map,range_idx hj];rfl
 have hcellj: ∀j,(r.pat j).isCell=true:=fun j=>by
  unfold RecP.pat;split
  ·rfl
  ·split<;>rfl
 obtain ⟨v',w',g,cap,r1,r2,r3,r4,r5,r6⟩:=append_own3 (P:=P) (w:=w) TS o.type r.T i z ht hi hz hzs (by rw [his];exact hS) (v:=(β 0).v) (n:=n) (by rw [his];exact hq1) ⟨(β 1).a,0,none⟩ 1 1 (SV.denL E β r.pats) hnewsl
  (fun j u hj=>by rw [addr_add,Nat.zero_add];simp only [World.cell?,hc1];simpa using hj) (fun u hu=>by
    rw [SV.denL_map] at hu
    obtain ⟨y,hy,rfl⟩:=List.mem_map.1 hu
    unfold RecP.pats at hy
    obtain ⟨j,_,rfl⟩:=List.mem_map.1 hy
    exact isCell_ok (hcellj j)) (by simp only [maxLen];omega) (by
    have:(n+1)*i.bytes≤100001*1000000:=Nat.mul_le_mul (by omega) hby
    omega) (by omega)
 rw [his] at r2
 have hrow: ∀f,f<r.m→((β (2+f)).z=true∧(E.i (20+f)).toNat=0)∨((β (2+f)).z=false∧(β (2+f)).n=(E.i (20+f)).toNat∧(β (2+f)).o=0∧ ∃cur,w.heap[(β (2+f)).a]?=some (.cells cur (r.nT f) (0,0))∧
  ∀j,j<(E.i (20+f)).toNat*(r.nk f).length→cur[j]?=some (((r.nk f).getD (j % (r.nk f).length) default).val (E.a (20+f) j) .nilIface)):=fun f hf=>by
  have hb:=hw.ok (2+f) _ (hgf f hf)
  obtain ⟨mt,hm1,hm2⟩:=row_v hb
  have hm0:mt=0:=by
   have hl:=(RecP.good_f hR.good hf).2.2.2.1
   rcases Nat.mul_eq_zero.1 (show mt*(r.nk f).length=0 from hm1.symm) with h|h
   ·exact h
   ·omega
  subst hm0
  rcases hm2 with ⟨h1,h2,_⟩|⟨h1,h2,_,_,cur,h3,h4,h5⟩
  ·exact .inl ⟨h1,h2⟩
  ·refine .inr ⟨h1,h2,hb.1,cur,h3,fun j hj=>?_⟩
   have hn2:(β (2+f)).n=(E.i (20+f)).toNat:=h2
   have:=congrArg (fun l=>l[j]?) h5
   simp only [hn2] at this
   rw [List.getElem?_take_of_lt hj] at this
   rw [←Array.getElem?_toList,this]
   have hsk:skInt ((r.nk f).getD (j % (r.nk f).length) default)=true:=by
    have hl:=(RecP.good_f hR.good hf).2.2.2.1
    have hjm:j % (r.nk f).length<(r.nk f).length:=Nat.mod_lt _ hl
    rw [List.getD_eq_getElem?_getD,List.getElem?_eq_getElem hjm]
    exact List.all_eq_true.1 (RecP.good_f hR.good hf).2.2.2.2 _ (List.getElem_mem hjm)
   unfold rowCells
   simp only [SV.denL,List.append_nil]
   have hjj:j<((SE.v (20+f)).den E).toNat*(r.nk f).length:=hj
   rw [List.getElem?_map,range_idx hjj,Option.map_some,AE.den]
   cases hsk':(r.nk f).getD (j % (r.nk f).length) default with
   |int kk=>rfl
   |bool=>rfl
   |opq=>rw [hsk'] at hsk;cases hsk
 obtain ⟨V,hV⟩: ∃V:Env,V={ E with i:=fun j=>if j<500+r.m then (if (β (2+(j - 500))).z=true then -1 else ((β (2+(j - 500))).a:Int)) else ((β (2+(j - 500 - r.m))).c:Int) }:=⟨_,rfl⟩
 obtain ⟨bk,hbk⟩: ∃bk:Bk,bk={ a:=g,z:=false,n:=n+1,c:=cap }:=⟨_,rfl⟩
 have hbv:bk.v=v':=by rw [hbk,r4];rfl
 have H:AgE 500 E (E.upd xb (2*r.m) V):=Env.upd_ag E xb (2*r.m) V
 obtain ⟨E2,hE2⟩: ∃E2,E2=E.upd xb (2*r.m) V:=⟨_,rfl⟩
 rw [←hE2] at H
 have hE2f:E2.fn=fns:=by rw [H.fn,hE]
 have hiB: ∀f,f<r.m→E2.i (500+f)=if (β (2+f)).z=true then -1 else ((β (2+f)).a:Int):=fun f hf=>by
  rw [hE2]
  show (if xb≤500+f∧500+f<xb+2*r.m then V.i (xb+(500+f - xb)) else _)=_
  rw [if_pos ⟨by unfold xb;omega,by unfold xb;omega⟩,hV]
  have:xb+(500+f - xb)=500+f:=by unfold xb;omega
  simp only [this]
  rw [if_pos (by omega)]
  have:500+f - 500=f:=by omega
  rw [this]
 have hiK: ∀f,f<r.m→E2.i (500+r.m+f)=((β (2+f)).c:Int):=fun f hf=>by
  rw [hE2]
  show (if xb≤500+r.m+f∧500+r.m+f<xb+2*r.m then V.i (xb+(500+r.m+f - xb)) else _)=_
  rw [if_pos ⟨by unfold xb;omega,by unfold xb;omega⟩,hV]
  have:xb+(500+r.m+f - xb)=500+r.m+f:=by unfold xb;omega
  simp only [this]
  rw [if_neg (by omega)]
  have:500+r.m+f - 500 - r.m=f:=by omega
  rw [this]
 have hi0:E2.i 0=n:=by rw [H.i 0 (by omega),hn]
 have hvlt: ∀f,f<r.m→20+f<500:=fun f hf=>by
  have:=List.all_eq_true.1 hb2 _ (List.mem_of_getElem? (hgf f hf))
  simp only [SBlk.vb,AE.vb,SE.vb,SV.vbL,Bool.and_true,Bool.and_eq_true,decide_eq_true_eq] at this
  exact this.1
 have hi20: ∀f,f<r.m→E2.i (20+f)=E.i (20+f)∧E2.a (20+f)=E.a (20+f):=fun f hf=>⟨H.i _ (hvlt f hf),H.a _ (hvlt f hf)⟩
 have hn1':((SE.add (.v 0) (.c 1)).den E2).toNat=n+1:=by simp only [d_add,d_v,d_c,hi0];omega
 have hmul: ∀c:Nat,((SE.mul (.v 0) (.c (c:Int))).den E2).toNat=n*c:=fun c=>by
  simp only [d_mul,d_v,d_c,hi0]
  rw [←Int.natCast_mul,Int.toNat_natCast]
 have hB: ∀j,(AE.tl (.v 1) (.mul (.v 0) (.c (r.m:Nat))) (slV 500 r.m)).den E2 j=if j<n*r.m then E.a 1 j else (slV 500 r.m).nth E2 (j - n*r.m):=fun j=>by
  simp only [AE.den,hmul];rw [H.a 1 (by omega)]
 have hL: ∀j,(AE.tl (.v 2) (.mul (.v 0) (.c (r.m:Nat))) (slV 20 r.m)).den E2 j=if j<n*r.m then E.a 2 j else (slV 20 r.m).nth E2 (j - n*r.m):=fun j=>by
  simp only [AE.den,hmul];rw [H.a 2 (by omega)]
 have hK: ∀j,(AE.tl (.v 3) (.mul (.v 0) (.c (r.m:Nat))) (slV (500+r.m) r.m)).den E2 j=if j<n*r.m then E.a 3 j else (slV (500+r.m) r.m).nth E2 (j - n*r.m):=fun j=>by
  simp only [AE.den,hmul];rw [H.a 3 (by omega)]
 have hcat: ∀t,t≤r.m→(∀j,j<n*r.m*r.W→(r.cat kc t).den E2 j=E.a 4 j)∧(∀f,f<t→ ∀j,j<r.W→(r.cat kc t).den E2 ((n*r.m+f)*r.W+j)=E.a (20+f) j):=by
  intro t
  induction t with
  |zero=>exact fun _=>⟨fun j _=>by simp only [RecP.cat,AE.den];rw [H.a 4 (by omega)],fun f hf=>by omega⟩
  |succ t ih=>
   intro ht'
   obtain ⟨i1,i2⟩:=ih (by omega)
   have hbase:((SE.add (.mul (.v 0) (.c (r.m*r.W:Nat))) (.c (t*r.W:Nat))).den E2).toNat=(n*r.m+t)*r.W:=by
    simp only [d_add,d_mul,d_v,d_c,hi0]
    rw [←Int.natCast_mul,←Int.natCast_add,Int.toNat_natCast,Nat.add_mul,Nat.mul_assoc]
   have hden: ∀j,(r.cat kc (t+1)).den E2 j=if j<(n*r.m+t)*r.W then (r.cat kc t).den E2 j else E.a (20+t) (j - (n*r.m+t)*r.W):=fun j=>by
    show E2.fn.a kc [.a ((r.cat kc t).den E2),.i ((SE.add (.mul (.v 0) (.c (r.m*r.W:Nat))) (.c (t*r.W:Nat))).den E2),.a ((AE.v (20+t)).den E2)] j=_
    rw [hE2f,hR.cat,hbase]
    have:(AE.v (20+t)).den E2=E.a (20+t):=by funext y;simp only [AE.den];rw [(hi20 t (by omega)).2]
    rw [this]
   refine ⟨fun j hj=>?_,fun f hf j hj=>?_⟩
   ·rw [hden,if_pos (by rw [Nat.add_mul];omega)];exact i1 j hj
   ·rw [hden]
    by_cases hft:f=t
    ·subst hft
     rw [if_neg (by omega),Nat.add_sub_cancel_left]
    ·have hlt:(n*r.m+f)*r.W+j<(n*r.m+t)*r.W:=mul_lt (by omega) hj
     rw [if_pos hlt];exact i2 f (by omega) j hj
 have hownv: ∀f,f<r.m→(β (2+f)).v=rawS (E2.i (500+f)) (E2.i (20+f)) (E2.i (500+r.m+f)):=fun f hf=>by
  rw [hiB f hf,hiK f hf,(hi20 f hf).1]
  unfold rawS Bk.v
  rcases hrow f hf with ⟨h1,h2⟩|⟨h1,h2,h3,_⟩
  ·rw [h1];simp
  ·simp [h1,h2,h3]
 have hft: ∀x,RecFt r (n+1) ((AE.tl (.v 1) (.mul (.v 0) (.c (r.m:Nat))) (slV 500 r.m)).den E2) v' x→x=g∨RecFt r n (E.a 1) (β 0).v x∨ ∃f,f<r.m∧(β (2+f)).z=false∧x=(β (2+f)).a:=by
  rintro x (h|⟨i',f,h1,h2,h3,h4⟩)
  ·left;rw [r4] at h;simpa [Value.ownBlock] using h.symm
  ·right
   rw [hB] at h3 h4
   by_cases hi':i'<n
   ·have hlt:i'*r.m+f<n*r.m:=mul_lt hi' h2
    rw [if_pos hlt] at h3 h4
    exact .inl (.inr ⟨i',f,hi',h2,h3,h4⟩)
   ·have hin:i'=n:=by omega
    subst hin
    rw [if_neg (by omega),Nat.add_sub_cancel_left,slV_nth E2 r.m 500 f h2,hiB f h2] at h3 h4
    right
    refine ⟨f,h2,?_⟩
    cases hz':(β (2+f)).z with
    |true=>rw [hz'] at h3;simp at h3
    |false=>rw [hz'] at h4;exact ⟨rfl,by simpa using h4⟩
 have hat0: ∀x,(recV k).at E (β 0) x↔RecFt r n (E.a 1) (β 0).v x:=fun x=>by
  show E.fn.ft k ((SL.i (.v 0) (.a (.v 0) (.a (.v 1) (.a (.v 2) (.a (.v 3) (.a (.v 4) .nil)))))).den E) (β 0).a (β 0).v x↔_
  rw [hE]
  have:=hR.ft ((SE.v 0).den E) ((AE.v 0).den E) ((AE.v 1).den E) ((AE.v 2).den E) ((AE.v 3).den E) ((AE.v 4).den E) (β 0).a (β 0).v x
  rw [hnn] at this
  have h1:(AE.v 1).den E=E.a 1:=by funext j;simp only [AE.den]
  rw [h1] at this
  exact this
 have hkc0:r.killed.contains 0=true:=by simp [RecP.killed]
 have hkcf: ∀f,f<r.m→r.killed.contains (2+f)=true:=fun f hf=>by
  simp only [RecP.killed,List.contains_cons,Bool.or_eq_true,List.contains_iff_mem,List.mem_map,List.mem_range]
  exact .inr ⟨f,hf,by omega⟩
 have hkill: ∀j,r.killed.contains j=true→j=0∨ ∃f,f<r.m∧j=2+f:=fun j hj=>by
  simp only [RecP.killed,List.contains_cons,Bool.or_eq_true,beq_iff_eq,List.contains_iff_mem,List.mem_map,List.mem_range] at hj
  rcases hj with h|⟨f,h1,h2⟩
  ·exact .inl h
  ·exact .inr ⟨f,h1,by omega⟩
 have hblk: ∀b,b<w.heap.size→(β 0).v.ownBlock≠some b→w'.heap[b]?=w.heap[b]?:=fun b hb hne=>r3.block b hb fun hh=>hne hh.symm
 have hnel: ∀f,f<r.m→(β (2+f)).z=false→(β 0).v.ownBlock≠some (β (2+f)).a:=fun f hf hz' hh=>by
  have:=hw.dis 0 (2+f) _ _ _ hg0 (hgf f hf) ((hat0 _).2 (.inl hh)) ⟨hz',rfl⟩
  omega
 have hrec':RecIs r (n+1) ((AE.tl (.v 0) (.mul (.v 0) (.c (r.S:Nat))) (r.sl (List.range r.S))).den E2) ((AE.tl (.v 1) (.mul (.v 0) (.c (r.m:Nat))) (slV 500 r.m)).den E2) ((AE.tl (.v 2) (.mul (.v 0) (.c (r.m:Nat))) (slV 20 r.m)).den E2)
  ((AE.tl (.v 3) (.mul (.v 0) (.c (r.m:Nat))) (slV (500+r.m) r.m)).den E2) ((r.cat kc r.m).den E2) v' w':=by
  obtain ⟨hc1',hc2'⟩:=hcat r.m (Nat.le_refl _)
  refine ⟨fun j=>if j<n*r.S then q j else (r.pat (j - n*r.S)).den E β,?_,fun i' f hi' hf=>?_⟩
  ·have heq:((List.range (n*r.S)).map fun j=>(r.ks.getD (j % r.S) default).val (E.a 0 j) (q j))++SV.denL E β r.pats=(List.range ((n+1)*r.S)).map fun j=>(r.ks.getD (j % r.S) default).val ((AE.tl (.v 0) (.mul (.v 0) (.c (r.S:Nat))) (r.sl (List.range r.S))).den E2 j) (if j<n*r.S then q j else (r.pat (j - n*r.S)).den E β):=by
    apply List.ext_getElem?
    intro j
    by_cases hj:j<n*r.S
    ·rw [List.getElem?_append_left (by simpa using hj),List.getElem?_map,range_idx hj,List.getElem?_map,range_idx (by rw [Nat.add_mul];omega)]
     simp only [Option.map_some,if_pos hj,AE.den,hmul]
     rw [H.a 0 (by omega)]
    ·rw [List.getElem?_append_right (by simpa using hj)]
     simp only [List.length_map,List.length_range]
     by_cases hj2:j<(n+1)*r.S
     ·have hjc:j - n*r.S<r.S:=by rw [Nat.add_mul] at hj2;omega
      have hmod:j % r.S=j - n*r.S:=by
       obtain ⟨c,hc⟩: ∃c,j=n*r.S+c:=⟨j - n*r.S,by omega⟩
       rw [hc,Nat.add_sub_cancel_left,Nat.mul_comm,Nat.mul_add_mod,Nat.mod_eq_of_lt (by omega)]
      rw [hpat _ hjc,List.getElem?_map,range_idx hj2]
      simp only [Option.map_some,if_neg hj,AE.den,hmul,hmod]
      rw [RecP.sl_nth r E2 (List.range r.S) _ _ (range_idx hjc)]
      congr 1
      unfold RecP.pat RecP.num
      cases hidx:r.idx (j - n*r.S) with
      |some f=>
       obtain ⟨a1,a2⟩:=RecP.idx_some hidx
       have:=(RecP.good_f hR.good a1).2.2.1
       rw [a2] at this
       simp only [this,SK.val]
      |none=>
       have hs:=RecP.good_j hR.good hjc hidx
       have hlt10:r.ks.getD (j - n*r.S) default≠ .opq→10+(j - n*r.S)<500:=fun hno=>by
        have hv2:=List.all_eq_true.1 hb2 _ (List.mem_of_getElem? hg1)
        simp only [SBlk.vb] at hv2
        have: ∀(l:List SV),SV.vbL 500 l=true→ ∀u∈l,u.vb 500=true:=fun l=>by
         induction l with
         |nil=>intro _ u hu;cases hu
         |cons y t ih=>intro h u hu;simp only [SV.vbL,Bool.and_eq_true] at h;rcases List.mem_cons.1 hu with rfl|hu;exact h.1;exact ih h.2 u hu
        have hm:=this _ hv2 (r.pat (j - n*r.S)) (List.mem_map.2 ⟨_,List.mem_range.2 hjc,rfl⟩)
        unfold RecP.pat at hm
        rw [hidx] at hm
        cases hk':r.ks.getD (j - n*r.S) default with
        |int kk=>simp only [hk',SV.vb,SE.vb,decide_eq_true_eq] at hm;exact hm
        |bool=>simp only [hk',SV.vb,SB.vb,decide_eq_true_eq] at hm;exact hm
        |opq=>exact (hno hk').elim
       cases hk':r.ks.getD (j - n*r.S) default with
       |int kk=>simp only [SV.den,SE.den,SK.val];rw [H.i _ (hlt10 (by rw [hk'];simp))]
       |bool=>
        simp only [SV.den,SB.den,SK.val]
        rw [H.b _ (hlt10 (by rw [hk'];simp))]
        cases E.b (10+(j - n*r.S))<;>rfl
       |opq=>rw [hk'] at hs;cases hs
     ·rw [List.getElem?_eq_none (by rw [denL_length];simp [RecP.pats];rw [Nat.add_mul] at hj2;omega),List.getElem?_eq_none (by simpa using hj2)]
   rw [←heq]
   have:(AE.v 0).den E=E.a 0:=by funext j;simp only [AE.den]
   rw [this] at r2
   exact r2
  ·by_cases hin:i'<n
   ·obtain ⟨a,b,c⟩:=hq2 i' f hin hf
    have hlt:i'*r.m+f<n*r.m:=mul_lt hin hf
    have hltS:i'*r.S+r.col f<n*r.S:=mul_lt hin (RecP.good_f hR.good hf).2.1
    show (if i'*r.S+r.col f<n*r.S then q (i'*r.S+r.col f) else (r.pat (i'*r.S+r.col f - n*r.S)).den E β)=_∧_
    rw [hB,hL,hK,if_pos hlt,if_pos hlt,if_pos hlt,if_pos hltS]
    simp only [AE.den] at a b c
    refine ⟨a,⟨b.1,?_⟩,fun hB0=>?_⟩
    ·have b2:=b.2
     split
     ·rename_i hB0
      rw [if_pos hB0] at b2
      obtain ⟨cs,T,fz,d1,d2⟩:=b2
      refine ⟨cs,T,fz,?_,fun j hj=>?_⟩
      ·rw [hblk _ (Array.getElem?_eq_some_iff.1 d1).1 (c hB0)];exact d1
      ·rw [d2 j hj,hc1' _ (mul_lt hlt (by have:=b.1;omega))]
     ·rename_i hB0
      rw [if_neg hB0] at b2;exact b2
    ·rw [r4]
     simp only [Value.ownBlock,ne_eq,Option.some.injEq]
     intro hh
     have b2:=b.2
     rw [if_pos hB0] at b2
     obtain ⟨cs,T,fz,d1,_⟩:=b2
     have:=(Array.getElem?_eq_some_iff.1 d1).1
     rcases r5 with h|h
     ·omega
     ·rw [hh] at h;exact c hB0 h
   ·have hin':i'=n:=by omega
    subst hin'
    show (if i'*r.S+r.col f<i'*r.S then q (i'*r.S+r.col f) else (r.pat (i'*r.S+r.col f - i'*r.S)).den E β)=_∧_
    rw [hB,hL,hK,if_neg (by omega),if_neg (by omega),if_neg (by omega),if_neg (by omega),Nat.add_sub_cancel_left,Nat.add_sub_cancel_left,slV_nth E2 r.m 500 f hf,slV_nth E2 r.m 20 f hf,slV_nth E2 r.m (500+r.m) f hf]
    refine ⟨?_,⟨?_,?_⟩,fun hB0=>?_⟩
    ·unfold RecP.pat
     rw [(RecP.good_f hR.good hf).1]
     simp only [SV.den]
     exact hownv f hf
    ·have:=pf f hf
     rw [(hi20 f hf).1]
     rcases Int.lt_or_le (E.i (20+f)) 0 with h|h
     ·have:(E.i (20+f)).toNat=0:=by omega
      rw [this];omega
     ·obtain ⟨y,hy⟩:=Int.eq_ofNat_of_zero_le h
      rw [hy] at this⊢
      rw [Int.toNat_natCast]
      exact_mod_cast this
    ·rw [hiB f hf,(hi20 f hf).1]
     rcases hrow f hf with ⟨h1,h2⟩|⟨h1,h2,h3,cur,h4,h5⟩
     ·rw [h1];simp [h2]
     ·rw [h1]
      simp only [Bool.false_eq_true,if_false,Int.natCast_nonneg,if_true,Int.toNat_natCast]
      refine ⟨cur,r.nT f,(0,0),?_,fun j hj=>?_⟩
      ·rw [hblk _ (Array.getElem?_eq_some_iff.1 h4).1 (hnel f hf h1)];exact h4
      ·have hjW:j<r.W:=by
        have:=pf f hf
        rcases Int.lt_or_le (E.i (20+f)) 0 with h|h
        ·have:(E.i (20+f)).toNat=0:=by omega
         rw [this] at hj;omega
        ·obtain ⟨y,hy⟩:=Int.eq_ofNat_of_zero_le h
         rw [hy] at this hj
         rw [Int.toNat_natCast] at hj
         have h6:y*(r.nk f).length≤r.W:=by exact_mod_cast this
         omega
       rw [h5 j hj,hc2' f hf j hjW]
    ·rw [r4]
     simp only [Value.ownBlock,ne_eq,Option.some.injEq]
     intro hh
     rw [hiB f hf] at hB0 hh
     cases hz':(β (2+f)).z with
     |true=>rw [hz'] at hB0;simp at hB0
     |false=>
      rw [hz'] at hh
      simp only [Bool.false_eq_true,if_false,Int.toNat_natCast] at hh
      have:=hw.lt (2+f) _ _ (hgf f hf) ⟨hz',rfl⟩
      rcases r5 with h|h
      ·omega
      ·rw [hh] at h;exact hnel f hf hz' h
 have hden6:(SL.i (.add (.v 0) (.c 1)) (.a (.tl (.v 0) (.mul (.v 0) (.c (r.S:Nat))) (r.sl (List.range r.S))) (.a (.tl (.v 1) (.mul (.v 0) (.c (r.m:Nat))) (slV 500 r.m)) (.a (.tl (.v 2) (.mul (.v 0) (.c (r.m:Nat))) (slV 20 r.m)) (.a (.tl (.v 3) (.mul (.v 0) (.c (r.m:Nat))) (slV (500+r.m) r.m)) (.a (r.cat kc r.m) .nil)))))).den E2=
  [.i ((SE.add (.v 0) (.c 1)).den E2),.a ((AE.tl (.v 0) (.mul (.v 0) (.c (r.S:Nat))) (r.sl (List.range r.S))).den E2),.a ((AE.tl (.v 1) (.mul (.v 0) (.c (r.m:Nat))) (slV 500 r.m)).den E2),.a ((AE.tl (.v 2) (.mul (.v 0) (.c (r.m:Nat))) (slV 20 r.m)).den E2),.a ((AE.tl (.v 3) (.mul (.v 0) (.c (r.m:Nat))) (slV (500+r.m) r.m)).den E2),.a ((r.cat kc r.m).den E2)]:=rfl
 obtain ⟨k1,k2⟩:=HOk.absorb (E:=E) (E2:=E2) (β:=β) (h:=r.heapP k) (w:=w) (w':=w') (bk:=bk) (s1:=r.newB k kc) hw hb1 r.killed H hb2 r3.os r3.tape r3.output r3.size
  (fun c hc hn=>hblk c hc fun hh=>hn 0 _ hkc0 hg0 ((hat0 c).2 (.inl hh)))
  (fun j s' hj hs x hx=>by
    rcases hkill j hj with rfl|⟨f,hf,rfl⟩
    ·rw [hg0] at hs;cases hs;trivial
    ·rw [hgf f hf] at hs;cases hs;exact hx.1)
  (fun x hx=>by
    have hx':E2.fn.ft k _ bk.a bk.v x:=hx
    rw [hE2f,hden6,hR.ft,hn1',hbv] at hx'
    rcases hft x hx' with rfl|h|⟨f,h1,h2,rfl⟩
    ·refine ⟨r6,?_⟩
     rcases r5 with h|h
     ·exact .inl h
     ·exact .inr ⟨0,_,hkc0,hg0,(hat0 _).2 (.inl h)⟩
    ·have h':=(hat0 x).2 h
     have:=hw.lt 0 _ x hg0 h'
     exact ⟨by have:=r3.size;omega,.inr ⟨0,_,hkc0,hg0,h'⟩⟩
    ·have:=hw.lt (2+f) _ _ (hgf f h1) ⟨h2,rfl⟩
     exact ⟨by have:=r3.size;omega,.inr ⟨2+f,_,hkcf f h1,hgf f h1,h2,rfl⟩⟩)
  (by
    show E2.fn.p k _ bk.a bk.v w'
    rw [hE2f,hden6,hR.p,hn1',hbv]
    exact hrec')
 refine ⟨v',w',.inl ?_,fun h=>(by cases h),ctPostX (c:=(btRecApp TS k kc r).ct) V rfl ?_ (by rw [←show E2=E.upd xb (btRecApp TS k kc r).ct.nx V from hE2];exact k1) (by rw [←show E2=E.upd xb (btRecApp TS k kc r).ct.nx V from hE2];exact k2) (by intro q' hq';cases hq')⟩
 ·unfold execOp
  simp only [ho,resolve,invoke,builtin,Sem.run_bind,Sem.run_pure,Result.andThen_ok,List.map_toArray,List.map_cons,List.map_nil,e1',e2',r1]
 ·simp only [SV.den,hlen]
  rw [show 2+r.m=(r.heapP k).length from hlen.symm,upB_self,hbv]
end
section
variable {E E2:Env} {β:Nat→Bk} {P:Program} {w:World}
def btRecLen (TS k:Nat):Bt where
 sel op:=match op with
  | .call { callee:= .builtin .len,args:=⟨[s]⟩,argTypes:=⟨[t]⟩ }=>if t=TS then some [s] else none
  |_=>none
 rd:=true
 ct:={ g:=0,args:=[.own 0],heap:=[recV k],pre:=[(.le (.c 0) (.v 0),true)],alts:=[{ res:= .int .i64 (.v 0),post:=[recV k] }] }
def btRecIx (TS k:Nat) (r:RecP):Bt where
 sel op:=match op with
  | .indexAddr t x i=>if t=TS then some [x,i] else none
  |_=>none
 rd:=true
 ct:={ g:=0,args:=[.own 0,.int .i64 (.v 1)],heap:=[recV k],pre:=[(.le (.c 0) (.v 1),true),(.lt (.v 1) (.v 0),true)],alts:=[{ res:= .ptr 0 ⟨.v 1,r.S,0⟩,post:=[recV k] }] }
def RecP.ld (r:RecP) (c:Nat):SV:=
 match r.idx c with
 |some f=> .sa (.rd (.v 1) (.add (.mul (.v 1) (.c (r.m:Nat))) (.c (f:Nat)))) (.c 0) (.rd (.v 2) (.add (.mul (.v 1) (.c (r.m:Nat))) (.c (f:Nat)))) (.rd (.v 3) (.add (.mul (.v 1) (.c (r.m:Nat))) (.c (f:Nat))))
 |none=>match r.ks.getD c default with
  | .int k=> .int k (.rd (.v 0) (.add (.mul (.v 1) (.c (r.S:Nat))) (.c (c:Nat))))
  | .bool=> .bool (.not (.eq (.rd (.v 0) (.add (.mul (.v 1) (.c (r.S:Nat))) (.c (c:Nat)))) (.c 0)))
  | .opq=> .bool (.c true)
def btRecLd (T k:Nat) (r:RecP) (c:Nat):Bt where
 sel op:=match op with
  | .load t x=>if t=T then some [x] else none
  |_=>none
 rd:=true
 ct:={ g:=0,args:=[.ptr 0 ⟨.v 1,r.S,c⟩],heap:=[recV k],pre:=[(.le (.c 0) (.v 1),true),(.lt (.v 1) (.v 0),true)],alts:=[{ res:=r.ld c,post:=[recV k] }] }
def btRecAll (k:Nat) (r:RecP):Bt where
 sel op:=match op with
  | .load t x=>if t=r.T then some [x] else none
  |_=>none
 rd:=true
 ct:={ g:=0,args:=[.ptr 0 ⟨.v 1,r.S,0⟩],heap:=[recV k],pre:=[(.le (.c 0) (.v 1),true),(.lt (.v 1) (.v 0),true)],alts:=[{ res:= .agg ((List.range r.S).map r.ld),post:=[recV k] }] }
theorem rec_of {fns:Fns} {k kc:Nat} {r:RecP} (hR:RecOk fns k kc r) (hE:E.fn=fns) (hw:HOk E β [recV k] w):RecIs r (E.i 0).toNat (E.a 0) (E.a 1) (E.a 2) (E.a 3) (E.a 4) (β 0).v w:=by
 have h:E.fn.p k ((SL.i (.v 0) (.a (.v 0) (.a (.v 1) (.a (.v 2) (.a (.v 3) (.a (.v 4) .nil)))))).den E) (β 0).a (β 0).v w:=hw.ok 0 _ rfl
 rw [hE] at h
 have:=(hR.p _ _ _ _ _ _ _ _ _).1 h
 have e: ∀i,(AE.v i).den E=E.a i:=fun i=>by funext j;simp only [AE.den]
 rw [e,e,e,e,e] at this
 exact this
theorem rec_v {r:RecP} {n:Nat} {A B L K C:Nat→Int} {bk:Bk} (h:RecIs r n A B L K C bk.v w):(bk.z=true∧n=0∧bk.v= .slice none 0 0)∨(bk.z=false∧bk.o=0∧bk.n=n∧bk.v= .slice (some ⟨bk.a,0,none⟩) n bk.c):=by
 obtain ⟨q,h1,_⟩:=h
 rcases h1.2 with ⟨hv,hn⟩|⟨g,cap,cur,hv,_⟩
 ·left
  cases hz:bk.z with
  |true=>exact ⟨rfl,hn,hv⟩
  |false=>simp [Bk.v,hz] at hv
 ·right
  cases hz:bk.z with
  |true=>simp [Bk.v,hz] at hv
  |false=>
   simp [Bk.v,hz] at hv
   obtain ⟨⟨e1,e2⟩,e3,e4⟩:=hv
   exact ⟨rfl,e2,e3,by simp [Bk.v,hz,e2,e3]⟩
theorem bt_one {E:Env} {β:Nat→Bk} {w:World} {b:Bt} {a:Alt} {v:Value} (hrd:b.rd=true) (ha:altSel E b.ct.alts=some a) (hnx:b.ct.nx=0) (hxf:a.xf=[]) (hpost:a.post=b.ct.heap) (hv:v=a.res.den E β) (hw:HOk E β b.ct.heap w) {eval:Operand→Value} {o:Oper}
 (hrun:(execOp eval o).run P w= .ok (.value v) w):
 ∃v w',((execOp eval o).run P w= .ok (.value v) w'∨(b.rd=false∧(execOp eval o).run P w= .ok .skip w'∧v=undef))∧(b.rd=true→w'=w)∧ctPost E β w b.ct (.returned v) w':=
 ⟨v,w,.inl hrun,fun _=>rfl,ext_same E _ β w _ _ rfl ha hnx hxf hpost (by rw [hv]) hw⟩
theorem btRecLen_ok {fns:Fns} {TS k kc:Nat} {r:RecP} (hR:RecOk fns k kc r) {e:TypeId} (ht:P.underlying TS=some (.slice e)):BtOk P fns (btRecLen TS k):=by
 intro E β w hE _ hw hF
 refine ⟨fun a ha=>(by cases ha;intro q hq;cases hq),fun eval o xs hsel hxs=>?_⟩
 have hsel': ∃s,o.op= .call { callee:= .builtin .len,args:= #[s],argTypes:= #[TS] }∧xs=[s]:=by
  unfold btRecLen at hsel
  simp only at hsel
  split at hsel
  ·rename_i s t ho
   split at hsel
   ·rename_i htt
    subst htt
    cases hsel
    exact ⟨s,ho,rfl⟩
   ·cases hsel
  ·cases hsel
 obtain ⟨s,ho,rfl⟩:=hsel'
 simp only [btRecLen,List.map_cons,List.map_nil,SV.denL,List.cons.injEq,and_true] at hxs
 have p0:0≤E.i 0:=of_decide_eq_true (hF (.le (.c 0) (.v 0),true) (by simp [btRecLen]))
 refine bt_one (b:=btRecLen TS k) rfl rfl rfl rfl rfl rfl hw ?_
 unfold execOp
 simp only [ho,resolve,invoke,Sem.run_bind,Sem.run_pure,Result.andThen_ok,List.map_toArray,List.map_cons,List.map_nil,hxs,SV.den]
 rcases rec_v (rec_of hR hE hw) with ⟨_,h2,h3⟩|⟨_,_,_,h3⟩
 ·rw [h3]
  simp [builtin,Builtin.len_,underlying,ht,goInt,SE.den]
  omega
 ·rw [h3]
  simp [builtin,Builtin.len_,underlying,ht,goInt,SE.den]
  omega
theorem btRecIx_ok {fns:Fns} {TS k kc:Nat} {r:RecP} (hR:RecOk fns k kc r) (ht:P.underlying TS=some (.slice r.T)) (hs:sizeT P r.T=some r.S):BtOk P fns (btRecIx TS k r):=by
 intro E β w hE _ hw hF
 refine ⟨fun a ha=>(by cases ha;intro q hq;cases hq),fun eval o xs hsel hxs=>?_⟩
 have hsel': ∃s i,o.op= .indexAddr TS s i∧xs=[s,i]:=by
  unfold btRecIx at hsel
  simp only at hsel
  split at hsel
  ·rename_i t s i ho
   split at hsel
   ·rename_i htt
    subst htt
    cases hsel
    exact ⟨s,i,ho,rfl⟩
   ·cases hsel
  ·cases hsel
 obtain ⟨s,ix,ho,rfl⟩:=hsel'
 simp only [btRecIx,List.map_cons,List.map_nil,SV.denL,List.cons.injEq,and_true] at hxs
 obtain ⟨e1,e2⟩:=hxs
 have p0:0≤E.i 1:=of_decide_eq_true (hF (.le (.c 0) (.v 1),true) (by simp [btRecIx]))
 have p1:E.i 1<E.i 0:=of_decide_eq_true (hF (.lt (.v 1) (.v 0),true) (by simp [btRecIx]))
 refine bt_one (b:=btRecIx TS k r) rfl rfl rfl rfl rfl rfl hw ?_
 unfold execOp
 simp only [ho]
 refine val_run ?_
 rw [e1,e2]
 rcases rec_v (rec_of hR hE hw) with ⟨_,h2,h3⟩|⟨h1,h2,h4,h3⟩
 ·omega
 ·simp only [SV.den]
  rw [h3]
  simp only [Instr.indexAt,SV.den,asIntOf,Sem.run_bind,Sem.run_pure,Result.andThen_ok,underlying,run_program,ht,SE.den]
  have hlt:E.i 1<(((E.i 0).toNat:Nat):Int):=by omega
  simp only [p0,hlt,and_self,if_true,Sem.run_bind,sizeT_ok hs,Result.andThen_ok,Sem.run_pure,addr_add,Off.den,Nat.zero_add,Nat.add_zero,h2,SE.den]
theorem rec_cell {r:RecP} (hg:r.good=true) {n:Nat} {A B L K C:Nat→Int} {bk:Bk} (h:RecIs r n A B L K C bk.v w) {i c:Nat} (hi:i<n) (hc:c<r.S):
 w.cell? ⟨bk.a,bk.o+(i*r.S+c),none⟩=some (match r.idx c with|some f=>rawS (B (i*r.m+f)) (L (i*r.m+f)) (K (i*r.m+f))|none=>match r.ks.getD c default with| .int k=> .int k (A (i*r.S+c))| .bool=> .bool (A (i*r.S+c) !=0)| .opq=> .nilIface):=by
 rcases rec_v h with ⟨_,h2,_⟩|⟨h1,h2,h4,h3⟩
 ·omega
 ·obtain ⟨q,g1,g2⟩:=h
  rw [h3] at g1
  rcases g1.2 with ⟨hv,_⟩|⟨g,cap,cur,hv,_,hg2,_,_,hcs,hx⟩
  ·cases hv
  ·simp only [Value.slice.injEq,Option.some.injEq,Addr.mk.injEq] at hv
   obtain ⟨⟨e1,_⟩,_,_⟩:=hv
   have hlt:i*r.S+c<n*r.S:=mul_lt hi hc
   have hcur:(cur.toList.take (n*r.S))[i*r.S+c]?=((List.range (n*r.S)).map fun j=>(r.ks.getD (j % r.S) default).val (A j) (q j))[i*r.S+c]?:=by rw [hx]
   rw [List.getElem?_take_of_lt hlt,List.getElem?_map,range_idx hlt,Option.map_some] at hcur
   simp only [World.cell?,h2,Nat.zero_add,e1,hg2]
   rw [←Array.getElem?_toList,hcur]
   have hmod:(i*r.S+c) % r.S=c:=by rw [Nat.mul_comm,Nat.mul_add_mod,Nat.mod_eq_of_lt hc]
   rw [hmod]
   simp only [Option.isSome_none,Bool.false_eq_true,if_false]
   congr 1
   cases hidx:r.idx c with
   |some f=>
    obtain ⟨a1,a2⟩:=RecP.idx_some hidx
    have:=(RecP.good_f hg a1).2.2.1
    rw [a2] at this
    rw [this]
    simp only [SK.val]
    have h5:=(g2 i f hi a1).1
    rw [a2] at h5
    exact h5
   |none=>
    have:=RecP.good_j hg hc hidx
    cases hk:r.ks.getD c default with
    |int kk=>rfl
    |bool=>rfl
    |opq=>rw [hk] at this;cases this
theorem rec_ld {fns:Fns} {k kc:Nat} {r:RecP} (hR:RecOk fns k kc r) (hE:E.fn=fns) (hw:HOk E β [recV k] w) (p0:0≤E.i 1) (p1:E.i 1<E.i 0) {c:Nat} (hc:c<r.S):
 w.cell? ⟨(β 0).a,(β 0).o+((E.i 1).toNat*r.S+c),none⟩=some ((r.ld c).den E β):=by
 rw [rec_cell hR.good (rec_of hR hE hw) (i:=(E.i 1).toNat) (by omega) hc]
 obtain ⟨y,hy⟩:=Int.eq_ofNat_of_zero_le p0
 have e1: ∀a b:Nat,(E.i 1*(a:Int)+(b:Int)).toNat=(E.i 1).toNat*a+b:=fun a b=>by
  rw [hy,Int.toNat_natCast,←Int.natCast_mul,←Int.natCast_add,Int.toNat_natCast]
 congr 1
 unfold RecP.ld
 cases hidx:r.idx c with
 |some f=>
  simp only [SV.den,rawS,SE.den,AE.den,e1,Int.toNat_zero]
 |none=>
  cases hk:r.ks.getD c default with
  |int kk=>simp only [SV.den,SE.den,AE.den,e1]
  |bool=>
   simp only [SV.den,SB.den,SE.den,AE.den,e1]
   by_cases h:E.a 0 ((E.i 1).toNat*r.S+c)=0<;>simp [h,bne]
  |opq=>
   have:=RecP.good_j hR.good hc hidx
   rw [hk] at this;cases this
theorem btRecLd_ok {fns:Fns} {T k kc:Nat} {r:RecP} {c:Nat} (hR:RecOk fns k kc r) (hc:c<r.S) (ha:isAggT P T=some false):BtOk P fns (btRecLd T k r c):=by
 intro E β w hE _ hw hF
 refine ⟨fun a ha=>(by cases ha;intro q hq;cases hq),fun eval o xs hsel hxs=>?_⟩
 have hsel': ∃s,o.op= .load T s∧xs=[s]:=by
  unfold btRecLd at hsel
  simp only at hsel
  split at hsel
  ·rename_i t s ho
   split at hsel
   ·rename_i htt
    subst htt
    cases hsel
    exact ⟨s,ho,rfl⟩
   ·cases hsel
  ·cases hsel
 obtain ⟨s,ho,rfl⟩:=hsel'
 simp only [btRecLd,List.map_cons,List.map_nil,SV.denL,List.cons.injEq,and_true] at hxs
 have p0:0≤E.i 1:=of_decide_eq_true (hF (.le (.c 0) (.v 1),true) (by simp [btRecLd]))
 have p1:E.i 1<E.i 0:=of_decide_eq_true (hF (.lt (.v 1) (.v 0),true) (by simp [btRecLd]))
 have hcell:=rec_ld hR hE hw p0 p1 hc
 refine bt_one (b:=btRecLd T k r c) rfl rfl rfl rfl rfl rfl hw ?_
 unfold execOp
 simp only [ho]
 refine val_run ?_
 rw [hxs]
 simp only [Instr.loadAt,SV.den,Instr.sureAddr,Sem.run_bind,Sem.run_pure,Result.andThen_ok,loadVar,isAggT_ok ha,Off.den,SE.den]
 simp [hcell]
theorem btRecAll_ok {fns:Fns} {k kc:Nat} {r:RecP} (hR:RecOk fns k kc r) (ha:isAggT P r.T=some true) (hs:sizeT P r.T=some r.S):BtOk P fns (btRecAll k r):=by
 intro E β w hE _ hw hF
 refine ⟨fun a ha=>(by cases ha;intro q hq;cases hq),fun eval o xs hsel hxs=>?_⟩
 have hsel': ∃s,o.op= .load r.T s∧xs=[s]:=by
  unfold btRecAll at hsel
  simp only at hsel
  split at hsel
  ·rename_i t s ho
   split at hsel
   ·rename_i htt
    subst htt
    cases hsel
    exact ⟨s,ho,rfl⟩
   ·cases hsel
  ·cases hsel
 obtain ⟨s,ho,rfl⟩:=hsel'
 simp only [btRecAll,List.map_cons,List.map_nil,SV.denL,List.cons.injEq,and_true] at hxs
 have p0:0≤E.i 1:=of_decide_eq_true (hF (.le (.c 0) (.v 1),true) (by simp [btRecAll]))
 have p1:E.i 1<E.i 0:=of_decide_eq_true (hF (.lt (.v 1) (.v 0),true) (by simp [btRecAll]))
 refine bt_one (b:=btRecAll k r) rfl rfl rfl rfl rfl rfl hw ?_
 unfold execOp
 simp only [ho]
 refine val_run ?_
 rw [hxs]
 simp only [Instr.loadAt,SV.den,Instr.sureAddr,Sem.run_bind,Sem.run_pure,Result.andThen_ok,loadVar,isAggT_ok ha,if_true,sizeT_ok hs,Off.den,SE.den]
 have hl:(SV.denL E β ((List.range r.S).map r.ld)).length=r.S:=by rw [denL_length];simp
 have:=loadCells_ok (P:=P) (w:=w) ⟨(β 0).a,(β 0).o+((E.i 1).toNat*r.S+0),none⟩ (SV.denL E β ((List.range r.S).map r.ld)) (fun j u hj=>by
  have hjn:j<r.S:=by
   have:=(List.getElem?_eq_some_iff.1 hj).1
   rw [hl] at this;exact this
  rw [SV.denL_map,List.getElem?_map,List.getElem?_map,range_idx hjn] at hj
  simp only [Option.map_some,Option.some.injEq] at hj
  rw [addr_add,Nat.add_zero,Nat.add_assoc,rec_ld hR hE hw p0 p1 hjn,hj])
 rw [hl] at this
 rw [this]
 rfl
end
section
variable {E E2:Env} {β:Nat→Bk} {P:Program} {w:World}
structure QuP where
 T:TypeId
 S:Nat
 ent:SE→SE→List SV
 ks:List SK
 entP:List SV
 preP:Fx
def QuP.blk (q:QuP):SBlk:= .row (.v 7) q.ks (.c 0) q.entP q.T
def E00:Env:={ i:=fun _=>0,b:=fun _=>false,a:=fun _ _=>0,o:=fun _=> .nilIface,fn:={ f:=fun k l=>fbase k l,g:=fun k l=>gbase k l,a:=fun _ _ _=>0,fb:=fun _ _ _=>rfl,gb:=fun _ _ _=>rfl } }
def QuP.val (q:QuP) (s l:Int):List Value:=SV.denL E00 (fun _=>nilBk) (q.ent (.c s) (.c l))
structure QuGood (q:QuP):Prop where
 S0:0<q.S
 ksl:q.ks.length=q.S
 epl:q.entP.length=q.S
 len: ∀s l,(q.ent s l).length=q.S
 cell: ∀s l,∀u∈q.ent s l,u.isCell=true
 ext: ∀(E E':Env) (β β':Nat→Bk) (s s' l l':SE),s.den E=s'.den E'→l.den E=l'.den E'→SV.denL E β (q.ent s l)=SV.denL E' β' (q.ent s' l')
 pat: ∀(E:Env) (β:Nat→Bk),Facts E q.preP→SV.denL E β q.entP=SV.denL E β (q.ent (.v 1) (.v 9))
def QuAt (q:QuP) (w:World) (g off n c:Nat) (len:Int) (A:Nat→Int):Prop:=
 n≤c∧c≤maxLen∧(w.heap[g]?).isSome=true∧(∀j,j<c*q.S→(w.cell? ⟨g,off+j,none⟩).isSome=true∧w.frozen? ⟨g,off+j,none⟩=false)∧ ∀i j,i<n→j<q.S→w.cell? ⟨g,off+(i*q.S+j),none⟩=(q.val (A i) len)[j]?
def QuIs (q:QuP) (n:Nat) (len:Int) (A:Nat→Int) (v:Value) (w:World):Prop:=
 (v= .slice none 0 0∧n=0)∨ ∃g off c,v= .slice (some ⟨g,off,none⟩) n c∧QuAt q w g off n c len A
theorem QuAt.frame {q:QuP} {w w':World} {g off n c:Nat} {len:Int} {A:Nat→Int} (h:QuAt q w g off n c len A) (hs:w'.heap[g]?=w.heap[g]?):QuAt q w' g off n c len A:=by
 obtain ⟨h1,h2,h3,h4,h5⟩:=h
 refine ⟨h1,h2,by rw [hs];exact h3,fun j hj=>?_,fun i j hi hj=>?_⟩
 ·rw [World.cell?_of_block (a:=⟨g,off+j,none⟩) hs,World.frozen?_of_block (a:=⟨g,off+j,none⟩) hs];exact h4 j hj
 ·rw [World.cell?_of_block (a:=⟨g,off+(i*q.S+j),none⟩) hs];exact h5 i j hi hj
theorem QuIs.frame {q:QuP} {n:Nat} {len:Int} {A:Nat→Int} {v:Value} {w w':World} (h:QuIs q n len A v w) (hs: ∀x,v.ownBlock=some x→w'.heap[x]?=w.heap[x]?):QuIs q n len A v w':=by
 rcases h with h|⟨g,off,c,rfl,h⟩
 ·exact .inl h
 ·exact .inr ⟨g,off,c,rfl,h.frame (hs g rfl)⟩
structure QuOk (fns:Fns) (k:Nat) (q:QuP):Prop where
 p: ∀n l A a v w,fns.p k [.i n,.i l,.a A] a v w↔QuIs q n.toNat l A v w
 ft: ∀n l A a v x,fns.ft k [.i n,.i l,.a A] a v x↔v.ownBlock=some x
 good:QuGood q
theorem setCells_size (b:Nat): ∀(vs:List Value) (o:Nat) (w:World),(w.setCells b o vs).heap.size=w.heap.size
 |[],_,_=>rfl
 |v::r,o,w=>by rw [World.setCells,setCells_size b r];simp [World.setCell]
theorem setCells_some (b:Nat) (vs:List Value) (o:Nat) (w:World) (h: ∀j,j<vs.length→(w.cell? ⟨b,o+j,none⟩).isSome=true) (k:Nat) (hk:(w.cell? ⟨b,k,none⟩).isSome=true):((w.setCells b o vs).cell? ⟨b,k,none⟩).isSome=true:=by
 by_cases hin:o≤k∧k<o+vs.length
 ·have:=World.cell?_setCells_in b vs o w h (k - o) (by omega)
  rw [show o+(k - o)=k by omega] at this
  rw [this];rfl
 ·rw [World.cell?_setCells_out b vs o w ⟨b,k,none⟩ (fun _ _=>by show k<o∨o+vs.length≤k;omega)]
  exact hk
theorem tape_setCells (b:Nat): ∀(vs:List Value) (o:Nat) (w:World),(w.setCells b o vs).tape=w.tape
 |[],_,_=>rfl
 |v::r,o,w=>by rw [World.setCells,tape_setCells b r];rfl
end
section
variable {P:Program}
structure AgP (n:Nat) (E E':Env):Prop where
 i: ∀j,j<n→E'.i j=E.i j
 b: ∀j,j<n→E'.b j=E.b j
 a: ∀j,j<n→E'.a j=E.a j
 fn:E'.fn=E.fn
section
variable {n:Nat} {E E':Env}
mutual
theorem SE.den_agP (H:AgP n E E'): ∀(x:SE),x.vb n=true→x.den E'=x.den E
 | .c n,_=>rfl
 | .v i,h=>by simp only [SE.vb,decide_eq_true_eq] at h;exact H.i i h
 | .add x y,h| .sub x y,h| .mul x y,h| .tdiv x y,h| .tmod x y,h| .mn x y,h| .mx x y,h| .ni x y,h| .bits _ _ x y,h| .shl _ x y,h| .shr _ x y,h=>by
   simp only [SE.vb,Bool.and_eq_true] at h;simp only [SE.den,SE.den_agP H x h.1,SE.den_agP H y h.2]
 | .wrap _ x,h=>by simp only [SE.vb] at h;simp only [SE.den,SE.den_agP H x h]
 | .rd a o,h=>by simp only [SE.vb,Bool.and_eq_true] at h;simp only [SE.den,AE.den_agP H a h.1,SE.den_agP H o h.2]
 | .ite b x y,h=>by simp only [SE.vb,Bool.and_eq_true] at h;simp only [SE.den,SB.den_agP H b h.1,SE.den_agP H x h.2.1,SE.den_agP H y h.2.2]
 | .ap _ l,h=>by simp only [SE.vb] at h;simp only [SE.den,SL.den_agP H l h,H.fn]
theorem SB.den_agP (H:AgP n E E'): ∀(x:SB),x.vb n=true→x.den E'=x.den E
 | .c b,_=>rfl
 | .v i,h=>by simp only [SB.vb,decide_eq_true_eq] at h;exact H.b i h
 | .lt x y,h| .le x y,h| .eq x y,h=>by simp only [SB.vb,Bool.and_eq_true] at h;simp only [SB.den,SE.den_agP H x h.1,SE.den_agP H y h.2]
 | .not x,h=>by simp only [SB.vb] at h;simp only [SB.den,SB.den_agP H x h]
 | .beq x y,h| .and x y,h=>by simp only [SB.vb,Bool.and_eq_true] at h;simp only [SB.den,SB.den_agP H x h.1,SB.den_agP H y h.2]
 | .ap _ l,h=>by simp only [SB.vb] at h;simp only [SB.den,SL.den_agP H l h,H.fn]
theorem AE.den_agP (H:AgP n E E'): ∀(x:AE),x.vb n=true→x.den E'=x.den E
 | .v i,h=>by simp only [AE.vb,decide_eq_true_eq] at h;funext j;simp only [AE.den,H.a i h]
 | .ap _ l,h=>by simp only [AE.vb] at h;funext j;simp only [AE.den,SL.den_agP H l h,H.fn]
 | .tl a m l,h=>by simp only [AE.vb,Bool.and_eq_true] at h;funext j;simp only [AE.den,AE.den_agP H a h.1,SE.den_agP H m h.2.1,SL.nth_agP H l h.2.2]
 | .ct a m b,h=>by simp only [AE.vb,Bool.and_eq_true] at h;funext j;simp only [AE.den,AE.den_agP H a h.1,SE.den_agP H m h.2.1,AE.den_agP H b h.2.2]
 | .up a i x,h=>by simp only [AE.vb,Bool.and_eq_true] at h;funext j;simp only [AE.den,AE.den_agP H a h.1,SE.den_agP H i h.2.1,SE.den_agP H x h.2.2]
 | .dr a m,h=>by simp only [AE.vb,Bool.and_eq_true] at h;funext j;simp only [AE.den,AE.den_agP H a h.1,SE.den_agP H m h.2]
theorem SL.den_agP (H:AgP n E E'): ∀(x:SL),x.vb n=true→x.den E'=x.den E
 | .nil,_=>rfl
 | .i x r,h=>by simp only [SL.vb,Bool.and_eq_true] at h;simp only [SL.den,SE.den_agP H x h.1,SL.den_agP H r h.2]
 | .b x r,h=>by simp only [SL.vb,Bool.and_eq_true] at h;simp only [SL.den,SB.den_agP H x h.1,SL.den_agP H r h.2]
 | .a x r,h=>by simp only [SL.vb,Bool.and_eq_true] at h;simp only [SL.den,AE.den_agP H x h.1,SL.den_agP H r h.2]
theorem SL.nth_agP (H:AgP n E E'): ∀(x:SL),x.vb n=true→ ∀j,x.nth E' j=x.nth E j
 | .nil,_,_=>rfl
 | .i x r,h,j=>by simp only [SL.vb,Bool.and_eq_true] at h;simp only [SL.nth,SE.den_agP H x h.1,SL.nth_agP H r h.2]
 | .b x r,h,j=>by simp only [SL.vb,Bool.and_eq_true] at h;simp only [SL.nth,SB.den_agP H x h.1,SL.nth_agP H r h.2]
 | .a x r,h,j=>by simp only [SL.vb,Bool.and_eq_true] at h;simp only [SL.nth,SL.nth_agP H r h.2]
end
end
theorem AgP.refl (n:Nat) (E:Env):AgP n E E:=⟨fun _ _=>rfl,fun _ _=>rfl,fun _ _=>rfl,rfl⟩
theorem AgE.p {n:Nat} {E E':Env} (h:AgE n E E'):AgP n E E':=⟨h.i,h.b,h.a,h.fn⟩
theorem AgP.trans {m n:Nat} {E1 E2 E3:Env} (h:m≤n) (x:AgP m E1 E2) (y:AgP n E2 E3):AgP m E1 E3:=
 ⟨fun j hj=>(y.i j (by omega)).trans (x.i j hj),fun j hj=>(y.b j (by omega)).trans (x.b j hj),fun j hj=>(y.a j (by omega)).trans (x.a j hj),y.fn.trans x.fn⟩
theorem fnd_none {α:Type} {k:Nat}: ∀{l:List (Nat×α)},(∀q∈l,q.1≠k)→fnd k l=none
 |[],_=>rfl
 |q::r,h=>by
  unfold fnd
  rw [if_neg (h q (List.mem_cons_self ..))]
  exact fnd_none fun q' hq'=>h q' (List.mem_cons_of_mem _ hq')
theorem AgP.put {n:Nat} {E0 E:Env} (h:AgP n E0 E) {si:List (Nat×SE)} {sb:List (Nat×SB)} {sa:List (Nat×AE)} (o:Nat→Value) (h1:si.all (fun q=>Nat.ble n q.1)=true:=by rfl) (h2:sb.all (fun q=>Nat.ble n q.1)=true:=by rfl) (h3:sa.all (fun q=>Nat.ble n q.1)=true:=by rfl):AgP n E0 (E.put si sb sa o) where
 i k hk:=by
   show (match fnd k si with|some e=>e.den E|none=>E.i k)=_
   rw [fnd_none fun q hq he=>by
    have:=Nat.le_of_ble_eq_true (List.all_eq_true.1 h1 q hq)
    omega]
   exact h.i k hk
 b k hk:=by
   show (match fnd k sb with|some e=>e.den E|none=>E.b k)=_
   rw [fnd_none fun q hq he=>by
    have:=Nat.le_of_ble_eq_true (List.all_eq_true.1 h2 q hq)
    omega]
   exact h.b k hk
 a k hk:=by
   show (match fnd k sa with|some e=>e.den E|none=>E.a k)=_
   rw [fnd_none fun q hq he=>by
    have:=Nat.le_of_ble_eq_true (List.all_eq_true.1 h3 q hq)
    omega]
   exact h.a k hk
 fn:=h.fn
theorem AgP.facts {n:Nat} {E E':Env} (H:AgP n E E') {F:Fx} (hv:F.all (fun q=>q.1.vb n)=true) (h:Facts E F):Facts E' F:=fun q hq=>by
 rw [SB.den_agP H q.1 (List.all_eq_true.1 hv q hq)];exact h q hq
theorem facts_append {E:Env} {F G:Fx} (h1:Facts E F) (h2:Facts E G):Facts E (F++G):=fun q hq=>by
 rcases List.mem_append.1 hq with h|h
 ·exact h1 q h
 ·exact h2 q h
theorem Eqn.i_ag {n:Nat} {E E0:Env} (H:AgP n E0 E) (x:SE) (h:x.vb n=true):(Eqn.i x x).ok E E0:=SE.den_agP H x h
theorem Eqn.b_ag {n:Nat} {E E0:Env} (H:AgP n E0 E) (x:SB) (h:x.vb n=true):(Eqn.b x x).ok E E0:=SB.den_agP H x h
theorem Eqn.a_ag {n:Nat} {E E0:Env} (H:AgP n E0 E) (x:AE) (m:SE) (K:Nat) (h:x.vb n=true):(Eqn.a x x m K).ok E E0:=fun j _=>by rw [AE.den_agP H x h]
theorem Eqn.p_ag {n:Nat} {E E0:Env} (H:AgP n E0 E) (k:Nat) (x:SL) (h:x.vb n=true):(Eqn.p k x x).ok E E0:=Eqn.p_of H.fn (SL.den_agP H x h)
theorem QuIs.congr {q:QuP} {n:Nat} {len:Int} {A A':Nat→Int} {v:Value} {w:World} (h:QuIs q n len A v w) (hA: ∀j,j<n→A j=A' j):QuIs q n len A' v w:=by
 rcases h with h|⟨g,off,c,h1,h2,h3,h4,h5,h6⟩
 ·exact .inl h
 ·exact .inr ⟨g,off,c,h1,h2,h3,h4,h5,fun i j hi hj=>by rw [←hA i hi];exact h6 i j hi hj⟩
theorem RecIs.congr {r:RecP} {n:Nat} {A B L K C A' L' C':Nat→Int} {v:Value} {w:World} (h:RecIs r n A B L K C v w) (hA: ∀j,j<n*r.S→A j=A' j) (hL: ∀k,k<n*r.m→L k=L' k)
 (hC: ∀i f u,i<n→f<r.m→u<(L (i*r.m+f)).toNat*(r.nk f).length→C ((i*r.m+f)*r.W+u)=C' ((i*r.m+f)*r.W+u)):RecIs r n A' B L' K C' v w:=by
 obtain ⟨q,h1,h2⟩:=h
 refine ⟨q,?_,fun i f hi hf=>?_⟩
 ·have:(List.range (n*r.S)).map (fun j=>(r.ks.getD (j % r.S) default).val (A j) (q j))=(List.range (n*r.S)).map fun j=>(r.ks.getD (j % r.S) default).val (A' j) (q j):=by
   apply List.map_congr_left
   intro j hj
   rw [hA j (List.mem_range.1 hj)]
  rw [this] at h1;exact h1
 ·obtain ⟨a,b,c⟩:=h2 i f hi hf
  have hl:=hL _ (mul_lt hi hf)
  refine ⟨by rw [←hl];exact a,?_,c⟩
  unfold NestOk at b⊢
  rw [←hl]
  refine ⟨b.1,?_⟩
  have b2:=b.2
  split
  ·rename_i hB
   rw [if_pos hB] at b2
   obtain ⟨cs,T,fz,e1,e2⟩:=b2
   exact ⟨cs,T,fz,e1,fun j hj=>by rw [e2 j hj,hC i f j hi hf hj]⟩
  ·rename_i hB
   rw [if_neg hB] at b2;exact b2
theorem Eqn.recs {fns:Fns} {k kc:Nat} {r:RecP} (hR:RecOk fns k kc r) {E E0:Env} (hE:E.fn=fns) (hE0:E0.fn=fns) {n n':SE} {A B L K C A' B' L' K' C':AE} (hn:(n.den E).toNat=(n'.den E0).toNat) (hB:B.den E=B'.den E0) (hK:K.den E=K'.den E0)
 (hA: ∀j,j<(n'.den E0).toNat*r.S→A.den E j=A'.den E0 j) (hL: ∀k,k<(n'.den E0).toNat*r.m→L.den E k=L'.den E0 k)
 (hC: ∀i f u,i<(n'.den E0).toNat→f<r.m→u<(L.den E (i*r.m+f)).toNat*(r.nk f).length→C.den E ((i*r.m+f)*r.W+u)=C'.den E0 ((i*r.m+f)*r.W+u)):
 (Eqn.p k (.i n (.a A (.a B (.a L (.a K (.a C .nil)))))) (.i n' (.a A' (.a B' (.a L' (.a K' (.a C' .nil))))))).ok E E0:=fun a v w hp=>by
 rw [hE] at hp⊢
 rw [hE0]
 have h:=(hR.p _ _ _ _ _ _ _ _ _).1 hp
 rw [hn,hB,hK] at h
 refine ⟨(hR.p _ _ _ _ _ _ _ _ _).2 (h.congr hA hL hC),fun x hx=>?_⟩
 refine (hR.ft _ _ _ _ _ _ _ _ _).2 ?_
 have:=(hR.ft _ _ _ _ _ _ _ _ _).1 hx
 rw [hn,hB];exact this
end
section
variable {P:Program}
def idxE (m f:Nat):SE:=SE.mkAdd (SE.mkMul (.v 25) (.c (m:Nat))) (.c (f:Nat))
theorem idxE_den (m f:Nat) (E:Env):(idxE m f).den E=E.i 25*m+f:=by
 unfold idxE
 rw [SE.den_mkAdd,SE.den_mkMul];rfl
def idxP:Fx:=[(.le (.c 0) (.v 25),true),(.lt (.v 25) (.v 0),true)]
def nsV (ix:SE):SV:= .sa (.rd (.v 1) ix) (.c 0) (.rd (.v 2) ix) (.rd (.v 3) ix)
def IxOk (m f:Nat) (ix:SE) (pre:Fx):Prop:= ∀E:Env,Facts E pre→ ∃i:Nat,(i:Int)<E.i 0∧ix.den E=i*m+f
theorem idxE_ok (m f:Nat):IxOk m f (idxE m f) idxP:=fun E h=>by
 have p0:0≤E.i 25:=of_decide_eq_true (h (.le (.c 0) (.v 25),true) (by simp [idxP]))
 have p1:E.i 25<E.i 0:=of_decide_eq_true (h (.lt (.v 25) (.v 0),true) (by simp [idxP]))
 obtain ⟨z,hz⟩: ∃z:Nat,E.i 25=z:=⟨(E.i 25).toNat,by omega⟩
 exact ⟨z,by omega,by rw [idxE_den,hz]⟩
def btNsLen (TS k:Nat) (ix:SE) (pre:Fx):Bt where
 sel op:=match op with
  | .call { callee:= .builtin .len,args:=⟨[s]⟩,argTypes:=⟨[t]⟩ }=>if t=TS then some [s] else none
  |_=>none
 rd:=true
 ct:={ g:=0,args:=[nsV ix],heap:=[recV k],pre:=pre++[(.le (.c 0) (.rd (.v 2) ix),true)],alts:=[{ res:= .int .i64 (.rd (.v 2) ix),post:=[recV k] }] }
variable {E:Env} {β:Nat→Bk} {w:World}
theorem ns_of {fns:Fns} {k kc:Nat} {r:RecP} (hR:RecOk fns k kc r) {f:Nat} (hf:f<r.m) (hE:E.fn=fns) (hw:HOk E β [recV k] w) {ix:SE} {pre:Fx} (hix:IxOk r.m f ix pre) (hp:Facts E pre):
 ∃K:Nat,(ix.den E=(K:Int)∧(ix.den E).toNat=K)∧NestOk w (r.nk f) r.W (E.a 1 K) (E.a 2 K) (E.a 4) K:=by
 obtain ⟨q,_,h⟩:=rec_of hR hE hw
 obtain ⟨i,hi,he⟩:=hix E hp
 obtain ⟨_,b,_⟩:=h i f (by omega) hf
 have e:ix.den E=((i*r.m+f:Nat):Int):=by rw [he,Int.natCast_add,Int.natCast_mul]
 exact ⟨i*r.m+f,⟨e,by rw [e,Int.toNat_natCast]⟩,b⟩
theorem btNsLen_ok {fns:Fns} {TS k kc f:Nat} {r:RecP} (hR:RecOk fns k kc r) (hf:f<r.m) {ix:SE} {pre:Fx} (hix:IxOk r.m f ix pre) {e:TypeId} (ht:P.underlying TS=some (.slice e)):BtOk P fns (btNsLen TS k ix pre):=by
 intro E β w hE _ hw hF
 refine ⟨fun a ha=>(by cases ha;intro q hq;cases hq),fun eval o xs hsel hxs=>?_⟩
 have hsel': ∃s,o.op= .call { callee:= .builtin .len,args:= #[s],argTypes:= #[TS] }∧xs=[s]:=by
  unfold btNsLen at hsel
  simp only at hsel
  split at hsel
  ·rename_i s t ho
   split at hsel
   ·rename_i htt
    subst htt
    cases hsel
    exact ⟨s,ho,rfl⟩
   ·cases hsel
  ·cases hsel
 obtain ⟨s,ho,rfl⟩:=hsel'
 simp only [btNsLen,List.map_cons,List.map_nil,SV.denL,List.cons.injEq,and_true] at hxs
 have hp:Facts E pre:=fun q hq=>hF q (List.mem_append_left _ hq)
 have p2:0≤(SE.rd (.v 2) ix).den E:=of_decide_eq_true (hF (.le (.c 0) (.rd (.v 2) ix),true) (by simp [btNsLen]))
 obtain ⟨K,⟨hKi,hK⟩,b1,b2⟩:=ns_of hR hf hE hw hix hp
 have dr: ∀a:Nat,(SE.rd (.v a) ix).den E=E.a a K:=fun a=>by simp only [SE.den,AE.den,hK]
 rw [dr] at p2
 refine bt_one (b:=btNsLen TS k ix pre) rfl rfl rfl rfl rfl rfl hw ?_
 unfold execOp
 simp only [ho,resolve,invoke,Sem.run_bind,Sem.run_pure,Result.andThen_ok,List.map_toArray,List.map_cons,List.map_nil,hxs,nsV,SV.den,dr]
 by_cases hB:0≤E.a 1 K
 ·rw [if_pos hB]
  simp [builtin,Builtin.len_,underlying,ht,goInt]
  omega
 ·rw [if_neg hB]
  rw [if_neg hB] at b2
  simp [builtin,Builtin.len_,underlying,ht,goInt]
  omega
end
end Go.Sy
end
