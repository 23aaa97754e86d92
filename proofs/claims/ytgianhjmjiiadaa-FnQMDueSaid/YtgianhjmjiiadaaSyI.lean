/- New blocks by operations; calls; results. -/
import Derived.Test.YtgianhjmjiiadaaSyE
import Derived.Defers
import Derived.Orders
import Derived.ArgAppend
import Derived.Laws.Tables
section
section
set_option autoImplicit true
set_option relaxedAutoImplicit true
set_option linter.unusedVariables false
set_option linter.unusedSimpArgs false
namespace Go.Sy
open Go
variable {E:Env} {β:Nat→Bk} {P:Program} {w:World}
def zeros (z:List SV) (n:Nat):List SV:=(List.range n).map fun i=>z.getD (i % z.length) (.tup [])
theorem zeros_ok (z:List SV) (n:Nat) (hz:n=0∨z≠[]):(Array.range n).map (fun i=>((SV.denL E β z).toArray)[i % ((SV.denL E β z).toArray).size]!)=(SV.denL E β (zeros z n)).toArray:=by
 rw [SV.denL_map,SV.denL_map]
 apply Array.ext'
 simp only [zeros,Array.toList_map,Array.toList_range,List.map_map]
 apply List.map_congr_left
 intro i hi
 have hz':z≠[]:=by
  rcases hz with h|h
  ·subst h;simp at hi
  ·exact h
 have hlt:i % z.length<z.length:=Nat.mod_lt _ (by cases z<;>simp_all)
 simp [hlt]
def newOp (P:Program) (gm:Gm) (n:Nat) (tmps:Tm) (op:Op):Option (List SV×TypeId×SV):=
 match op with
 | .alloc T=>match sZero P T with
   |some l=>some (l,T,.ptr n Off.z)
   |none=>none
 | .box T x=>match ev gm tmps x with
   |some v=>match v.cells with
    |some l=>some (l,T,.ptr n Off.z)
    |none=>none
   |none=>none
 | .buildSlice T len parts=>match P.underlying T,evParts gm tmps parts.toList with
   |some (.slice e),some ps=>match sizeT P e,sZero P e with
    |some sz,some z=>if len*sz≤2^24∧len*sz≠0∧z.isEmpty=false then
      match sFill (fun i=>some (i*sz,sz)) (zeros z (len*sz)) ps with
      |some out=>some (out,e,.slice n Off.z (.c len) (.c len))
      |none=>none
     else none
    |_,_=>none
   |_,_=>none
 |_=>none
theorem newOp_ok {gm:Gm} (hg:gm.ok β) {n:Nat} {tmps:Tm} {ds:List Deferred} {o:Oper} {l:List SV} {S:TypeId} {v:SV} {β':Nat→Bk} (hβ:(β' n).a=w.heap.size) (hβo:(β' n).o=0)
 (hr:newOp P gm n tmps o.op=some (l,S,v)):(execOp (actD E β tmps ds).eval o).run P w= .ok (.value (v.den E β')) (w.alloc (.cells (SV.denL E β l).toArray S)):=by
 unfold execOp
 cases ho:o.op<;>simp only [ho,newOp] at hr<;>try (first|(cases hr;done))
 case alloc T=>
  split at hr
  ·rename_i l' hl
   cases hr
   obtain ⟨z,h1,h2⟩:=sZero_ok (E:=E) (β:=β) (w:=w) hl
   simp [Instr.alloc,h1,newVar,newRow,h2,SV.den,Off.den,Off.z,SE.den,hβ,hβo]
  ·cases hr
 case box T x=>
  split at hr
  ·rename_i u hu
   split at hr
   ·rename_i l' hl
    cases hr
    simp [Instr.box,ev_ok hg hu,newVar,newRow,cells_ok hl,SV.den,Off.den,Off.z,SE.den,hβ,hβo]
   ·cases hr
  ·cases hr
 case buildSlice T len parts=>
  split at hr
  ·rename_i e ps hd hps
   split at hr
   ·rename_i sz z hsz hz
    split at hr
    ·rename_i hc
     split at hr
     ·rename_i out hout
      cases hr
      obtain ⟨zv,h1,h2⟩:=sZero_ok (E:=E) (β:=β) (w:=w) hz
      have h3: ¬ (len*sz>2^24):=by omega
      have hpp:(parts.map fun (x:Nat×Operand)=>match x with|(i,x)=>(i,(actD E β tmps ds).eval x)).toList=ps.map fun p=>(p.1,p.2.den E β):=by
       rw [←evParts_ok (E:=E) (ds:=ds) hg hps];simp
      have hfill:=sFill_ok (E:=E) (β:=β) hout
      rw [←zeros_ok z (len*sz) (Or.inr (by intro h;simp [h] at hc))] at hfill
      simp only [Instr.buildSlice,underlying,Sem.run_bind,run_program,Result.andThen_ok,hd,Sem.run_pure,sizeT_ok hsz,h3,if_false,hc.2.1,h1]
      simp only [h2]
      rw [hpp,hfill]
      simp [newRow,SV.den,Off.den,Off.z,SE.den,hβ,hβo]
     ·cases hr
    ·cases hr
   ·cases hr
  ·cases hr
structure Alt where
 c:SB:= .c true
 res:SV
 post:List SBlk
 facts:Fx:=[]
 xf:Fx:=[]
structure Ct where
 g:FuncId
 gm:Gm:=[]
 args:List SV
 heap:List SBlk
 pre:Fx:=[]
 alts:List Alt
 nx:Nat:=0
structure Bt where
 sel:Op→Option (List Operand)
 ct:Ct
 rd:Bool:=false
structure Prm where
 P:Program
 gm:Gm
 okf:List Nat
 mts:List (Nat×String×Nat)
 dfr:List Nat
 sl:List (Nat×Nat)
 ct:List Ct
 sc:List Nat:=[]
 hint:List (Nat×Nat×Fx):=[]
 bt:List Bt:=[]
 part:List (Nat×Nat×List SB):=[]
 recs:Bool:=false
def Prm.nox (p:Prm):Bool:=p.ct.all (fun c=>c.nx==0)&&p.bt.all (fun b=>b.ct.nx==0)
def altSel (E:Env):List Alt→Option Alt
 |[]=>none
 |a::r=>if a.c.den E then some a else altSel E r
def ctPost (E:Env) (β:Nat→Bk) (w:World) (c:Ct) (e:Ending) (w':World):Prop:=
 ∃a β' V,altSel E c.alts=some a∧e= .returned (a.res.den (E.upd xb c.nx V) β')∧HOk (E.upd xb c.nx V) β' a.post w'∧Ext E c.heap β w (E.upd xb c.nx V) a.post β' w'∧Facts (E.upd xb c.nx V) a.xf
def CtOk (P:Program) (fn:Fns) (c:Ct):Prop:=
 ∀(E:Env) (β:Nat→Bk) (w:World),E.fn=fn→c.gm.ok β→HOk E β c.heap w→Facts E c.pre→
  (∀a,altSel E c.alts=some a→Facts E a.facts)∧Calls P c.g (SV.denL E β c.args).toArray w (ctPost E β w c)
def BtOk (P:Program) (fn:Fns) (b:Bt):Prop:=
 ∀(E:Env) (β:Nat→Bk) (w:World),E.fn=fn→b.ct.gm.ok β→HOk E β b.ct.heap w→Facts E b.ct.pre→
  (∀a,altSel E b.ct.alts=some a→Facts E a.facts)∧ ∀(eval:Operand→Value) (o:Oper) (xs:List Operand),b.sel o.op=some xs→xs.map eval=SV.denL E β b.ct.args→
    ∃v w',((execOp eval o).run P w= .ok (.value v) w'∨(b.rd=false∧(execOp eval o).run P w= .ok .skip w'∧v=undef))∧(b.rd=true→w'=w)∧ctPost E β w b.ct (.returned v) w'
structure PrmOk (E:Env) (p:Prm):Prop where
 bt: ∀b∈p.bt,BtOk p.P E.fn b:=by exact fun b hb=>(List.not_mem_nil (a:=b) hb).elim
 ct: ∀c∈p.ct,CtOk p.P E.fn c
 mix:p.P.follows .mixedOrders=true
 okf: ∀f∈p.okf,∀args w,(callFunc f args).run p.P w= .ok (.enter f args) w
 body: ∀f∈p.okf,∃fn c,p.P.funcs[f]?=some fn∧fn.body=some c
 mts: ∀x∈p.mts,∀a w,(method (p.P.types.size+Made.depth) x.1 (.pointer (some a)) x.2.1).run p.P w= .ok (x.2.2,.pointer (some a)) w
 dfr: ∀f∈p.dfr,∀a w,CallsD p.P f #[a] .returning w fun e u w'=>(∃v,e= .returned v)∧u= .returning∧w'=w
 dfk: ∀f∈p.dfr,f∈p.okf
variable {p:Prm}
def findM (t:TypeId) (name:String):List (Nat×String×Nat)→Option Nat
 |[]=>none
 |x::r=>if x.1=t∧x.2.1=name then some x.2.2 else findM t name r
theorem findM_ok {t:TypeId} {name:String} {f:Nat}: ∀{l:List (Nat×String×Nat)},findM t name l=some f→(t,name,f)∈l
 |[],h=>by simp [findM] at h
 |x::r,h=>by
  simp only [findM] at h
  split at h
  ·rename_i hx;cases h;obtain ⟨a,b,c⟩:=x;simp at hx⊢;left;exact ⟨hx.1.symm,hx.2.symm⟩
  ·simp [findM_ok h]
def sCall (p:Prm) (tmps:Tm) (c:Call):Option (FuncId×List SV):=
 match c.callee,evL p.gm tmps c.args.toList with
 | .value f,some l=>match ev p.gm tmps f with
   |some (.func (.func g) first cap)=>if g∈p.okf then some (g,first++l++cap) else none
   |_=>none
 | .invoke r name,some l=>match ev p.gm tmps r with
   |some (.ifc t (.ptr b o))=>match findM t name p.mts with
    |some g=>if g∈p.okf then some (g,.ptr b o::l) else none
    |none=>none
   |_=>none
 |_,_=>none
theorem sCall_ok (hp:PrmOk E p) (hg:p.gm.ok β) {tmps:Tm} {ds:List Deferred} {o:Oper} {c:Call} (ho:o.op= .call c) {g:FuncId} {args:List SV} (hr:sCall p tmps c=some (g,args)):
 (execOp (actD E β tmps ds).eval o).run p.P w= .ok (.enter g (SV.denL E β args).toArray) w∧g∈p.okf:=by
 unfold sCall at hr
 split at hr
 ·rename_i f l hc hl
  split at hr
  ·rename_i g' first cap hf
   split at hr
   ·rename_i hin
    cases hr
    refine ⟨?_,hin⟩
    have he:=ev_ok (E:=E) (ds:=ds) hg hf
    simp only [SV.den] at he
    simp only [execOp,ho,resolve,hc,he,Deferred.ofValue,Sem.run_bind,Sem.run_pure,Result.andThen_ok,invoke,evL_arr (E:=E) (ds:=ds) hg hl]
    rw [hp.okf _ hin]
    simp [SV.denL_map]
   ·cases hr
  ·cases hr
 ·rename_i r name l hc hl
  split at hr
  ·rename_i t b q hf
   split at hr
   ·rename_i g' hm
    split at hr
    ·rename_i hin
     cases hr
     refine ⟨?_,hin⟩
     have he:=ev_ok (E:=E) (ds:=ds) hg hf
     simp only [SV.den] at he
     have hmt:=hp.mts _ (findM_ok hm) ⟨(β b).a,(β b).o+q.den E,none⟩ w
     simp only at hmt
     simp only [execOp,ho,resolve,hc,he,Sem.run_bind,Sem.run_pure,Result.andThen_ok,invoke,evL_arr (E:=E) (ds:=ds) hg hl]
     simp [callMethod,hmt,hp.okf _ hin,SV.denL,SV.den]
    ·cases hr
   ·cases hr
  ·cases hr
 ·cases hr
def ctFind (g:FuncId):List Ct→Option Ct
 |[]=>none
 |s::r=>if s.g=g then some s else ctFind g r
theorem ctFind_ok {g:FuncId} {s:Ct}: ∀{l:List Ct},ctFind g l=some s→s∈l∧s.g=g
 |[],h=>by simp [ctFind] at h
 |x::r,h=>by
  simp only [ctFind] at h
  split at h
  ·rename_i hx;cases h;exact ⟨by simp,hx⟩
  ·have:=ctFind_ok h;exact ⟨by simp [this.1],this.2⟩
def ctPick (q:Ct→Bool) (g:FuncId):List Ct→Option Ct
 |[]=>none
 |s::r=>if s.g=g∧q s=true then some s else ctPick q g r
def ctSelect (q:Ct→Bool) (g:FuncId) (l:List Ct):Option Ct:=
 match ctPick q g l with
 |some s=>some s
 |none=>ctFind g l
theorem ctPick_ok {q:Ct→Bool} {g:FuncId} {s:Ct}: ∀{l:List Ct},ctPick q g l=some s→s∈l∧s.g=g
 |[],h=>by simp [ctPick] at h
 |x::r,h=>by
  simp only [ctPick] at h
  split at h
  ·rename_i hx;cases h;exact ⟨by simp,hx.1⟩
  ·have:=ctPick_ok h;exact ⟨by simp [this.1],this.2⟩
theorem ctSelect_ok {q:Ct→Bool} {g:FuncId} {s:Ct} {l:List Ct} (h:ctSelect q g l=some s):s∈l∧s.g=g:=by
 unfold ctSelect at h
 split at h
 ·rename_i t ht;cases h;exact ctPick_ok ht
 ·exact ctFind_ok h
def Sub.setK (S:Sub) (j:Nat) (x:Option Nat):Sub:=if (fnd j S.k).isSome then S else { S with k:=(j,x)::S.k }
def mA (p s:AE) (S:Sub):Sub:=
 match p with
 | .v i=>if (fnd i S.a).isSome then S else { S with a:=(i,s)::S.a }
 |_=>S
def mE:SE→SE→Sub→Sub
 | .v i,s,S=>if (fnd i S.i).isSome then S else { S with i:=(i,s)::S.i }
 | .rd a p,.rd a' s,S=>mE p s (mA a a' S)
 | .add p q,.add s t,S=>mE q t (mE p s S)
 | .sub p q,.sub s t,S=>mE q t (mE p s S)
 | .mul p q,.mul s t,S=>mE q t (mE p s S)
 |_,_,S=>S
def mB (p s:SB) (S:Sub):Sub:=
 match p with
 | .v i=>if (fnd i S.b).isSome then S else { S with b:=(i,s)::S.b }
 |_=>S
mutual
def mV:SV→SV→Sub→Sub
 | .int _ p,.int _ s,S=>mE p s S
 | .bool p,.bool s,S=>mB p s S
 | .opq i,s,S=>if (fnd i S.o).isSome then S else { S with o:=(i,s)::S.o }
 | .pa e o,.pa f q,S=>mE o q (mE e f S)
 | .pa e o,.nilptr,S=>mE o (.c 0) (mE e (.c (-1)) S)
 | .sa e o l c,.sa e' o' l' c',S=>mE c c' (mE l l' (mE o o' (mE e e' S)))
 | .sa e o l c,.nilslice,S=>mE c (.c 0) (mE l (.c 0) (mE o (.c 0) (mE e (.c (-1)) S)))
 | .ptr b o,.ptr c q,S=>mE o.row q.row (S.setK b (some c))
 | .map b,.map c,S=>S.setK b (some c)
 | .own b,.own c,S=>S.setK b (some c)
 | .own b,.nilslice,S=>S.setK b none
 | .slice b o l k,.slice c q l' k',S=>mE k k' (mE l l' (mE o.row q.row (S.setK b (some c))))
 | .ifc _ v,.ifc _ u,S=>mV v u S
 | .func _ f c,.func _ f' c',S=>mVL c c' (mVL f f' S)
 | .agg l,.agg l',S=>mVL l l' S
 | .tup l,.tup l',S=>mVL l l' S
 |_,_,S=>S
def mVL:List SV→List SV→Sub→Sub
 |v::r,u::r',S=>mVL r r' (mV v u S)
 |_,_,S=>S
end
def mSL:SL→SL→Sub→Sub
 | .i x r,.i y t,S=>mSL r t (mE x y S)
 | .b x r,.b y t,S=>mSL r t (mB x y S)
 | .a x r,.a y t,S=>mSL r t (mA x y S)
 |_,_,S=>S
def mBlk (h:List SBlk) (S:Sub) (p:SBlk×Nat):Sub:=
 match fnd p.2 S.k with
 |some (some b)=>match p.1,h[b]? with
  | .cells l _,some (.cells l' _)=>mVL l l' S
  | .arr a _ n,some (.arr a' _ n')=>mA a a' (mE n n' S)
  | .pr _ l,some (.pr _ l')=>mSL l l' S
  | .row _ _ _ (x::l) _,some (.row _ _ _ tail _)=>mVL (x::l) tail S
  | .row a ks n _ _,some (.row a' _ n' tail _)=>mA a (tailA a' n' ks.length tail) (mE n (rowsN n' ks.length tail) S)
  |_,_=>S
 |some none=>match p.1 with
  | .row a _ n _ _=>mE n (.c 0) S
  | .pr _ (.i n _)=>mE n (.c 0) S
  |_=>S
 |none=>S
def mPr (h:List SBlk) (S:Sub) (p:SBlk×Nat):Sub:=
 match p.1 with
 | .pr k _=>if (fnd p.2 S.k).isSome||Nat.ble 7 k then S else
   match h.findIdx? (fun s=>match s with| .pr k' _=>Nat.beq k' k|_=>false) with
   |some b=>S.setK p.2 (some b)
   |none=>S
 |_=>S
def mHeap (pat h:List SBlk):Nat→Sub→Sub
 |0,S=>S
 |n+1,S=>mHeap pat h n (pat.zipIdx.foldl (mBlk h) S)
def mGm (gm:Gm):Gm→Sub→Sub
 |[],S=>S
 |(g,j)::r,S=>match Gm.get g gm with
  |some b=>mGm gm r (S.setK j (some b))
  |none=>mGm gm r S
def mPrL (h:List SBlk) (S:Sub) (p:SBlk×Nat):Sub:=
 match p.1 with
 | .pr k _=>if (fnd p.2 S.k).isSome then S else
   match h.findIdx? (fun s=>match s with| .pr k' _=>Nat.beq k' k|_=>false) with
   |some b=>S.setK p.2 (some b)
   |none=>S
 |_=>S
def mCall (gm:Gm) (ct:Ct) (args:List SV) (h:List SBlk):Sub:=
 let S:=mHeap ct.heap h (ct.heap.length) (ct.heap.zipIdx.foldl (mPr h) (mVL ct.args args (mGm gm ct.gm {})))
 bif ct.heap.zipIdx.all (fun p=>match p.1 with| .pr .. =>(fnd p.2 S.k).isSome|_=>true) then S
 else mHeap ct.heap h (ct.heap.length) (ct.heap.zipIdx.foldl (mPrL h) S)
def chkV (S:Sub) (p s:SV):Bool:=p.okS S&&SV.same (p.inst S) s
def chkVL (S:Sub):List SV→List SV→Bool
 |[],[]=>true
 |p::r,s::t=>chkV S p s&&chkVL S r t
 |_,_=>false
theorem chkVL_ok {S:Sub} {β0:Nat→Bk} (hB:Bmap S β β0): ∀{l l':List SV},chkVL S l l'=true→SV.denL E β l'=SV.denL (E.sub β S) β0 l
 |[],[],_=>rfl
 |p::r,s::t,h=>by
  simp only [chkVL,chkV,Bool.and_eq_true] at h
  have:=SV.inst_ok (E:=E) hB p h.1.1
  rw [SV.same_ok h.1.2] at this
  simp only [SV.denL,this,chkVL_ok hB h.2]
 |[],_::_,h=>by simp [chkVL] at h
 |_::_,[],h=>by simp [chkVL] at h
def chkCall (gm:Gm) (F:Fx) (ct:Ct) (args:List SV) (h:List SBlk) (S:Sub):Bool:=
 chkVL S ct.args args&&chkHeap S F ct.heap h&&ct.gm.all (fun q=>match fnd q.2 S.k with|some (some b)=>Gm.get q.1 gm==some b|_=>false)
inductive CS where
 |ok (a:Alt)
 |fork (b:SB)
 |dead
 |no
def altS (F:Fx) (S:Sub):List Alt→CS
 |[]=> .no
 |a::r=>match dec F (a.c.inst S) with
  |some true=> .ok a
  |some false=>altS F S r
  |none=> .fork (a.c.inst S)
def ctSel (F:Fx) (S:Sub) (alts:List Alt):Fx→CS
 |[]=>altS F S alts
 |(b,t)::r=>match dec F (b.inst S) with
  |some u=>if u=t then ctSel F S alts r else .dead
  |none=> .fork (b.inst S)
theorem altS_ok {F:Fx} (hF:Facts E F) {S:Sub}: ∀{alts:List Alt} {a:Alt},altS F S alts= .ok a→altSel (E.sub β S) alts=some a
 |[],a,h=>by cases h
 |x::r,a,h=>by
  simp only [altS] at h
  split at h
  ·rename_i hd
   cases h
   have:=dec_ok hF hd
   rw [SB.inst_ok (β:=β)] at this
   simp [altSel,this]
  ·rename_i hd
   have:=dec_ok hF hd
   rw [SB.inst_ok (β:=β)] at this
   simp [altSel,this,altS_ok hF h]
  ·cases h
theorem ctSel_ok {F:Fx} (hF:Facts E F) {S:Sub} {alts:List Alt}: ∀{pre:Fx} {a:Alt},ctSel F S alts pre= .ok a→Facts (E.sub β S) pre∧altSel (E.sub β S) alts=some a
 |[],a,h=>⟨fun p hp=>(by cases hp),altS_ok hF h⟩
 |(b,t)::r,a,h=>by
  simp only [ctSel] at h
  split at h
  ·rename_i u hd
   split at h
   ·rename_i hu
    subst hu
    obtain ⟨h1,h2⟩:=ctSel_ok hF h
    refine ⟨fun p hp=>?_,h2⟩
    simp only [List.mem_cons] at hp
    rcases hp with rfl|hp
    ·rw [←SB.inst_ok (β:=β)];exact dec_ok hF hd
    ·exact h1 p hp
   ·cases h
  ·cases h
def factsI (S:Sub) (F:Fx):Fx:=F.map fun p=>(p.1.inst S,p.2)
theorem factsI_ok {S:Sub} {F:Fx} (h:Facts (E.sub β S) F):Facts E (factsI S F):=by
 intro p hp
 obtain ⟨q,hq,rfl⟩:=List.mem_map.1 hp
 simp only
 rw [SB.inst_ok (β:=β)]
 exact h q hq
theorem chkCall_ok (hp:PrmOk E p) (hg:p.gm.ok β) {F:Fx} (hF:Facts E F) {h:List SBlk} (hw:HOk E β h w) {ct:Ct} (hct:ct∈p.ct) {args:List SV} {S:Sub} (hc:chkCall p.gm F ct args h S=true) {a:Alt} (hs:ctSel F S ct.alts ct.pre= .ok a):
 Facts (E.sub β S) a.facts∧Calls p.P ct.g (SV.denL E β args).toArray w fun e w'=> ∃β0 V,e= .returned (a.res.den ((E.sub β S).upd xb ct.nx V) β0)∧HOk ((E.sub β S).upd xb ct.nx V) β0 a.post w'∧
  Ext (E.sub β S) ct.heap (bsub E β h S) w ((E.sub β S).upd xb ct.nx V) a.post β0 w'∧Facts ((E.sub β S).upd xb ct.nx V) a.xf:=by
 unfold chkCall at hc
 simp only [Bool.and_eq_true] at hc
 obtain ⟨⟨h1,h2⟩,h3⟩:=hc
 obtain ⟨h4,h5⟩:=ctSel_ok (β:=β) hF hs
 have hgm:ct.gm.ok (bsub E β h S):=by
  intro q hq
  have:=List.all_eq_true.1 h3 q hq
  split at this
  ·rename_i b hb
   have hl:=bsub_like (E:=E) (β:=β) (h:=h) hb
   rw [hl.a,hl.o]
   exact Gm.get_ok hg (by simpa using this)
  ·cases this
 obtain ⟨k1,k2⟩:=hp.ct ct hct (E.sub β S) (bsub E β h S) w rfl hgm (hok_match hF hw h2) h4
 refine ⟨k1 a h5,?_⟩
 rw [chkVL_ok (E:=E) (bsub_map (E:=E) (β:=β) (h:=h) (S:=S)) h1]
 refine k2.mono fun e w' ⟨a',β',V,e1,e2,e3,e4,e5⟩=>?_
 rw [h5] at e1
 cases e1
 exact ⟨β',V,e2,e3,e4,e5⟩
theorem chkBt_ok (hp:PrmOk E p) (hg:p.gm.ok β) {F:Fx} (hF:Facts E F) {h:List SBlk} (hw:HOk E β h w) {b:Bt} (hbt:b∈p.bt) {args:List SV} {S:Sub} (hc:chkCall p.gm F b.ct args h S=true) {a:Alt} (hs:ctSel F S b.ct.alts b.ct.pre= .ok a)
 {eval:Operand→Value} {o:Oper} {xs:List Operand} (hsel:b.sel o.op=some xs) (hxs:xs.map eval=SV.denL E β args):
 Facts (E.sub β S) a.facts∧ ∃v w',((execOp eval o).run p.P w= .ok (.value v) w'∨(b.rd=false∧(execOp eval o).run p.P w= .ok .skip w'∧v=undef))∧(b.rd=true→w'=w)∧ ∃β0 V,v=a.res.den ((E.sub β S).upd xb b.ct.nx V) β0∧HOk ((E.sub β S).upd xb b.ct.nx V) β0 a.post w'∧
  Ext (E.sub β S) b.ct.heap (bsub E β h S) w ((E.sub β S).upd xb b.ct.nx V) a.post β0 w'∧Facts ((E.sub β S).upd xb b.ct.nx V) a.xf:=by
 unfold chkCall at hc
 simp only [Bool.and_eq_true] at hc
 obtain ⟨⟨h1,h2⟩,h3⟩:=hc
 obtain ⟨h4,h5⟩:=ctSel_ok (β:=β) hF hs
 have hgm:b.ct.gm.ok (bsub E β h S):=by
  intro q hq
  have:=List.all_eq_true.1 h3 q hq
  split at this
  ·rename_i c hb
   have hl:=bsub_like (E:=E) (β:=β) (h:=h) hb
   rw [hl.a,hl.o]
   exact Gm.get_ok hg (by simpa using this)
  ·cases this
 obtain ⟨k1,k2⟩:=hp.bt b hbt (E.sub β S) (bsub E β h S) w rfl hgm (hok_match hF hw h2) h4
 refine ⟨k1 a h5,?_⟩
 obtain ⟨v,w',g1,g2,a',β',V,e1,e2,e3,e4,e5⟩:=k2 eval o xs hsel (by rw [hxs,chkVL_ok (E:=E) (bsub_map (E:=E) (β:=β) (h:=h) (S:=S)) h1])
 rw [h5] at e1
 cases e1
 exact ⟨v,w',g1,g2,β',V,by cases e2;rfl,e3,e4,e5⟩
structure SD where
 fn:FuncId
 cap:List SV
 args:List SV
def SD.den (E:Env) (β:Nat→Bk) (d:SD):Deferred:={ target:= .fn (.func d.fn) (SV.denL E β d.cap).toArray,args:=(SV.denL E β d.args).toArray }
def SD.bnd (n:Nat) (d:SD):Bool:=SV.bndL n d.cap&&SV.bndL n d.args
def SD.fine (p:Prm) (d:SD):Bool:=decide (d.fn∈p.dfr)&&d.args.length+d.cap.length==1
theorem SD.agree {β β':Nat→Bk} {n:Nat} (h: ∀i,i<n→β' i=β i) (d:SD) (hb:d.bnd n=true):d.den E β'=d.den E β:=by
 simp only [SD.bnd,Bool.and_eq_true] at hb
 simp only [SD.den,SV.denL_agree h _ hb.1,SV.denL_agree h _ hb.2]
def sDefer (p:Prm) (tmps:Tm) (c:Call):Option SD:=
 match c.callee,evL p.gm tmps c.args.toList with
 | .value f,some l=>match ev p.gm tmps f with
   |some (.func (.func g) first cap)=>some ⟨g,cap,first++l⟩
   |_=>none
 |_,_=>none
theorem sDefer_ok (hg:p.gm.ok β) {tmps:Tm} {ds:List Deferred} {o:Oper} {c:Call} (ho:o.op= .defer c) {d:SD} (hr:sDefer p tmps c=some d):
 (execOp (actD E β tmps ds).eval o).run p.P w= .ok (.defer (d.den E β)) w:=by
 unfold sDefer at hr
 split at hr
 ·rename_i f l hc hl
  split at hr
  ·rename_i g first cap hf
   cases hr
   have he:=ev_ok (E:=E) (ds:=ds) hg hf
   simp only [SV.den] at he
   simp only [execOp,ho,resolve,hc,he,Deferred.ofValue,Sem.run_bind,Sem.run_pure,Result.andThen_ok,evL_arr (E:=E) (ds:=ds) hg hl,SD.den]
   simp [SV.denL_map]
  ·cases hr
 ·cases hr
def sRes1 (P:Program) (F:Fx) (h:List SBlk) (tmps:Tm):ResultVar→Option SV
 | .tmp t=>some (tmps.get t)
 | .cell a T=>match tmps.get a with
   | .ptr b o=>match sLoad P F h T (.ptr b o) with
     | .val v=>some v
     |_=>none
   |_=>none
def sResL (P:Program) (F:Fx) (h:List SBlk) (tmps:Tm):List ResultVar→Option (List SV)
 |[]=>some []
 |r::rs=>match sRes1 P F h tmps r,sResL P F h tmps rs with
  |some v,some l=>some (v::l)
  |_,_=>none
def sRes (P:Program) (F:Fx) (h:List SBlk) (tmps:Tm) (rs:List ResultVar):Option SV:=
 match sResL P F h tmps rs with
 |some [v]=>some v
 |some l=>some (.tup l)
 |none=>none
def resF (tmps:Array Value):ResultVar→Sem Value
 | .tmp t=>pure (tmps.getD t undef)
 | .cell a t=>do loadVar t (←asAddr (tmps.getD a undef))
theorem results_eq (fn:Func) (tmps:Array Value):results fn tmps=(do let vs←fn.results.mapM (resF tmps);pure (if h:vs.size=1 then vs[0] else .tuple vs)):=by
 unfold results
 have:(fun (r:ResultVar)=>(match r with
  | .tmp t=>pure (tmps.getD t undef)
  | .cell a t=>do loadVar t (←asAddr (tmps.getD a undef)):Sem Value))=resF tmps:=by
  funext r;cases r<;>rfl
 rw [←this]
 rfl
theorem sRes1_ok {F:Fx} (hF:Facts E F) {h:List SBlk} (hw:HOk E β h w) {tmps:Tm} {r:ResultVar} {v:SV} (hr:sRes1 P F h tmps r=some v):
 (resF (tmps.den E β) r).run P w= .ok (v.den E β) w:=by
 cases r with
 |tmp t=>simp only [sRes1] at hr;cases hr;simp only [resF,Tm.den_getD,Sem.run_pure]
 |cell a T=>
  simp only [sRes1] at hr
  split at hr
  ·rename_i b o ht
   split at hr
   ·rename_i u hu
    cases hr
    have:=sLoad_ok (P:=P) hF hw hu
    simp only [Instr.loadAt,SV.den,Instr.sureAddr,Sem.run_bind,Sem.run_pure,Result.andThen_ok] at this
    simp only [resF,Tm.den_getD,ht,SV.den,asAddr,Sem.run_bind,Sem.run_pure,Result.andThen_ok,this]
   ·cases hr
  ·cases hr
theorem sResL_ok {F:Fx} (hF:Facts E F) {h:List SBlk} (hw:HOk E β h w) {tmps:Tm}: ∀{rs:List ResultVar} {l:List SV},sResL P F h tmps rs=some l→
 (List.mapM (resF (tmps.den E β)) rs).run P w= .ok (SV.denL E β l) w
 |[],l,h=>by simp [sResL] at h;subst h;simp [SV.denL]
 |r::rs,l,h=>by
  simp only [sResL] at h
  split at h
  ·rename_i v t hv ht
   cases h
   rw [List.mapM_cons,Sem.run_bind,sRes1_ok hF hw hv,Result.andThen_ok,Sem.run_bind,sResL_ok hF hw ht,Result.andThen_ok,Sem.run_pure]
   rfl
  ·cases h
theorem sRes_ok {F:Fx} (hF:Facts E F) {h:List SBlk} (hw:HOk E β h w) {tmps:Tm} {fn:Func} {v:SV} (hr:sRes P F h tmps fn.results.toList=some v):
 (results fn (tmps.den E β)).run P w= .ok (v.den E β) w:=by
 rw [results_eq]
 unfold sRes at hr
 have hm: ∀{l:List SV},sResL P F h tmps fn.results.toList=some l→(Array.mapM (resF (tmps.den E β)) fn.results).run P w= .ok (SV.denL E β l).toArray w:=fun hl=>by
  rw [Array.mapM_eq_mapM_toList,Sem.run_map,sResL_ok hF hw hl];rfl
 split at hr
 ·rename_i u hu
  cases hr
  simp only [Sem.run_bind,hm hu,Result.andThen_ok,Sem.run_pure,SV.denL]
  simp
 ·rename_i l hn hl
  cases hr
  have hne: ¬ ((SV.denL E β l).toArray.size=1):=by
   simp only [List.size_toArray,denL_length]
   intro h1
   match l,h1 with
   |[u],_=>exact hn u rfl
  simp only [Sem.run_bind,hm hl,Result.andThen_ok,Sem.run_pure,SV.den]
  rw [dif_neg hne]
 ·cases hr
end Go.Sy
end
section
set_option autoImplicit true
set_option relaxedAutoImplicit true
set_option linter.unusedVariables false
set_option linter.unusedSimpArgs false
namespace Go.Sy
open Go
section
variable {P:Program} {ops:Array Oper} {Q:Exit→Act→World→Prop} {a:Act} {vals:Nat→Value} {n:Nat}
def dstOf (ops:Array Oper) (j:Nat):Option Tmp:=(ops[j]?).bind (·.dst)
def par (ops:Array Oper) (vals:Nat→Value) (a:Act) (D:Nat→Bool):Nat→Act
 |0=>a
 |k+1=>if D k then (par ops vals a D k).put (dstOf ops k) (vals k) else par ops vals a D k
theorem put_size (a:Act) (d:Option Tmp) (v:Value):(a.put d v).tmps.size=a.tmps.size:=by cases d<;>simp [Act.put]
theorem put_defers (a:Act) (d:Option Tmp) (v:Value):(a.put d v).defers=a.defers:=by cases d<;>rfl
theorem put_other (a:Act) {d:Option Tmp} {s:Tmp} (h:d≠some s) (v:Value):(a.put d v).tmps[s]?=a.tmps[s]?:=by
 cases d with
 |none=>rfl
 |some t=>simp only [Act.put];rw [Array.getElem?_setIfInBounds_ne (fun hh=>h (by rw [hh]))]
theorem put_self (a:Act) (s:Tmp) (v:Value):(a.put (some s) v).tmps[s]?=if s<a.tmps.size then some v else none:=by
 simp only [Act.put,Array.getElem?_setIfInBounds]
 simp
theorem par_size (D:Nat→Bool): ∀k,(par ops vals a D k).tmps.size=a.tmps.size
 |0=>rfl
 |k+1=>by simp only [par];split<;>simp [put_size,par_size D k]
theorem par_defers (D:Nat→Bool): ∀k,(par ops vals a D k).defers=a.defers
 |0=>rfl
 |k+1=>by simp only [par];split<;>simp [put_defers,par_defers D k]
theorem par_agree {D D':Nat→Bool} {s:Tmp}: ∀k,(∀j,j<k→dstOf ops j=some s→D j=D' j)→(par ops vals a D k).tmps[s]?=(par ops vals a D' k).tmps[s]?
 |0,_=>rfl
 |k+1,h=>by
  have ih:=par_agree k fun j hj=>h j (by omega)
  simp only [par]
  by_cases hd:dstOf ops k=some s
  ·have:=h k (by omega) hd
   rw [←this]
   split
   ·rw [hd,put_self,put_self,par_size,par_size]
   ·exact ih
  ·split<;>split<;>(try rw [put_other _ hd])<;>(try rw [put_other _ hd])<;>exact ih
theorem par_slot {D:Nat→Bool} {i:Nat} {s:Tmp} (hi:dstOf ops i=some s) (hD:D i=true): ∀k,i<k→(∀j,j<k→j≠i→D j=true→dstOf ops j≠some s)→
 (par ops vals a D k).tmps[s]?=if s<a.tmps.size then some (vals i) else none
 |0,h,_=>by omega
 |k+1,h,hu=>by
  simp only [par]
  by_cases hk:k=i
  ·subst hk
   simp only [hD,if_true]
   rw [hi,put_self,par_size]
  ·have ih:=par_slot hi hD k (by omega) fun j hj=>hu j (by omega)
   split
   ·rename_i hDk
    rw [put_other _ (hu k (by omega) hk hDk)];exact ih
   ·exact ih
theorem par_put {D:Nat→Bool} {i k:Nat} (hik:i<k) (hu: ∀j,j<k→j≠i→D j=true→ ∀s,dstOf ops i=some s→dstOf ops j≠some s):
 (par ops vals a D k).put (dstOf ops i) (vals i)=par ops vals a (fun j=>if j=i then true else D j) k:=by
 have ext: ∀(x y:Act),x.defers=y.defers→(∀s,x.tmps[s]?=y.tmps[s]?)→x=y:=fun x y h1 h2=>by
  obtain ⟨xt,xd⟩:=x;obtain ⟨yt,yd⟩:=y
  simp only at h1 h2;subst h1
  have:xt=yt:=Array.ext_getElem? h2
  rw [this]
 refine ext _ _ (by rw [put_defers,par_defers,par_defers]) fun s=>?_
 by_cases hs:dstOf ops i=some s
 ·rw [par_slot hs (by simp) k hik fun j hj hne hDj=>hu j hj hne (by simpa [hne] using hDj) s hs,hs,put_self,par_size]
 ·rw [put_other _ hs]
  refine par_agree k fun j hj hd=>?_
  have:j≠i:=fun hh=>hs (hh▸hd)
  simp [this]
def maskOf (acc:List Nat):List Edge→Nat
 |[]=>0
 |e::r=>if Region.binds .any e then (2^e.on|||acc.getD e.on 0)|||maskOf acc r else maskOf acc r
def masks:List Nat→List Oper→List Nat
 |acc,[]=>acc
 |acc,o::r=>masks (acc++[maskOf acc o.after.toList]) r
def Closed (ops:Array Oper) (D:Nat→Bool):Prop:= ∀i o,ops[i]?=some o→D i=true→ ∀e∈o.after,Region.binds .any e=true→D e.on=true
def Needs (ops:Array Oper) (i j:Nat):Prop:= ∀D,Closed ops D→ ∀o,ops[i]?=some o→(∀e∈o.after,Region.binds .any e=true→D e.on=true)→D j=true
theorem getD_ge {l:List Nat} {k:Nat} (h:l.length≤k):l.getD k 0=0:=by simp [List.getD_eq_getElem?_getD,List.getElem?_eq_none h]
theorem maskOf_ok {acc:List Nat} (hacc: ∀k j,k<acc.length→(acc.getD k 0).testBit j=true→Needs ops k j) (hlen:acc.length≤ops.size) {i:Nat} {o:Oper} (ho:ops[i]?=some o):
 ∀{es:List Edge},(∀e∈es,e∈o.after)→ ∀j,(maskOf acc es).testBit j=true→Needs ops i j
 |[],_,j,h=>by simp [maskOf] at h
 |e::r,hes,j,h=>by
  simp only [maskOf] at h
  split at h
  ·rename_i hb
   rw [Nat.testBit_or,Nat.testBit_or,Bool.or_eq_true,Bool.or_eq_true] at h
   rcases h with (h|h)|h
   ·have hj:e.on=j:=by
     rw [Nat.testBit_two_pow] at h;exact of_decide_eq_true h
    subst hj
    intro D _ o' ho' hall
    rw [ho] at ho';cases ho'
    exact hall e (hes e (by simp)) hb
   ·rcases Nat.lt_or_ge e.on acc.length with hl|hl
    ·have:=hacc e.on j hl h
     intro D hD o' ho' hall
     rw [ho] at ho';cases ho'
     have he:=hall e (hes e (by simp)) hb
     have hlt:e.on<ops.size:=by omega
     obtain ⟨oe,hoe⟩: ∃oe,ops[e.on]?=some oe:=⟨ops[e.on],by simp [hlt]⟩
     exact this D hD oe hoe fun e' he' hb'=>hD e.on oe hoe he e' he' hb'
    ·rw [getD_ge hl] at h;simp at h
   ·exact maskOf_ok hacc hlen ho (fun e' he'=>hes e' (by simp [he'])) j h
  ·exact maskOf_ok hacc hlen ho (fun e' he'=>hes e' (by simp [he'])) j h
theorem masks_ok: ∀(l:List Oper) (acc:List Nat),(∀j,l[j]?=ops[acc.length+j]?)→(∀k j,k<acc.length→(acc.getD k 0).testBit j=true→Needs ops k j)→acc.length+l.length=ops.size→
 ∀k j,((masks acc l).getD k 0).testBit j=true→Needs ops k j
 |[],acc,hl,hacc,hsz,k,j,h=>by
  simp only [masks] at h
  rcases Nat.lt_or_ge k acc.length with hk|hk
  ·exact hacc k j hk h
  ·rw [getD_ge hk] at h;simp at h
 |o::r,acc,hl,hacc,hsz,k,j,h=>by
  simp only [masks] at h
  simp only [List.length_cons] at hsz
  have ho:ops[acc.length]?=some o:=by have:=hl 0;simpa using this.symm
  refine masks_ok r (acc++[maskOf acc o.after.toList]) (fun j=>?_) (fun k j hk hb=>?_) (by simp;omega) k j h
  ·have:=hl (j+1)
   simp only [List.getElem?_cons_succ] at this
   rw [this];simp;congr 1;omega
  ·simp only [List.length_append,List.length_singleton] at hk
   rcases Nat.lt_or_ge k acc.length with h1|h1
   ·rw [List.getD_eq_getElem?_getD,List.getElem?_append_left h1,←List.getD_eq_getElem?_getD] at hb
    exact hacc k j h1 hb
   ·have:k=acc.length:=by omega
    subst this
    rw [List.getD_eq_getElem?_getD,List.getElem?_append_right (Nat.le_refl _)] at hb
    simp at hb
    exact maskOf_ok hacc (by omega) ho (fun e he=>by simpa using he) j hb
def allMasks (ops:Array Oper):List Nat:=masks [] ops.toList
theorem allMasks_ok {k j:Nat} (h:((allMasks ops).getD k 0).testBit j=true):Needs ops k j:=
 masks_ok ops.toList [] (by simp) (by simp) (by simp) k j h
structure RegFacts (ops:Array Oper) (fl hd:Nat→Bool):Prop where
 sel: ∀(j:Nat) (o:Oper) cs b,ops[j]?=some o→o.op≠ .select cs b
 edges: ∀i o,ops[i]?=some o→ ∀e∈o.after,Region.binds .any e=true→e.on<i
 one: ∀i j s,(fl i||hd i)=true→(fl j||hd j)=true→j≠i→dstOf ops i=some s→dstOf ops j≠some s
 two: ∀i t s,fl i=true→(fl t||hd t)=false→dstOf ops i=some s→dstOf ops t≠some s
 look: ∀i o s,ops[i]?=some o→(fl i||hd i)=true→s∈o.looksAt ops→ ∀j,(fl j||hd j)=true→dstOf ops j=some s→j≠i→(j<i∧Needs ops i j)∨(i<j∧Needs ops j i)
 lookT: ∀i o s,ops[i]?=some o→fl i=true→s∈o.looksAt ops→ ∀t,(fl t||hd t)=false→dstOf ops t=some s→Needs ops t i
 tailL: ∀t o s,ops[t]?=some o→(fl t||hd t)=false→s∈o.looksAt ops→ ∀i,fl i=true→dstOf ops i=some s→Needs ops t i
 tailH: ∀t,t<ops.size→(fl t||hd t)=false→ ∀i,i<ops.size→hd i=true→fl i=false→Needs ops t i
 tailT: ∀t,t<ops.size→(fl t||hd t)=false→ ∀u,u<t→(fl u||hd u)=false→Needs ops t u
def chkEdges (i:Nat) (o:Oper):Bool:=o.after.toList.all fun e=>!Region.binds .any e||decide (e.on<i)
theorem zipAll {P:Oper→Nat→Bool} (h:(ops.toList.zipIdx.all fun (o,i)=>P o i)=true) {i:Nat} {o:Oper} (ho:ops[i]?=some o):P o i=true:=by
 have:(o,i)∈ops.toList.zipIdx:=by
  rw [List.mem_zipIdx_iff_getElem?];simpa using ho
 exact List.all_eq_true.1 h (o,i) this
def Quiet1 (P:Program) (C:World→Prop) (ops:Array Oper) (o:Oper) (act:Act) (v:Value):Prop:=
 (Region.wanted o (yielded ops act.tmps)=false∧v=undef)∨
 (Region.wanted o (yielded ops act.tmps)=true∧ ∀w,C w→
   (execOp act.eval o).run P w= .ok (.value v) w∨
   (∃f args,(execOp act.eval o).run P w= .ok (.enter f args) w∧Calls P f args w fun e w'=>e= .returned v∧C w'))
theorem eval_slot {x y:Act} {op:Operand} (h: ∀t,op= .tmp t→x.tmps[t]?=y.tmps[t]?):x.eval op=y.eval op:=by
 cases op with
 |tmp t=>simp only [Act.eval,Array.getD_eq_getD_getElem?,h t rfl]
 |_=>rfl
theorem exec_slot {x y:Act} {o:Oper} (hs: ∀cs b,o.op≠ .select cs b) (h: ∀d∈o.looksAt ops,x.tmps[d]?=y.tmps[d]?):execOp x.eval o=execOp y.eval o:=
 execOp_congr o hs fun op hop=>eval_slot fun t ht=>h t (by
  subst ht
  exact List.mem_append_left _ (List.mem_filterMap.2 ⟨.tmp t,by simpa using hop,rfl⟩))
theorem wanted_slot {x y:Act} {o:Oper} (h: ∀d∈o.looksAt ops,x.tmps[d]?=y.tmps[d]?):Region.wanted o (yielded ops x.tmps)=Region.wanted o (yielded ops y.tmps):=by
 unfold Region.wanted
 cases hg:o.guard with
 |none=>rfl
 |some g=>
  obtain ⟨j,want⟩:=g
  simp only
  congr 1
  unfold yielded
  cases hd:(ops[j]?).bind (·.dst) with
  |none=>rfl
  |some d=>
   simp only [Option.bind_some]
   rw [h d (by unfold Oper.looksAt;simp [hg,hd])]
theorem Quiet1.slot {C:World→Prop} {o:Oper} {x y:Act} {v:Value} (hs: ∀cs b,o.op≠ .select cs b) (h: ∀d∈o.looksAt ops,x.tmps[d]?=y.tmps[d]?) (q:Quiet1 P C ops o x v):Quiet1 P C ops o y v:=by
 unfold Quiet1 at*
 rw [←exec_slot hs h,←wanted_slot h]
 exact q
theorem Quiet1.wpOp {C:World→Prop} {i:Nat} {o:Oper} {act:Act} {v:Value} {w:World} {K:Act→World→Prop} (ho:ops[i]?=some o) (q:Quiet1 P C ops o act v) (hC:C w) (h: ∀w',C w'→K (act.put o.dst v) w'):
 Go.wpOp P ops Q i K act w:=by
 unfold Go.wpOp
 simp only [ho]
 rcases q with ⟨hw,rfl⟩|⟨hw,q⟩
 ·simp only [hw,Bool.false_eq_true,if_false];exact h w hC
 ·simp only [hw,if_true]
  left
  unfold Oper.wp
  rcases q w hC with q|⟨f,args,q,hc⟩
  ·rw [q];exact h w hC
  ·rw [q]
   exact hc.mono fun e w' ⟨he,hw'⟩=>by subst he;exact h w' hw'
def opN (P:Program) (o:Oper) (a:Act) (w:World) (next:Act→World→Prop) (out:Prop):Prop:=
 match (execOp a.eval o).run P w with
 | .ok (.value v) w'=>next (a.put o.dst v) w'
 | .ok .skip w'=>next (a.put o.dst undef) w'
 | .ok (.defer d) w'=>next ({ a with defers:=d::a.defers }.put o.dst undef) w'
 | .ok (.enter f args) w'=>Calls P f args w' fun e w''=>match e with
   | .returned v=>next (a.put o.dst v) w''
   | .panicked _=>False
   | .outgrown=>out
 |_=>False
def wpN (P:Program) (ops:Array Oper) (Q:Exit→Act→World→Prop):List Oper→Act→World→Prop
 |[],a,w=>Q .normal a w
 |o::rest,a,w=>if Region.wanted o (yielded ops a.tmps) then opN P o a w (wpN P ops Q rest) (LetsOut Q) else wpN P ops Q rest (a.put o.dst undef) w
theorem opN_wp {o:Oper} {a:Act} {w:World} {next next':Act→World→Prop} (h:opN P o a w next (LetsOut Q)) (hn: ∀a w,next a w→next' a w):o.wp P a w next' Q:=by
 unfold opN at h
 unfold Oper.wp
 generalize (execOp a.eval o).run P w=r at*
 cases r with
 |ok n w'=>
  cases n<;>simp only [Oper.upon] at h⊢ <;>first
   |exact hn _ _ h
   |exact h.elim
   |exact h.mono fun e w'' he=>by
     cases e with
     |returned v=>exact hn _ _ he
     |panicked c=>exact he.elim
     |outgrown=>exact he
 |halt x w'=>exact h.elim
theorem wpN_list: ∀{l:List Oper} {a:Act} {w:World},wpN P ops Q l a w→wpList P ops Q l a w
 |[],_,_,h=>h
 |o::r,a,w,h=>by
  simp only [wpN] at h
  simp only [wpList]
  split
  ·rename_i hw;rw [if_pos hw] at h;exact .inl (opN_wp h fun _ _ h=>wpN_list h)
  ·rename_i hw;rw [if_neg hw] at h;exact wpN_list h
def left (m:Nat) (listed:Array Bool):Nat:=((List.range m).filter fun j=>!listed.getD j false).length
theorem left_set {m i:Nat} {listed:Array Bool} (hm:i<m) (hli:i<listed.size) (hiu:listed.getD i false=false):left m listed=left m (listed.setIfInBounds i true)+1:=by
 have key: ∀(l:List Nat),l.Nodup→i∈l→(l.filter fun j=>!listed.getD j false).length=(l.filter fun j=>!(listed.setIfInBounds i true).getD j false).length+1:=by
  intro l
  induction l with
  |nil=>intro _ h;cases h
  |cons x r ihl=>
   intro hnd hmem
   rw [List.nodup_cons] at hnd
   by_cases hxi:x=i
   ·subst hxi
    have hsame:(r.filter fun j=>!listed.getD j false)=r.filter fun j=>!(listed.setIfInBounds x true).getD j false:=by
     apply List.filter_congr
     intro j hj
     have:x≠j:=fun hh=>hnd.1 (hh▸hj)
     rw [getD_set_ne false this]
    have hx1:(listed.setIfInBounds x true).getD x false=true:=by
     rw [Array.getD_eq_getD_getElem?];simp [hli]
    rw [List.filter_cons_of_pos (by simp [hiu]),List.filter_cons_of_neg (by simp [hx1]),hsame]
    rfl
   ·have hmem':i∈r:=by
     cases hmem with
     |head=>exact (hxi rfl).elim
     |tail _ h=>exact h
    have:=ihl hnd.2 hmem'
    have hx1:(listed.setIfInBounds i true).getD x false=listed.getD x false:=getD_set_ne false (Ne.symm hxi)
    cases hx:listed.getD x false with
    |true=>rw [List.filter_cons_of_neg (by simp [hx]),List.filter_cons_of_neg (by rw [hx1];simp [hx])];exact this
    |false=>
     rw [List.filter_cons_of_pos (by simp [hx]),List.filter_cons_of_pos (by rw [hx1];simp [hx])]
     simp only [List.length_cons,this]
 exact key (List.range m) List.nodup_range (List.mem_range.2 hm)
theorem left_zero {m:Nat} {listed:Array Bool} (h:left m listed=0) {j:Nat} (hj:j<m):listed.getD j false=true:=by
 have h0:=List.length_eq_zero_iff.1 h
 rw [List.filter_eq_nil_iff] at h0
 have:=h0 j (List.mem_range.2 hj)
 simpa using this
theorem ready_un {listed:Array Bool} (hsz:listed.size=ops.size) {i:Nat} (hi:i∈Region.ready .any ops listed):
 i<ops.size∧listed.getD i false=false∧ ∃o,ops[i]?=some o∧ ∀e∈o.after,Region.binds .any e=true→listed.getD e.on false=true:=by
 obtain ⟨h0,o,ho,hall⟩:=mem_ready.1 hi
 have hlt:i<ops.size:=(Array.getElem?_eq_some_iff.1 ho).1
 have hli:i<listed.size:=by omega
 refine ⟨hlt,?_,o,ho,hall⟩
 rw [Array.getD_eq_getD_getElem?] at h0⊢
 simp [hli] at h0⊢
 exact h0
theorem closed_put {D:Nat→Bool} (hc:Closed ops D) {i:Nat} {o:Oper} (ho:ops[i]?=some o) (hall: ∀e∈o.after,Region.binds .any e=true→D e.on=true):Closed ops (fun j=>if j=i then true else D j):=by
 intro j oj hoj hD e he hb
 simp only at hD⊢
 split
 ·rfl
 ·by_cases hji:j=i
  ·subst hji;rw [ho] at hoj;cases hoj;exact hall e he hb
  ·rw [if_neg hji] at hD;exact hc j oj hoj hD e he hb
theorem set_fun {listed:Array Bool} {i:Nat} (hli:i<listed.size):(fun j=>if j=i then true else listed.getD j false)=fun j=>(listed.setIfInBounds i true).getD j false:=by
 funext j
 by_cases hji:j=i
 ·subst hji
  simp only [if_true]
  rw [Array.getD_eq_getD_getElem?]
  simp [hli]
 ·rw [if_neg hji,getD_set_ne false (Ne.symm hji)]
section tail
variable {fl hd:Nat→Bool}
structure Rel (ops:Array Oper) (fl hd:Nat→Bool) (vals:Nat→Value) (a:Act) (D:Nat→Bool) (x y:Act):Prop where
 defers:x.defers=y.defers
 size:x.tmps.size=a.tmps.size
 size':y.tmps.size=a.tmps.size
 same: ∀s,(∀i,i<ops.size→fl i=true→D i=false→dstOf ops i≠some s)→x.tmps[s]?=y.tmps[s]?
 todo: ∀i s,i<ops.size→fl i=true→D i=false→dstOf ops i=some s→y.tmps[s]?=if s<a.tmps.size then some (vals i) else none
 look: ∀i o s,ops[i]?=some o→fl i=true→D i=false→s∈o.looksAt ops→x.tmps[s]?=(par ops vals a (fun j=>(fl j||hd j)&&D j) ops.size).tmps[s]?
theorem Rel.done {D:Nat→Bool} {x y:Act} (h:Rel ops fl hd vals a D x y) (hD: ∀i,i<ops.size→D i=true):x=y:=by
 obtain ⟨xt,xd⟩:=x;obtain ⟨yt,yd⟩:=y
 have h1:xd=yd:=h.defers
 have h2:xt=yt:=Array.ext_getElem? fun s=>h.same s fun i hi _ hDi=>by rw [hD i hi] at hDi;cases hDi
 rw [h1,h2]
theorem put_get (x:Act) (d:Option Tmp) (v:Value) (s:Tmp):(x.put d v).tmps[s]?=if d=some s then (if s<x.tmps.size then some v else none) else x.tmps[s]?:=by
 by_cases h:d=some s
 ·subst h;simp only [if_true];exact put_self x s v
 ·rw [if_neg h,put_other x h]
theorem Rel.tail (hf:RegFacts ops fl hd) {D:Nat→Bool} (hcl:Closed ops D) {x y x' y':Act} (h:Rel ops fl hd vals a D x y) {t:Nat} {o:Oper} (ho:ops[t]?=some o) (hT:(fl t||hd t)=false)
 (hall: ∀e∈o.after,Region.binds .any e=true→D e.on=true) {v:Value} (hx:x'.tmps=(x.put o.dst v).tmps) (hy:y'.tmps=(y.put o.dst v).tmps) (hdf:x'.defers=y'.defers):
 Rel ops fl hd vals a (fun j=>if j=t then true else D j) x' y':=by
 have hdst:dstOf ops t=o.dst:=by simp [dstOf,ho]
 have hlt:t<ops.size:=(Array.getElem?_eq_some_iff.1 ho).1
 have hnt: ∀i,fl i=true→i≠t:=fun i hi hh=>by subst hh;simp [hi] at hT
 refine ⟨hdf,by rw [hx,put_size,h.size],by rw [hy,put_size,h.size'],fun s hs=>?_,fun i s hi hfi hDi hs=>?_,fun i oi s hoi hfi hDi hs=>?_⟩
 ·rw [hx,hy,put_get,put_get,h.size,h.size']
  split
  ·rfl
  ·exact h.same s fun i hi hfi hDi=>hs i hi hfi (by rw [if_neg (hnt i hfi)];exact hDi)
 ·rw [if_neg (hnt i hfi)] at hDi
  rw [hy,put_get,if_neg]
  ·exact h.todo i s hi hfi hDi hs
  ·rw [←hdst];exact hf.two i t s hfi hT hs
 ·rw [if_neg (hnt i hfi)] at hDi
  have hne:o.dst≠some s:=fun hh=>by
   have:=hf.lookT i oi s hoi hfi hs t hT (by rw [hdst];exact hh) D hcl o ho hall
   rw [hDi] at this;cases this
  rw [hx,put_other _ hne,h.look i oi s hoi hfi hDi hs]
  refine par_agree ops.size fun j hj hjd=>?_
  by_cases hjt:j=t
  ·subst hjt;rw [hdst] at hjd;exact (hne hjd).elim
  ·simp [hjt]
theorem Rel.float (hf:RegFacts ops fl hd) {D:Nat→Bool} {x y:Act} (h:Rel ops fl hd vals a D x y) {i:Nat} {o:Oper} (ho:ops[i]?=some o) (hi:fl i=true) (hDi:D i=false):
 Rel ops fl hd vals a (fun j=>if j=i then true else D j) (x.put o.dst (vals i)) y:=by
 have hdst:dstOf ops i=o.dst:=by simp [dstOf,ho]
 have hlt:i<ops.size:=(Array.getElem?_eq_some_iff.1 ho).1
 refine ⟨by rw [put_defers];exact h.defers,by rw [put_size,h.size],h.size',fun s hs=>?_,fun j s hj hfj hDj hs=>?_,fun j oj s hoj hfj hDj hs=>?_⟩
 ·rw [put_get]
  split
  ·rename_i hd'
   rw [h.size,h.todo i s hlt hi hDi (by rw [hdst];exact hd')]
  ·rename_i hd'
   refine h.same s fun j hj hfj hDj hjs=>?_
   by_cases hji:j=i
   ·subst hji;rw [hdst] at hjs;exact hd' hjs
   ·exact hs j hj hfj (by rw [if_neg hji];exact hDj) hjs
 ·by_cases hji:j=i
  ·subst hji;simp at hDj
  ·rw [if_neg hji] at hDj;exact h.todo j s hj hfj hDj hs
 ·by_cases hji:j=i
  ·subst hji;simp at hDj
  ·rw [if_neg hji] at hDj
   have e:(fun k=>(fl k||hd k)&&(if k=i then true else D k))=fun k=>if k=i then true else ((fl k||hd k)&&D k):=by
    funext k
    by_cases hk:k=i
    ·subst hk;simp [hi]
    ·simp [hk]
   have hpar:= @par_put ops a vals (fun k=>(fl k||hd k)&&D k) i ops.size hlt (fun j hj hne hDj s hs=>by
    simp only [Bool.and_eq_true] at hDj
    exact hf.one i j s (by simp [hi]) hDj.1 hne hs)
   rw [e,←hpar,hdst,put_get,put_get,h.size,par_size]
   split
   ·rfl
   ·exact h.look j oj s hoj hfj hDj hs
def Float1 (P:Program) (ops:Array Oper) (o:Oper) (act:Act) (v:Value):Prop:=
 (Region.wanted o (yielded ops act.tmps)=false∧v=undef)∨
 (Region.wanted o (yielded ops act.tmps)=true∧ ∀w,(execOp act.eval o).run P w= .ok (.value v) w)
theorem Float1.slot {o:Oper} {x y:Act} {v:Value} (hs: ∀cs b,o.op≠ .select cs b) (h: ∀d∈o.looksAt ops,x.tmps[d]?=y.tmps[d]?) (q:Float1 P ops o x v):Float1 P ops o y v:=by
 unfold Float1 at*
 rw [←exec_slot hs h,←wanted_slot h]
 exact q
theorem Float1.wpOp {i:Nat} {o:Oper} {act:Act} {v:Value} {w:World} {K:Act→World→Prop} (ho:ops[i]?=some o) (q:Float1 P ops o act v) (h:K (act.put o.dst v) w):
 Go.wpOp P ops Q i K act w:=by
 unfold Go.wpOp
 simp only [ho]
 rcases q with ⟨hw,rfl⟩|⟨hw,q⟩
 ·simp only [hw,Bool.false_eq_true,if_false];exact h
 ·simp only [hw,if_true]
  left
  unfold Oper.wp
  rw [q];exact h
end tail
end
end Go.Sy
end
section
set_option autoImplicit true
set_option relaxedAutoImplicit true
set_option linter.unusedVariables false
set_option linter.unusedSimpArgs false
namespace Go.Sy
open Go
section
variable {P:Program} {ops:Array Oper} {Q:Exit→Act→World→Prop}
def QW (P:Program) (ops:Array Oper) (o:Oper) (a:Act) (w:World) (v:Value):Prop:=
 (Region.wanted o (yielded ops a.tmps)=false∧v=undef)∨
 (Region.wanted o (yielded ops a.tmps)=true∧(execOp a.eval o).run P w= .ok (.value v) w)
theorem QW.slot {o:Oper} {x y:Act} {w:World} {v:Value} (hs: ∀cs b,o.op≠ .select cs b) (h: ∀d∈o.looksAt ops,x.tmps[d]?=y.tmps[d]?) (q:QW P ops o x w v):QW P ops o y w v:=by
 unfold QW at*
 rw [←exec_slot hs h,←wanted_slot h]
 exact q
theorem QW.wpOp {i:Nat} {o:Oper} {act:Act} {v:Value} {w:World} {K:Act→World→Prop} (ho:ops[i]?=some o) (q:QW P ops o act w v) (h:K (act.put o.dst v) w):
 Go.wpOp P ops Q i K act w:=by
 unfold Go.wpOp
 simp only [ho]
 rcases q with ⟨hw,rfl⟩|⟨hw,q⟩
 ·simp only [hw,Bool.false_eq_true,if_false];exact h
 ·simp only [hw,if_true]
  left
  unfold Oper.wp
  rw [q];exact h
def wpQ (P:Program) (ops:Array Oper) (out:Prop) (K:Act→World→Prop):List (Nat×Oper)→Act→World→Prop
 |[],a,w=>K a w
 |(0,o)::r,a,w=>if Region.wanted o (yielded ops a.tmps) then opN P o a w (wpQ P ops out K r) out else wpQ P ops out K r (a.put o.dst undef) w
 |(1,o)::r,a,w=> ∃v,QW P ops o a w v∧wpQ P ops out K r (a.put o.dst v) w
 |(_+2,o)::r,a,w=>(∃v,QW P ops o a w v∧a.put o.dst v=a)∧wpQ P ops out K r a w
theorem opN_mono {o:Oper} {a:Act} {w:World} {next next':Act→World→Prop} {out:Prop} (h:opN P o a w next out) (hn: ∀a w,next a w→next' a w):opN P o a w next' out:=by
 unfold opN at*
 generalize (execOp a.eval o).run P w=r at*
 cases r with
 |ok n w'=>
  cases n<;>simp only at h⊢ <;>first
   |exact hn _ _ h
   |exact h.elim
   |exact h.mono fun e w'' he=>by
     cases e with
     |returned v=>exact hn _ _ he
     |panicked c=>exact he.elim
     |outgrown=>exact he
 |halt x w'=>exact h.elim
theorem wpQ_zero: ∀{l:List Oper} {a:Act} {w:World},wpQ P ops (LetsOut Q) (Q .normal) (l.map fun o=>(0,o)) a w→wpN P ops Q l a w
 |[],_,_,h=>h
 |o::r,a,w,h=>by
  simp only [List.map_cons,wpQ] at h
  simp only [wpN]
  split
  ·rename_i hw;rw [if_pos hw] at h;exact opN_mono h fun _ _ h=>wpQ_zero h
  ·rename_i hw;rw [if_neg hw] at h;exact wpQ_zero h
def softOp (o:Oper):Bool:=
 match o.op with
 | .move _| .pick .. | .build .. | .load .. | .nilCheck _| .binOp .. | .unOp .. | .convert .. | .makeInterface .. | .makeFunc .. | .slice .. | .fieldAddr .. | .field .. | .indexAddr .. | .index .. | .lookup .. | .typeAssert .. | .extract .. =>true
 | .call c=>match c.callee with
   | .builtin .len| .builtin .cap| .builtin .min| .builtin .max=>true
   |_=>false
 |_=>false
def softAt (ops:Array Oper) (i:Nat):Bool:=
 match ops[i]? with
 |some o=>softOp o
 |none=>false
def needM (M:List Nat) (x y:Nat):Bool:=(M.getD x 0).testBit y
def availM (ops:Array Oper) (M:List Nat) (done:List Nat) (i:Nat):Bool:=(List.range ops.size).all fun j=>softAt ops j||!needM M i j||done.contains j
def candsM (ops:Array Oper) (M:List Nat) (done:List Nat):List Nat:=(List.range ops.size).filter fun i=>!softAt ops i&&!done.contains i&&availM ops M done i
def ableM (ops:Array Oper) (M:List Nat) (done:List Nat):List Nat:=(List.range ops.size).filter fun i=>softAt ops i&&availM ops M done i
def forcedM (M:List Nat) (done:List Nat) (i:Nat):Bool:=done.any fun k=>needM M k i
def itemsAt (ops:Array Oper) (k:Nat) (l:List Nat):List (Nat×Oper):=l.filterMap fun i=>(ops[i]?).map fun o=>(k,o)
def behindM (ops:Array Oper) (M:List Nat) (done:List Nat) (h:Nat):List (Nat×Oper):=
 itemsAt ops 2 ((ableM ops M done).filter fun i=>!forcedM M (h::done) i)++itemsAt ops 1 ((ableM ops M (h::done)).filter fun i=>!availM ops M done i)
def wpA (P:Program) (ops:Array Oper) (M:List Nat) (Q:Exit→Act→World→Prop):Nat→List Nat→Act→World→Prop
 |0,_,a,w=>Q .normal a w
 |k+1,done,a,w=>(candsM ops M done=[]→Q .normal a w)∧ ∀h∈candsM ops M done,∀o,ops[h]?=some o→wpQ P ops (LetsOut Q) (wpA P ops M Q k (h::done)) ((0,o)::behindM ops M done h) a w
def planPair (ops:Array Oper) (M:List Nat) (i:Nat) (o:Oper) (j:Nat) (q:Oper):Bool:=
 match o.dst with
 |none=>true
 |some d=>
  let look:=(q.looksAt ops).contains d
  if softOp o then
   (i==j||q.dst !=some d)&&
   (!look||(i !=j&&((needM M j i&&(!softOp q||Nat.beq (M.getD i 0|||M.getD j 0) (M.getD j 0)))||(!softOp q&&needM M i j))))
  else !(softOp q&&look)||needM M j i||needM M i j
def planOk (ops:Array Oper) (M:List Nat):Bool:=
 Region.noSelect ops&&
 (ops.toList.zipIdx.all fun (o,i)=>chkEdges i o&&ops.toList.zipIdx.all fun (q,j)=>planPair ops M i o j q)
def Over (M:List Nat) (j i:Nat):Prop:=needM M j i=true∧ ∀t,needM M i t=true→needM M j t=true
structure PlanFacts (ops:Array Oper):Prop where
 sel: ∀(j:Nat) (o:Oper) cs b,ops[j]?=some o→o.op≠ .select cs b
 edges: ∀i o,ops[i]?=some o→ ∀e∈o.after,Region.binds .any e=true→e.on<i
 one: ∀(i j:Nat) (o q:Oper) s,ops[i]?=some o→ops[j]?=some q→softOp o=true→o.dst=some s→j≠i→q.dst≠some s
 self: ∀(i:Nat) (o:Oper) s,ops[i]?=some o→softOp o=true→o.dst=some s→s∉o.looksAt ops
 look: ∀(i j:Nat) (o q:Oper) s,ops[i]?=some o→ops[j]?=some q→softOp o=true→o.dst=some s→s∈q.looksAt ops→(Needs ops j i∧(softOp q=true→Over (allMasks ops) j i))∨(softOp q=false∧needM (allMasks ops) i j=true)
 hard: ∀(i j:Nat) (o q:Oper) s,ops[i]?=some o→ops[j]?=some q→softOp o=false→softOp q=true→o.dst=some s→s∈q.looksAt ops→Needs ops j i∨Needs ops i j
theorem planOk_ok (h:planOk ops (allMasks ops)=true):PlanFacts ops:=by
 simp only [planOk,Bool.and_eq_true] at h
 obtain ⟨hs,hall⟩:=h
 have key:=fun {i:Nat} {o:Oper} (ho:ops[i]?=some o)=>zipAll (P:=fun o i=>chkEdges i o&&ops.toList.zipIdx.all fun (q,j)=>planPair ops (allMasks ops) i o j q) hall ho
 have kE: ∀{i:Nat} {o:Oper},ops[i]?=some o→chkEdges i o=true:=fun ho=>by have:=key ho;simp only [Bool.and_eq_true] at this;exact this.1
 have kP: ∀{i j:Nat} {o q:Oper},ops[i]?=some o→ops[j]?=some q→planPair ops (allMasks ops) i o j q=true:=fun {i j o q} ho hq=>by
  have:=key ho;simp only [Bool.and_eq_true] at this
  exact zipAll (P:=fun q j=>planPair ops (allMasks ops) i o j q) this.2 hq
 refine ⟨Region.noSelect_spec hs,fun i o ho e he hb=>?_,fun i j o q s ho hq hso hd hne hqd=>?_,fun i o s ho hso hd hl=>?_,fun i j o q s ho hq hso hd hl=>?_,fun i j o q s ho hq hso hsq hd hl=>?_⟩
 ·have:=List.all_eq_true.1 (kE ho) e (by simpa using he)
  simp only [hb,Bool.not_true,Bool.false_or,decide_eq_true_eq] at this
  exact this
 ·have:=kP ho hq
  have hij:(i==j)=false:=by simpa using fun h=>hne h.symm
  simp [planPair,hd,hso,hqd,hij] at this
 ·have:=kP ho ho
  have hc:(o.looksAt ops).contains s=true:=List.contains_iff_mem.2 hl
  simp only [planPair,hd,hso,if_true,hc,Bool.not_true,Bool.false_or,bne_self_eq_false,Bool.false_and,Bool.and_false] at this
  cases this
 ·have:=kP ho hq
  have hc:(q.looksAt ops).contains s=true:=List.contains_iff_mem.2 hl
  simp only [planPair,hd,hso,if_true,hc,Bool.not_true,Bool.false_or,Bool.and_eq_true,Bool.or_eq_true,Bool.not_eq_true'] at this
  rcases this.2.2 with ⟨h,h3⟩|⟨h1,h2⟩
  ·refine .inl ⟨allMasks_ok h,fun hq2=>⟨h,fun t ht=>?_⟩⟩
   rw [hq2] at h3
   have h3:=Nat.eq_of_beq_eq_true (h3.resolve_left (by simp))
   unfold needM at ht⊢
   rw [←h3,Nat.testBit_or,ht];rfl
  ·exact .inr ⟨h1,h2⟩
 ·have:=kP ho hq
  have hc:(q.looksAt ops).contains s=true:=List.contains_iff_mem.2 hl
  simp only [planPair,hd,hso,hsq,if_true,hc,Bool.and_self,Bool.not_true,Bool.false_or,Bool.false_eq_true,if_false,Bool.or_eq_true] at this
  exact this.imp allMasks_ok allMasks_ok
theorem items_one {k:Nat} {l:List Nat} {x:Nat×Oper} (h:x∈itemsAt ops k l):x.1=k:=by
 unfold itemsAt at h
 rw [List.mem_filterMap] at h
 obtain ⟨i,_,h⟩:=h
 cases ho:ops[i]? with
 |none=>rw [ho] at h;cases h
 |some o=>rw [ho] at h;simp only [Option.map_some,Option.some.injEq] at h;rw [←h]
theorem items_mem {k:Nat} {l:List Nat} {i:Nat} {o:Oper} (hi:i∈l) (ho:ops[i]?=some o):(k,o)∈itemsAt ops k l:=by
 unfold itemsAt
 rw [List.mem_filterMap]
 exact ⟨i,hi,by rw [ho];rfl⟩
theorem wpQ_twos {out:Prop} {K:Act→World→Prop} {r:List (Nat×Oper)} {a:Act} {w:World}: ∀{l:List (Nat×Oper)},(∀x∈l,x.1=2)→wpQ P ops out K (l++r) a w→(∀x∈l,∃v,QW P ops x.2 a w v∧a.put x.2.dst v=a)∧wpQ P ops out K r a w
 |[],_,h=>⟨fun x hx=>(by cases hx),h⟩
 |(k,o)::l,hk,h=>by
  have:k=2:=hk (k,o) (by simp)
  subst this
  simp only [List.cons_append,wpQ] at h
  obtain ⟨h1,h2⟩:=wpQ_twos (fun x hx=>hk x (by simp [hx])) h.2
  refine ⟨fun x hx=>?_,h2⟩
  cases hx with
  |head=>exact h.1
  |tail _ hx=>exact h1 x hx
theorem put_put_self {a:Act} {d:Option Tmp} {v:Value}:(a.put d v).put d v=a.put d v:=by
 cases d with
 |none=>rfl
 |some d=>simp [Act.put]
theorem QW.keep {o:Oper} (hs: ∀cs b,o.op≠ .select cs b) {a:Act} {w:World} {v u:Value} {d:Option Tmp} (h1: ∀s,d=some s→s∉o.looksAt ops) (h2: ∀s,d=some s→o.dst≠some s)
 (q:QW P ops o a w v∧a.put o.dst v=a):QW P ops o (a.put d u) w v∧(a.put d u).put o.dst v=a.put d u:=by
 refine ⟨q.1.slot hs fun s hsl=>(put_other _ (fun hh=>h1 s hh hsl) u).symm,?_⟩
 rw [Act.put_comm a u v h2,q.2]
theorem wpQ_ones (hf:PlanFacts ops) {out:Prop} {K:Act→World→Prop} {w:World}: ∀(l:List Nat) (a:Act) (old:List Nat),(∀i∈l,softAt ops i=true)→(∀i∈old,softAt ops i=true)→
 List.Pairwise (·< ·) l→(∀i∈old,∀j∈l,i≠j∧ ¬Over (allMasks ops) i j)→
 (∀i∈old,∀o,ops[i]?=some o→ ∃v,QW P ops o a w v∧a.put o.dst v=a)→wpQ P ops out K (itemsAt ops 1 l) a w→
 ∃a',K a' w∧a'.defers=a.defers∧a'.tmps.size=a.tmps.size∧(∀s,(∀i∈l,dstOf ops i≠some s)→a'.tmps[s]?=a.tmps[s]?)∧
  (∀i,(i∈old∨i∈l)→ ∀o,ops[i]?=some o→ ∃v,QW P ops o a' w v∧a'.put o.dst v=a')
 |[],a,old,_,_,_,_,ho,h=>⟨a,h,rfl,rfl,fun _ _=>rfl,fun i hi o hoi=>by rcases hi with hi|hi;exact ho i hi o hoi;cases hi⟩
 |i::l,a,old,hl,hold,hp,hn,ho,h=>by
  have hsi:=hl i (by simp)
  obtain ⟨o,hoi⟩: ∃o,ops[i]?=some o:=by
   unfold softAt at hsi
   cases hh:ops[i]? with
   |none=>rw [hh] at hsi;cases hsi
   |some o=>exact ⟨o,rfl⟩
  have hso:softOp o=true:=by unfold softAt at hsi;rw [hoi] at hsi;exact hsi
  have e1:itemsAt ops 1 (i::l)=(1,o)::itemsAt ops 1 l:=by simp [itemsAt,hoi]
  rw [e1] at h
  simp only [wpQ] at h
  obtain ⟨v,hq,h⟩:=h
  rw [List.pairwise_cons] at hp
  obtain ⟨a',k1,k2,k3,k4,k5⟩:=wpQ_ones hf l (a.put o.dst v) (i::old) (fun j hj=>hl j (by simp [hj])) (fun j hj=>by
   cases hj with
   |head=>exact hsi
   |tail _ hj=>exact hold j hj) hp.2 (fun j hj k hk=>by
   cases hj with
   |head=>
    have hlt:=hp.1 k hk
    refine ⟨by omega,fun hN=>?_⟩
    have hD:Closed ops (fun x=>decide (x<i)):=fun x ox hox hx e he hb=>by
     have:=hf.edges x ox hox e he hb
     have hx:decide (x<i)=true:=hx
     show decide (e.on<i)=true
     simp only [decide_eq_true_eq] at hx⊢
     omega
    have:=allMasks_ok hN.1 _ hD o hoi fun e he hb=>by
     have:=hf.edges i o hoi e he hb
     simpa using this
    simp only [decide_eq_true_eq] at this
    omega
   |tail _ hj=>exact hn j hj k (by simp [hk])) (fun j hj oj hoj=>by
   cases hj with
   |head=>
    rw [hoi] at hoj
    cases hoj
    refine ⟨v,hq.slot (fun cs b=>hf.sel i o cs b hoi) fun s hs=>(put_other _ (fun hh=>hf.self i o s hoi hso hh hs) v).symm,put_put_self⟩
   |tail _ hj=>
    obtain ⟨u,hu⟩:=ho j hj oj hoj
    have hne:=hn j hj i (by simp)
    refine ⟨u,hu.1.slot (fun cs b=>hf.sel j oj cs b hoj) fun s hs=>(put_other _ (fun hh=>?_) v).symm,?_⟩
    ·rcases hf.look i j o oj s hoi hoj hso hh hs with h1|⟨h1,_⟩
     ·exact hne.2 (h1.2 (by have:=hold j hj;unfold softAt at this;rw [hoj] at this;exact this))
     ·have:=hold j hj
      unfold softAt at this
      rw [hoj] at this
      simp only [h1] at this
      cases this
    ·rw [Act.put_comm a v u fun d hd=>fun hh=>hf.one i j o oj d hoi hoj hso hd hne.1 hh,hu.2]) h
  refine ⟨a',k1,by rw [k2,put_defers],by rw [k3,put_size],fun s hs=>?_,fun j hj oj hoj=>k5 j ?_ oj hoj⟩
  ·rw [k4 s fun j hj=>hs j (by simp [hj])]
   exact put_other _ (by have:=hs i (by simp);simpa [dstOf,hoi] using this) v
  ·rcases hj with hj|hj
   ·exact .inl (by simp [hj])
   ·cases hj with
    |head=>exact .inl (by simp)
    |tail _ hj=>exact .inr hj
def Pend (ops:Array Oper) (listed:Array Bool) (done:List Nat) (i:Nat):Prop:=softAt ops i=true∧availM ops (allMasks ops) done i=true∧listed.getD i false=false∧i<ops.size
theorem soft_of {i:Nat} {o:Oper} (ho:ops[i]?=some o):softAt ops i=softOp o:=by unfold softAt;rw [ho]
theorem avail_iff {done:List Nat} {i:Nat}:availM ops (allMasks ops) done i=true↔ ∀j,j<ops.size→softAt ops j=false→needM (allMasks ops) i j=true→j∈done:=by
 unfold availM
 rw [List.all_eq_true]
 constructor
 ·intro h j hj hs hn
  have:=h j (List.mem_range.2 hj)
  simpa [hs,hn] using this
 ·intro h j hj
  have hj:=List.mem_range.1 hj
  cases hs:softAt ops j with
  |true=>simp
  |false=>
   cases hn:needM (allMasks ops) i j with
   |false=>simp
   |true=>simp [h j hj hs hn]
theorem avail_mono {done:List Nat} {i h:Nat} (ha:availM ops (allMasks ops) done i=true):availM ops (allMasks ops) (h::done) i=true:=
 avail_iff.2 fun j hj hs hn=>List.mem_cons_of_mem _ (avail_iff.1 ha j hj hs hn)
theorem plan_any (hf:PlanFacts ops):
 ∀(d f k:Nat) (listed:Array Bool) (done:List Nat) (x y:Act) (w:World),listed.size=ops.size→left ops.size listed=d→d≤f→d≤k→Closed ops (fun j=>listed.getD j false)→
  (∀t,t<ops.size→softAt ops t=false→(listed.getD t false=true↔t∈done))→(∀t∈done,t<ops.size∧softAt ops t=false)→
  x.defers=y.defers→x.tmps.size=y.tmps.size→(∀s,(∀i,Pend ops listed done i→dstOf ops i≠some s)→x.tmps[s]?=y.tmps[s]?)→
  (∀i,Pend ops listed done i→ ∀o,ops[i]?=some o→ ∃v,QW P ops o y w v∧y.put o.dst v=y)→
  wpA P ops (allMasks ops) Q k done y w→wpAny P .any ops Q f listed x w:=by
 intro d
 induction d with
 |zero=>
  intro f k listed done x y w hsz hd0 hdf hdk hcl hH hdn hdef hsize hR hP hW
  have hall: ∀j,j<ops.size→listed.getD j false=true:=fun j hj=>left_zero hd0 hj
  have hxy:x=y:=by
   obtain ⟨xt,xd⟩:=x;obtain ⟨yt,yd⟩:=y
   simp only at hdef;subst hdef
   have:xt=yt:=Array.ext_getElem? fun s=>hR s fun i hi _=>by
    have:=hi.2.2.1
    rw [hall i hi.2.2.2] at this;cases this
   rw [this]
  subst hxy
  have hr:Region.ready .any ops listed=[]:=by
   rw [List.eq_nil_iff_forall_not_mem]
   intro i hi
   obtain ⟨h2,h3,_⟩:=ready_un hsz hi
   rw [hall i h2] at h3;cases h3
  refine wpAny_done hr ?_ f
  cases k with
  |zero=>exact hW
  |succ k=>
   refine hW.1 ?_
   rw [List.eq_nil_iff_forall_not_mem]
   intro i hi
   unfold candsM at hi
   rw [List.mem_filter] at hi
   simp only [Bool.and_eq_true,Bool.not_eq_true'] at hi
   have hlt:=List.mem_range.1 hi.1
   have:=(hH i hlt hi.2.1.1).1 (hall i hlt)
   have:=hi.2.1.2
   simp_all
 |succ d ih=>
  intro f k listed done x y w hsz hd0 hdf hdk hcl hH hdn hdef hsize hR hP hW
  obtain ⟨f,rfl⟩: ∃f',f=f'+1:=⟨f - 1,by omega⟩
  obtain ⟨k,rfl⟩: ∃k',k=k'+1:=⟨k - 1,by omega⟩
  refine ⟨fun hr=>?_,fun i hi=>?_⟩
  ·exfalso
   have hall: ∀m,m<ops.size→listed.getD m false=true:=by
    intro m
    induction m using Nat.strongRecOn with
    |_ m ihm=>
     intro hlt
     cases hmu:listed.getD m false with
     |true=>rfl
     |false=>
      exfalso
      obtain ⟨o,ho⟩: ∃o,ops[m]?=some o:=⟨ops[m],by simp [hlt]⟩
      have:m∈Region.ready .any ops listed:=by
       rw [mem_ready]
       have hli:m<listed.size:=by omega
       refine ⟨?_,o,ho,fun e he hb=>?_⟩
       ·rw [Array.getD_eq_getD_getElem?] at hmu⊢
        simp [hli] at hmu⊢
        exact hmu
       ·have hlt2:=hf.edges m o ho e he hb
        exact ihm e.on hlt2 (by omega)
      rw [hr] at this
      cases this
   have:left ops.size listed=0:=by
    unfold left
    rw [List.length_eq_zero_iff,List.filter_eq_nil_iff]
    intro j hj
    rw [hall j (List.mem_range.1 hj)];simp
   omega
  ·obtain ⟨hlt,hiu,o,ho,hall⟩:=ready_un hsz hi
   have hli:i<listed.size:=by omega
   have hdst:dstOf ops i=o.dst:=by simp [dstOf,ho]
   have hleft:=left_set hlt hli hiu
   have hcl':Closed ops (fun j=>(listed.setIfInBounds i true).getD j false):=by rw [←set_fun hli];exact closed_put hcl ho hall
   have hneed: ∀j,Needs ops i j→listed.getD j false=true:=fun j hN=>hN _ hcl o ho hall
   have hav:availM ops (allMasks ops) done i=true:=avail_iff.2 fun j hj hs hn=>(hH j hj hs).1 (hneed j (allMasks_ok hn))
   have hset:(listed.setIfInBounds i true).getD i false=true:=by
    rw [Array.getD_eq_getD_getElem?];simp [hli]
   have hslot: ∀s∈o.looksAt ops,x.tmps[s]?=y.tmps[s]?:=fun s hs=>hR s fun j hj hjs=>by
    obtain ⟨hj1,hj2,hj3,hj4⟩:=hj
    obtain ⟨oj,hoj⟩: ∃oj,ops[j]?=some oj:=⟨ops[j],by simp [hj4]⟩
    have hjd:oj.dst=some s:=by simpa [dstOf,hoj] using hjs
    rw [soft_of hoj] at hj1
    rcases hf.look j i oj o s hoj ho hj1 hjd hs with ⟨h1,_⟩|⟨h1,h2⟩
    ·have:=hneed j h1
     rw [hj3] at this;cases this
    ·have hi1:=avail_iff.1 hj2 i hlt (by rw [soft_of ho];exact h1) h2
     have:=(hH i hlt (by rw [soft_of ho];exact h1)).2 hi1
     rw [hiu] at this;cases this
   cases hsi:softAt ops i with
   |true=>
    have hpi:Pend ops listed done i:=⟨hsi,hav,hiu,hlt⟩
    obtain ⟨v,hq,hput⟩:=hP i hpi o ho
    have hqx:QW P ops o x w v:=hq.slot (fun cs b=>hf.sel i o cs b ho) fun s hs=>(hslot s hs).symm
    refine hqx.wpOp ho ?_
    have hpe: ∀j,Pend ops (listed.setIfInBounds i true) done j→Pend ops listed done j∧j≠i:=fun j hj=>by
     have hne:j≠i:=fun hh=>by subst hh;have:=hj.2.2.1;rw [hset] at this;cases this
     exact ⟨⟨hj.1,hj.2.1,by have:=hj.2.2.1;rwa [getD_set_ne false (Ne.symm hne)] at this,hj.2.2.2⟩,hne⟩
    refine ih f (k+1) _ done _ y w (by simp [hsz]) (by omega) (by omega) (by omega) hcl' (fun t ht hst=>?_) hdn (by rw [put_defers];exact hdef) (by rw [put_size];exact hsize) (fun s hs=>?_) (fun j hj oj hoj=>hP j (hpe j hj).1 oj hoj) hW
    ·have:i≠t:=fun hh=>by subst hh;rw [hsi] at hst;cases hst
     rw [getD_set_ne false this];exact hH t ht hst
    ·rw [put_get]
     split
     ·rename_i hd'
      have:y.tmps[s]?=(y.put o.dst v).tmps[s]?:=by rw [hput]
      rw [this,put_get,if_pos hd',hsize]
     ·rename_i hd'
      refine hR s fun j hj hjs=>?_
      by_cases hji:j=i
      ·subst hji;rw [hdst] at hjs;exact hd' hjs
      ·refine hs j ⟨hj.1,hj.2.1,?_,hj.2.2.2⟩ hjs
       rw [getD_set_ne false (Ne.symm hji)];exact hj.2.2.1
   |false=>
    have hso:softOp o=false:=by rw [←soft_of ho];exact hsi
    have hnd:i∉done:=fun hh=>by have:=(hH i hlt hsi).2 hh;rw [hiu] at this;cases this
    have hc:i∈candsM ops (allMasks ops) done:=by
     unfold candsM
     rw [List.mem_filter]
     refine ⟨List.mem_range.2 hlt,?_⟩
     simp [hsi,hnd,hav]
    have h:=hW.2 i hc o ho
    simp only [wpQ] at h
    have next: ∀(x' y':Act) (v:Value) (w':World),x'.tmps=(x.put o.dst v).tmps→y'.tmps=(y.put o.dst v).tmps→x'.defers=y'.defers→
     wpQ P ops (LetsOut Q) (wpA P ops (allMasks ops) Q k (i::done)) (behindM ops (allMasks ops) done i) y' w'→wpAny P .any ops Q f (listed.setIfInBounds i true) x' w':=fun x' y' v w' h1 h2 h3 h4=>by
     unfold behindM at h4
     obtain ⟨q1,q2⟩:=wpQ_twos (fun x hx=>items_one hx) h4
     obtain ⟨y'',k1,k2,k3,k4,k5⟩:=wpQ_ones hf ((ableM ops (allMasks ops) (i::done)).filter fun j=>!availM ops (allMasks ops) done j) y' ((ableM ops (allMasks ops) done).filter fun j=>!forcedM (allMasks ops) (i::done) j)
      (fun j hj=>by
        rw [List.mem_filter] at hj
        have:=hj.1
        unfold ableM at this
        rw [List.mem_filter] at this
        simp only [Bool.and_eq_true] at this
        exact this.2.1)
      (fun j hj=>by
        rw [List.mem_filter] at hj
        have:=hj.1
        unfold ableM at this
        rw [List.mem_filter] at this
        simp only [Bool.and_eq_true] at this
        exact this.2.1)
      (by
        refine List.Pairwise.filter _ ?_
        unfold ableM
        refine List.Pairwise.filter _ ?_
        exact List.pairwise_lt_range)
      (fun j hj l hl=>by
        rw [List.mem_filter] at hj hl
        have hj1:=hj.1
        have hl1:=hl.1
        unfold ableM at hj1 hl1
        rw [List.mem_filter] at hj1 hl1
        simp only [Bool.and_eq_true] at hj1 hl1
        have hl2:=hl.2
        simp only [Bool.not_eq_true'] at hl2
        refine ⟨fun hh=>?_,fun hov=>?_⟩
        ·subst hh;rw [hj1.2.2] at hl2;cases hl2
        ·have:availM ops (allMasks ops) done l=true:=avail_iff.2 fun t ht hst hn=>avail_iff.1 hj1.2.2 t ht hst (hov.2 t hn)
         rw [this] at hl2;cases hl2)
      (fun j hj oj hoj=>q1 (2,oj) (items_mem hj hoj)) q2
     have hpe: ∀j,Pend ops (listed.setIfInBounds i true) (i::done) j→j≠i∧listed.getD j false=false∧
      (j∈((ableM ops (allMasks ops) done).filter fun j=>!forcedM (allMasks ops) (i::done) j)∨j∈((ableM ops (allMasks ops) (i::done)).filter fun j=>!availM ops (allMasks ops) done j)):=fun j hj=>by
      have hne:j≠i:=fun hh=>by subst hh;have:=hj.2.2.1;rw [hset] at this;cases this
      have hju:listed.getD j false=false:=by have:=hj.2.2.1;rwa [getD_set_ne false (Ne.symm hne)] at this
      refine ⟨hne,hju,?_⟩
      cases hav2:availM ops (allMasks ops) done j with
      |true=>
       left
       rw [List.mem_filter]
       refine ⟨?_,?_⟩
       ·unfold ableM
        rw [List.mem_filter]
        exact ⟨List.mem_range.2 hj.2.2.2,by simp [hj.1,hav2]⟩
       ·simp only [Bool.not_eq_true']
        cases hfo:forcedM (allMasks ops) (i::done) j with
        |false=>rfl
        |true=>
         exfalso
         unfold forcedM at hfo
         rw [List.any_eq_true] at hfo
         obtain ⟨t,ht,hn⟩:=hfo
         have hlj:listed.getD j false=true:=by
          rcases List.mem_cons.1 ht with rfl|ht
          ·exact hneed j (allMasks_ok hn)
          ·obtain ⟨htl,hts⟩:=hdn t ht
           obtain ⟨ot,hot⟩: ∃ot,ops[t]?=some ot:=⟨ops[t],by simp [htl]⟩
           exact allMasks_ok hn _ hcl ot hot fun e he hb=>hcl t ot hot ((hH t htl hts).2 ht) e he hb
         rw [hju] at hlj;cases hlj
      |false=>
       right
       rw [List.mem_filter]
       refine ⟨?_,by simp [hav2]⟩
       unfold ableM
       rw [List.mem_filter]
       exact ⟨List.mem_range.2 hj.2.2.2,by simp [hj.1,hj.2.1]⟩
     refine ih f k _ (i::done) x' y'' w' (by simp [hsz]) (by omega) (by omega) (by omega) hcl' (fun t ht hst=>?_) (fun t ht=>by
      rcases List.mem_cons.1 ht with rfl|ht
      ·exact ⟨hlt,hsi⟩
      ·exact hdn t ht) (by rw [h3,k2]) (by rw [k3,h1,h2,put_size,put_size];exact hsize) (fun s hs=>?_) (fun j hj oj hoj=>k5 j (hpe j hj).2.2 oj hoj) k1
     ·by_cases hti:i=t
      ·subst hti;simp [hset]
      ·rw [getD_set_ne false hti,hH t ht hst]
       simp [Ne.symm hti]
     ·rw [h1,k4 s fun j hj hjs=>?_,h2,put_get,put_get,hsize]
      ·split
       ·rfl
       ·rename_i hd'
        refine hR s fun j hj hjs=>hs j ⟨hj.1,avail_mono hj.2.1,?_,hj.2.2.2⟩ hjs
        have hne:i≠j:=fun hh=>by subst hh;rw [hj.1] at hsi;cases hsi
        rw [getD_set_ne false hne];exact hj.2.2.1
      ·rw [List.mem_filter] at hj
       have hj1:=hj.1
       unfold ableM at hj1
       rw [List.mem_filter] at hj1
       simp only [Bool.and_eq_true] at hj1
       have hjl:=List.mem_range.1 hj1.1
       have hne:i≠j:=fun hh=>by subst hh;rw [hj1.2.1] at hsi;cases hsi
       refine hs j ⟨hj1.2.1,hj1.2.2,?_,hjl⟩ hjs
       rw [getD_set_ne false hne]
       cases hjj:listed.getD j false with
       |false=>rfl
       |true=>
        exfalso
        have:availM ops (allMasks ops) done j=true:=avail_iff.2 fun t ht hst hn=>(hH t ht hst).1 (by
         obtain ⟨oj,hoj⟩: ∃oj,ops[j]?=some oj:=⟨ops[j],by simp [hjl]⟩
         exact allMasks_ok hn _ hcl oj hoj fun e he hb=>hcl j oj hoj hjj e he hb)
        have hj2:=hj.2
        rw [this] at hj2
        cases hj2
    unfold Go.wpOp
    simp only [ho]
    rw [wanted_slot hslot]
    split
    ·rename_i hw
     rw [if_pos hw] at h
     left
     unfold opN at h
     unfold Oper.wp
     rw [exec_slot (fun cs b=>hf.sel i o cs b ho) hslot]
     generalize (execOp y.eval o).run P w=r at*
     cases r with
     |halt z w'=>exact h.elim
     |ok n w'=>
      cases n<;>simp only [Oper.upon] at h⊢ <;>first
       |exact h.elim
       |exact next _ _ _ _ rfl rfl (by rw [put_defers,put_defers];exact hdef) h
       |skip
      ·exact h.mono fun e w'' he=>by
        cases e with
        |returned v=>exact next _ _ v _ rfl rfl (by rw [put_defers,put_defers];exact hdef) he
        |panicked c=>exact he.elim
        |outgrown=>exact he
      ·rename_i dd
       refine next _ _ undef _ ?_ ?_ ?_ h
       ·cases o.dst<;>rfl
       ·cases o.dst<;>rfl
       ·rw [put_defers,put_defers];simp only [hdef]
    ·rename_i hw
     rw [if_neg hw] at h
     exact next _ _ undef _ rfl rfl (by rw [put_defers,put_defers];exact hdef) h
theorem wp_region_plan {id:Nat} {a:Act} {w:World} (hm:P.follows .mixedOrders=true) (hc:planOk ops (allMasks ops)=true)
 (h:wpQ P ops (LetsOut Q) (wpA P ops (allMasks ops) Q ops.size []) (itemsAt ops 1 (ableM ops (allMasks ops) [])) a { w with drawn:=w.drawn+1 }):
 (Code.region id ops true).wp P Q a w:=by
 have hf:=planOk_ok hc
 refine wp_region_any hm ?_
 have hrep: ∀j,(Array.replicate ops.size false).getD j false=false:=fun j=>by
  rw [Array.getD_eq_getD_getElem?]
  by_cases h:j<ops.size<;>simp [h]
 have hl:left ops.size (Array.replicate ops.size false)=ops.size:=by
  unfold left
  rw [List.filter_eq_self.2 (fun j _=>by rw [hrep];rfl)];simp
 have hs: ∀j∈ableM ops (allMasks ops) [],softAt ops j=true:=fun j hj=>by
  unfold ableM at hj
  rw [List.mem_filter] at hj
  simp only [Bool.and_eq_true] at hj
  exact hj.2.1
 obtain ⟨y,k1,k2,k3,k4,k5⟩:=wpQ_ones hf (ableM ops (allMasks ops) []) a [] hs (fun _ h=>by cases h) (by
  unfold ableM
  exact List.Pairwise.filter _ List.pairwise_lt_range) (fun _ h=>by cases h) (fun _ h=>by cases h) h
 have hpe: ∀j,Pend ops (Array.replicate ops.size false) [] j↔j∈ableM ops (allMasks ops) []:=fun j=>by
  unfold ableM
  rw [List.mem_filter]
  constructor
  ·intro h;exact ⟨List.mem_range.2 h.2.2.2,by simp [h.1,h.2.1]⟩
  ·intro h
   simp only [Bool.and_eq_true] at h
   exact ⟨h.2.1,h.2.2,hrep j,List.mem_range.1 h.1⟩
 exact plan_any hf ops.size ops.size ops.size _ [] a y _ (by simp) hl (Nat.le_refl _) (Nat.le_refl _) (fun i o ho hD=>by simp only at hD;rw [hrep] at hD;cases hD)
  (fun t _ _=>by rw [hrep];simp) (fun _ h=>by cases h) k2.symm k3.symm (fun s hs=>(k4 s fun j hj=>hs j ((hpe j).2 hj)).symm) (fun j hj o ho=>k5 j (.inr ((hpe j).1 hj)) o ho) k1
end
end Go.Sy
end
section
set_option autoImplicit true
set_option relaxedAutoImplicit true
set_option linter.unusedVariables false
set_option linter.unusedSimpArgs false
namespace Go.Sy
open Go
variable {E:Env} {β:Nat→Bk} {P:Program} {w:World}
def rowLen (F:Fx) (n:SE) (ks:List SK) (tail:List SV):SE:= .mkAdd (nn F n) (.c ((tail.length/ks.length:Nat):Int))
def sOwn (P:Program) (gm:Gm) (F:Fx) (h:List SBlk) (tmps:Tm) (op:Op):RP:=
 match op with
 | .call c=>match c.callee,c.argTypes.toList,evL gm tmps c.args.toList with
   | .builtin .len,t::_,some [.own b]=>match P.underlying t,h[b]? with
     |some (.slice _),some (.row _ ks n tail _)=>if ks.length=0 then .no else .val (.int .i64 (rowLen F n ks tail))
     |_,_=> .no
   |_,_,_=> .no
 | .indexAddr T x ix=>match ev gm tmps x,ev gm tmps ix with
   |some (.own b),some (.int k i)=>match P.underlying T,h[b]? with
    |some (.slice e),some (.row _ ks n tail _)=>if sizeT P e=some ks.length∧ks.length≠0 then
      onB F (.mkLe (.c 0) i) (onB F (.mkLt i (rowLen F n ks tail)) (.val (.ptr b ⟨cstR F i,ks.length,0⟩)) .dead) .dead
     else .no
    |_,_=> .no
   |_,_=> .no
 |_=> .no
theorem row_den {F:Fx} (hF:Facts E F) {b:Nat} {a:AE} {ks:List SK} {n:SE} {tail:List SV} {S:TypeId} (hk:ks.length≠0) (h:SBlk.ok E β (β b) w (.row a ks n tail S)):
 ((β b).z=true∧(SV.own b).den E β= .slice none 0 0∧(rowLen F n ks tail).den E=0)∨
 ((β b).z=false∧(SV.own b).den E β= .slice (some ⟨(β b).a,0,none⟩) (β b).n (β b).c∧(rowLen F n ks tail).den E=((β b).n:Int)):=by
 obtain ⟨m,h1,h2⟩:=row_v h
 have hm:tail.length/ks.length=m:=by rw [h1];exact Nat.mul_div_cancel _ (Nat.pos_of_ne_zero hk)
 have hl:(rowLen F n ks tail).den E=(((n.den E).toNat+m:Nat):Int):=by
  unfold rowLen
  rw [SE.den_mkAdd,nn_ok hF,hm];simp [SE.den]
 rcases h2 with ⟨h3,h4,h5⟩|⟨h3,h4,_⟩
 ·left;refine ⟨h3,by simp [SV.den,Bk.v,h3],by rw [hl];omega⟩
 ·right;refine ⟨h3,by simp [SV.den,Bk.v,h3,show (β b).o=0 from h.1],by rw [hl,h4]⟩
theorem sOwn_ok {gm:Gm} (hg:gm.ok β) {F:Fx} (hF:Facts E F) {h:List SBlk} (hw:HOk E β h w) {tmps:Tm} {ds:List Deferred} {o:Oper} {v:SV}
 (hr:sOwn P gm F h tmps o.op= .val v):(execOp (actD E β tmps ds).eval o).run P w= .ok (.value (v.den E β)) w:=by
 unfold execOp
 cases ho:o.op<;>simp only [ho,sOwn] at hr<;>try (first|(cases hr;done))
 case call c=>
  split at hr
  ·rename_i t ts b hc hts hl
   split at hr
   ·rename_i e a ks n tail S hd hb
    split at hr
    ·cases hr
    ·rename_i hk
     cases hr
     simp only [resolve,hc,Sem.run_bind,Sem.run_pure,Result.andThen_ok,invoke,evL_arr (E:=E) (ds:=ds) hg hl]
     obtain ⟨argTypes,he⟩: ∃l,c.argTypes=l:=⟨_,rfl⟩
     rw [he] at hts⊢
     obtain ⟨argTypes⟩:=argTypes
     simp only at hts
     subst hts
     rcases row_den hF hk (hw.ok b _ hb) with ⟨_,h1,h2⟩|⟨_,h1,h2⟩
     ·have e1:SV.denL E β [.own b]=[.slice none 0 0]:=by rw [SV.denL,SV.denL,h1]
      rw [e1]
      simp [builtin,Builtin.len_,underlying,hd,goInt,SV.den,h2]
     ·have e1:SV.denL E β [.own b]=[.slice (some ⟨(β b).a,0,none⟩) (β b).n (β b).c]:=by rw [SV.denL,SV.denL,h1]
      rw [e1]
      simp [builtin,Builtin.len_,underlying,hd,goInt,SV.den,h2]
   ·cases hr
  ·cases hr
 case indexAddr T x ix=>
  split at hr
  ·rename_i b k i hx hi
   split at hr
   ·rename_i e a ks n tail S hd hb
    split at hr
    ·rename_i hk
     simp only [ev_ok hg hx,ev_ok hg hi]
     rcases onB_val hF hr with ⟨h0,hr⟩|⟨_,hr⟩
     ·rcases onB_val hF hr with ⟨h1,hr⟩|⟨_,hr⟩
      ·cases hr
       rw [SB.den_mkLe] at h0;rw [SB.den_mkLt] at h1
       have h0':(0:Int)≤i.den E:=of_decide_eq_true h0
       have h1':i.den E<(rowLen F n ks tail).den E:=of_decide_eq_true h1
       rcases row_den hF hk.2 (hw.ok b _ hb) with ⟨_,h3,h4⟩|⟨_,h3,h4⟩
       ·omega
       ·rw [h4] at h1'
        have hbo:(β b).o=0:=(hw.ok b _ hb).1
        refine val_run ?_
        rw [h3]
        simp only [Instr.indexAt,SV.den,asIntOf,Sem.run_bind,Sem.run_pure,Result.andThen_ok,underlying,run_program,hd]
        simp only [h0',h1',and_self,if_true,Sem.run_bind,sizeT_ok hk.1,Result.andThen_ok,Sem.run_pure,addr_add,Off.den,cstR_ok hF,Nat.zero_add,Nat.add_zero,hbo]
      ·cases hr
     ·cases hr
    ·cases hr
   ·cases hr
  ·cases hr
def kill (ob:Option Nat) (h:List SBlk):List SBlk:=
 match ob with
 |some b=>h.set b .dead
 |none=>h
theorem kill_length (ob:Option Nat) (h:List SBlk):(kill ob h).length=h.length:=by cases ob<;>simp [kill]
theorem kill_get {ob:Option Nat} {h:List SBlk} {i:Nat} {s:SBlk} {bk:Bk} (hs:(kill ob h)[i]?=some s) (hr:s.real bk):h[i]?=some s∧ob≠some i:=by
 cases ob with
 |none=>exact ⟨hs,by simp⟩
 |some b=>
  simp only [kill] at hs
  by_cases hib:b=i
  ·subst hib
   rw [List.getElem?_set] at hs
   split at hs
   ·split at hs
    ·cases hs;exact hr.elim
    ·cases hs
   ·rename_i hh;exact (hh rfl).elim
  ·rw [List.getElem?_set_ne hib] at hs;exact ⟨hs,by simp [hib]⟩
theorem kill_get2 {ob:Option Nat} {h:List SBlk} {i:Nat} {s:SBlk} (hs:(kill ob h)[i]?=some s):s= .dead∨(h[i]?=some s∧ob≠some i):=by
 cases ob with
 |none=>exact .inr ⟨hs,by simp⟩
 |some b=>
  simp only [kill] at hs
  by_cases hib:b=i
  ·subst hib
   rw [List.getElem?_set] at hs
   split at hs
   ·split at hs
    ·cases hs;exact .inl rfl
    ·cases hs
   ·rename_i hh;exact (hh rfl).elim
  ·rw [List.getElem?_set_ne hib] at hs;exact .inr ⟨hs,by simp [hib]⟩
theorem HOk.grow {h:List SBlk} (hw:HOk E β h w) (hbnd:h.all (SBlk.bnd h.length)=true) {ob:Option Nat} {old:Option Nat} (hob: ∀g,old=some g→ ∃b a ks n l S,ob=some b∧h[b]?=some (.row a ks n l S)∧(β b).z=false∧g=(β b).a)
 {a:AE} {ks:List SK} {n:SE} {tail:List SV} {S:TypeId} {bk:Bk} {w':World} (hos:w'.os=w.os) (htp:w'.tape=w.tape) (hop:w'.output=w.output) (hsz:w.heap.size≤w'.heap.size)
 (hold: ∀c,c<w.heap.size→some c≠old→w'.heap[c]?=w.heap[c]?) (hnew:bk.z=false→(w.heap.size≤bk.a∨old=some bk.a)∧bk.a<w'.heap.size) (hl:SV.bndL h.length tail=true)
 (hok:SBlk.ok E β bk w' (.row a ks n tail S)):
 HOk E (upB β h.length bk) (kill ob h++[.row a ks n tail S]) w'∧Ext E h β w E (kill ob h++[.row a ks n tail S]) (upB β h.length bk) w':=by
 have hag: ∀i,i<h.length→upB β h.length bk i=β i:=fun i hi=>upB_ne (by omega)
 have lt2: ∀i s,(kill ob h++[SBlk.row a ks n tail S])[i]?=some s→(i<h.length∧(kill ob h)[i]?=some s∧upB β h.length bk i=β i)∨(i=h.length∧s= .row a ks n tail S∧upB β h.length bk i=bk):=fun i s hs=>by
  rcases Nat.lt_or_ge i h.length with h1|h1
  ·rw [List.getElem?_append_left (by rw [kill_length];exact h1)] at hs;exact .inl ⟨h1,hs,hag i h1⟩
  ·have hi:i=h.length:=by
    have:=(List.getElem?_eq_some_iff.1 hs).1
    simp [kill_length] at this;omega
   subst hi
   rw [List.getElem?_append_right (by rw [kill_length];exact h1)] at hs
   simp [kill_length] at hs
   exact .inr ⟨rfl,hs.symm,upB_self _ _ _⟩
 have apart: ∀(i:Nat) (s:SBlk) (x:Nat),(kill ob h)[i]?=some s→s.at E (β i) x→x<w.heap.size∧some x≠old:=fun i s x hs hr=>by
  obtain ⟨h1,h2⟩:=kill_get hs (SBlk.at_real hr)
  refine ⟨hw.lt i s x h1 hr,fun hh=>?_⟩
  obtain ⟨b,a',ks',n',l',S',e1,e2,e3,e4⟩:=hob _ hh.symm
  exact h2 (by rw [e1,hw.dis i b _ _ x h1 e2 hr ⟨e3,e4⟩])
 refine ⟨⟨fun i j s t x hi hj hri hrj=>?_,fun i s x hi hr=>?_,fun i s hs=>?_⟩,⟨by simp [kill_length],hag,fun i s hi hk hr=>?_,fun i s x h2 hr=>?_,hsz,fun c hc hn=>?_,hos,htp,hop⟩⟩
 ·rcases lt2 i s hi with ⟨h1,h2,h3⟩|⟨h1,h2,h3⟩<;>rcases lt2 j t hj with ⟨h4,h5,h6⟩|⟨h4,h5,h6⟩<;>rw [h3] at hri<;>rw [h6] at hrj
  ·exact hw.dis i j s t x (kill_get h2 (SBlk.at_real hri)).1 (kill_get h5 (SBlk.at_real hrj)).1 hri hrj
  ·obtain ⟨a1,a2⟩:=apart i s x h2 hri
   rw [h5] at hrj
   obtain ⟨r1,r2⟩:=hrj
   subst r2
   rcases (hnew r1).1 with h7|h7
   ·omega
   ·exact (a2 h7.symm).elim
  ·obtain ⟨a1,a2⟩:=apart j t x h5 hrj
   rw [h2] at hri
   obtain ⟨r1,r2⟩:=hri
   subst r2
   rcases (hnew r1).1 with h7|h7
   ·omega
   ·exact (a2 h7.symm).elim
  ·omega
 ·rcases lt2 i s hi with ⟨h1,h2,h3⟩|⟨h1,h2,h3⟩<;>rw [h3] at hr
  ·have:=(apart i s x h2 hr).1;omega
  ·rw [h2] at hr
   obtain ⟨r1,r2⟩:=hr
   subst r2
   exact (hnew r1).2
 ·rcases lt2 i s hs with ⟨h1,h2,h3⟩|⟨h1,h2,h3⟩<;>rw [h3]
  ·rcases kill_get2 h2 with rfl|⟨h4,_⟩
   ·trivial
   ·have hsb:s.bnd h.length=true:=List.all_eq_true.1 hbnd s (List.mem_of_getElem? h4)
    rw [SBlk.ok_agree hag s hsb]
    exact SBlk.ok_frame (fun x hx=>hold _ (apart i s x h2 hx).1 (apart i s x h2 hx).2) (hw.ok i s h4)
  ·rw [h2,SBlk.ok_agree hag (.row a ks n tail S) hl];exact hok
 ·rw [List.getElem?_append_left (by rw [kill_length];exact hi)] at hk
  exact ⟨s,(kill_get hk (SBlk.wr_real hr)).1,hr⟩
 ·rcases lt2 i s h2 with ⟨h3,h4,h5⟩|⟨h3,h4,h5⟩
  ·rw [h5] at hr
   exact .inr ⟨i,s,(kill_get h4 (SBlk.at_real hr)).1,hr,.inr rfl⟩
  ·rw [h5,h4] at hr
   obtain ⟨r1,r2⟩:=hr
   subst r2
   rcases (hnew r1).1 with h7|h7
   ·exact .inl h7
   ·obtain ⟨b,a',ks',n',l',S',e1,e2,e3,e4⟩:=hob _ h7
    exact .inr ⟨b,_,e2,⟨e3,e4⟩,.inl e3⟩
 ·refine hold c hc fun hh=>?_
  obtain ⟨b,a',ks',n',l',S',e1,e2,e3,e4⟩:=hob _ hh.symm
  exact hn b _ e2 e3 ⟨e3,e4⟩
inductive AR where
 |ok (h:List SBlk) (v:SV)
 |fork (b:SB)
 |dead
 |no
def onA (F:Fx) (b:SB) (k:AR):AR:=
 match dec F b with
 |some true=>k
 |some false=> .dead
 |none=> .fork b
theorem onA_ok {F:Fx} (hF:Facts E F) {b:SB} {k:AR} {h:List SBlk} {v:SV} (hr:onA F b k= .ok h v):b.den E=true∧k= .ok h v:=by
 unfold onA at hr
 split at hr
 ·rename_i hd;exact ⟨dec_ok hF hd,hr⟩
 ·cases hr
 ·cases hr
def appNews (h:List SBlk) (sz:Nat) (x:SV):Option (List SV×Nat):=
 match x with
 | .slice b o (.c m) _=>match h[b]?,constRow o with
   |some (.cells l _),some p=>
    if p+m.toNat*sz≤l.length∧((l.drop p).take (m.toNat*sz)).all SV.isCell=true then some ((l.drop p).take (m.toNat*sz),m.toNat) else none
   |_,_=>none
 | .own b=>match h[b]? with
   |some (.row _ ks (.c 0) l _)=>if ks.length=sz∧sz≠0∧l≠[]∧l.length % sz=0∧l.all SV.isCell=true then some (l,l.length/sz) else none
   |_=>none
 |_=>none
def kindOf:Value→SK
 | .int k _=> .int k
 | .bool _=> .bool
 |_=> .opq
def kindsOf (z:Value):List SK:=z.cells.toList.map kindOf
def appOld (h:List SBlk) (ks0:List SK) (sz:Nat) (e:TypeId) (s:SV):Option (Option Nat×AE×List SK×SE×List SV):=
 match s with
 | .nilslice=>some (none,.v 0,ks0,.c 0,[])
 | .own b=>match h[b]? with
   |some (.row a ks n tail S)=>if ks.length=sz∧S=e then some (some b,a,ks,n,tail) else none
   |_=>none
 |_=>none
def appLim (bytes cnt:Nat):Int:=(140737488355328/max 1 bytes:Nat) - (cnt:Int)
def sAppend (P:Program) (gm:Gm) (F:Fx) (h:List SBlk) (tmps:Tm) (op:Op):AR:=
 match op with
 | .call c=>match c.callee,c.argTypes.toList,evL gm tmps c.args.toList with
   | .builtin .append,[t,t'],some [s,x]=>if t=t' then match P.underlying t with
     |some (.slice e)=>match P.info? e with
      |some i=>match i.zero with
       |some z=>if z.cells.size=i.size∧0<i.size then match appNews h i.size x,appOld h (kindsOf z) i.size e s with
        |some (news,m),some (ob,a,ks,n,tail)=>
         if h.all (SBlk.bnd h.length)&&SV.bndL h.length (tail++news)&&decide (0≤appLim i.bytes (tail.length/i.size+m)) then
          onA F (.mkLe n (.c (appLim i.bytes (tail.length/i.size+m)))) (.ok (kill ob h++[.row a ks n (tail++news) e]) (.own h.length))
         else .no
        |_,_=> .no
       else .no
       |none=> .no
      |none=> .no
     |_=> .no
     else .no
   |_,_,_=> .no
 |_=> .no
theorem denL_append (l r:List SV):SV.denL E β (l++r)=SV.denL E β l++SV.denL E β r:=by
 simp [SV.denL_map]
theorem appNews_ok {h:List SBlk} (hw:HOk E β h w) {sz:Nat} {x:SV} {news:List SV} {m:Nat} (hr:appNews h sz x=some (news,m)):
 ∃ad c,x.den E β= .slice (some ad) m c∧(SV.denL E β news).length=m*sz∧(∀j u,(SV.denL E β news)[j]?=some u→w.cell? (ad.add j)=some u)∧(∀u∈SV.denL E β news,u.oneCell'=true):=by
 unfold appNews at hr
 split at hr
 ·rename_i b o m' c
  split at hr
  ·rename_i l S p hb hp
   split at hr
   ·rename_i hc
    cases hr
    have hbo:(β b).o=0:=(hw.ok b _ hb).1
    refine ⟨⟨(β b).a,(β b).o+p,none⟩,(c.den E).toNat,by simp [SV.den,constRow_ok hp,SE.den],?_,fun j u hj=>?_,fun u hu=>?_⟩
    ·rw [denL_length];simp;omega
    ·rw [addr_add,Nat.add_assoc,cell_cells hw hb]
     rw [SV.denL_map,List.getElem?_map] at hj
     rw [←hj]
     have hjn:j<m'.toNat*sz:=by
      rcases Nat.lt_or_ge j (m'.toNat*sz) with h1|h1
      ·exact h1
      ·rw [List.getElem?_eq_none (by simp;omega)] at hj;cases hj
     rw [List.getElem?_take_of_lt hjn,List.getElem?_drop]
    ·rw [SV.denL_map] at hu
     obtain ⟨s,hs,rfl⟩:=List.mem_map.1 hu
     exact isCell_ok (List.all_eq_true.1 hc.2 s hs)
   ·cases hr
  ·cases hr
 ·rename_i b
  split at hr
  ·rename_i a ks l S hb
   split at hr
   ·rename_i hc
    cases hr
    obtain ⟨hk,hz,hne,hmod,hall⟩:=hc
    have hbo:(β b).o=0:=(hw.ok b _ hb).1
    obtain ⟨m,hm,hrest⟩:=row_v (hw.ok b _ hb)
    rw [hk] at hm
    have hmm:news.length/sz=m:=by rw [hm];exact Nat.mul_div_cancel _ (Nat.pos_of_ne_zero hz)
    have hl0:news.length≠0:=fun h=>hne (List.eq_nil_of_length_eq_zero h)
    rcases hrest with ⟨h3,h4,h5⟩|⟨h3,h4,_⟩
    ·subst h5;simp at hm;exact (hne hm).elim
    ·have hn:(β b).n=m:=by rw [h4];simp [SE.den]
     refine ⟨⟨(β b).a,0,none⟩,(β b).c,by simp [SV.den,Bk.v,h3,hmm,hn],by rw [denL_length,hmm,hm],fun j u hj=>?_,fun u hu=>?_⟩
     ·have hjl:j<news.length:=by
       have:=(List.getElem?_eq_some_iff.1 hj).1
       rwa [denL_length] at this
      have:=cell_row hw hb j (by simp [SE.den];exact hjl)
      rw [hbo,Nat.zero_add] at this
      rw [addr_add,Nat.zero_add,this]
      have e:rowCells E β (β b).q a ks ((SE.c 0).den E).toNat news=SV.denL E β news:=by simp [rowCells,SE.den]
      rw [e];exact hj
     ·rw [SV.denL_map] at hu
      obtain ⟨s,hs,rfl⟩:=List.mem_map.1 hu
      exact isCell_ok (List.all_eq_true.1 hall s hs)
   ·cases hr
  ·cases hr
 ·cases hr
theorem rowCells_append (q:Nat→Value) (a:AE) (ks:List SK) (n:Nat) (tail news:List SV):rowCells E β q a ks n (tail++news)=rowCells E β q a ks n tail++SV.denL E β news:=by
 simp [rowCells,denL_append]
theorem sAppend_ok {gm:Gm} (hg:gm.ok β) {F:Fx} (hF:Facts E F) {h h':List SBlk} (hw:HOk E β h w) {tmps:Tm} {ds:List Deferred} {o:Oper} {v:SV}
 (hr:sAppend P gm F h tmps o.op= .ok h' v): ∃bk w',(execOp (actD E β tmps ds).eval o).run P w= .ok (.value (v.den E (upB β h.length bk))) w'∧HOk E (upB β h.length bk) h' w'∧Ext E h β w E h' (upB β h.length bk) w':=by
 unfold execOp
 cases ho:o.op<;>simp only [ho,sAppend] at hr<;>try (first|(cases hr;done))
 rename_i c
 split at hr
 ·rename_i t t' s x hc hts hl
  split at hr
  ·rename_i htt
   subst htt
   split at hr
   ·rename_i e hd
    split at hr
    ·rename_i i hi
     split at hr
     ·rename_i z hz
      split at hr
      ·rename_i hzs
       split at hr
       ·rename_i news m ob a ks n tail hnews hold
        split at hr
        ·rename_i hb
         simp only [Bool.and_eq_true,decide_eq_true_eq] at hb
         obtain ⟨hlim,hr⟩:=onA_ok hF hr
         cases hr
         rw [SB.den_mkLe] at hlim
         have hlim:n.den E≤appLim i.bytes (tail.length/i.size+m):=of_decide_eq_true hlim
         obtain ⟨ad,xc,hx,hn1,hn2,hn3⟩:=appNews_ok hw hnews
         have hat:c.argTypes= #[t,t]:=by
          obtain ⟨l,he⟩: ∃l,c.argTypes=l:=⟨_,rfl⟩
          rw [he] at hts⊢
          obtain ⟨l⟩:=l
          simp only at hts
          rw [hts]
         simp only [resolve,hc,Sem.run_bind,Sem.run_pure,Result.andThen_ok,invoke,evL_arr (E:=E) (ds:=ds) hg hl,hat]
         have hlen: ∀mt:Nat,tail.length=mt*i.size→(n.den E).toNat+mt+m≤140737488355328/max 1 i.bytes:=fun mt hmt=>by
          have e1:tail.length/i.size=mt:=by rw [hmt];exact Nat.mul_div_cancel _ hzs.2
          rw [e1] at hlim hb
          unfold appLim at hlim hb
          omega
         have hbytes: ∀k:Nat,k≤140737488355328/max 1 i.bytes→k≤maxLen∧k*i.bytes≤140737488355328:=fun k hk=>by
          have h1:k*max 1 i.bytes≤140737488355328:=by
           have:=Nat.mul_le_mul_right (max 1 i.bytes) hk
           exact Nat.le_trans this (Nat.div_mul_le_self _ _)
          have h2:k*i.bytes≤k*max 1 i.bytes:=Nat.mul_le_mul_left _ (by omega)
          have h3:k*1≤k*max 1 i.bytes:=Nat.mul_le_mul_left _ (by omega)
          constructor
          ·simp only [maxLen];omega
          ·omega
         have fin: ∀(q:Nat→Value) (v':Value) (w':World) (old:Option Nat) (mt base:Nat),tail.length=mt*i.size→ks.length=i.size→(Builtin.append_ #[t,t] o.type #[s.den E β,x.den E β]).run P w= .ok v' w'→
          w'.ownsRow base e i.size v' ((n.den E).toNat+mt+m) (rowCells E β q a ks (n.den E).toNat tail++SV.denL E β news)→w.grownBy w' old→(∀g,v'.ownBlock=some g→w.heap.size≤g∨old=some g)→
          (∀g,old=some g→ ∃b a ks n l S,ob=some b∧h[b]?=some (.row a ks n l S)∧(β b).z=false∧g=(β b).a)→
          ∃bk w',((do pure (Next.value (←Builtin.append_ #[t,t] o.type #[s.den E β,x.den E β]))):Sem Next).run P w= .ok (.value ((SV.own h.length).den E (upB β h.length bk))) w'∧
           HOk E (upB β h.length bk) (kill ob h++[.row a ks n (tail++news) e]) w'∧Ext E h β w E (kill ob h++[.row a ks n (tail++news) e]) (upB β h.length bk) w':=by
          intro q v' w' old mt base hmt hks hrun hown hgr hbl hobl
          have hm':(tail++news).length=(mt+m)*ks.length:=by
           rw [List.length_append,hmt,hks,Nat.add_mul,←hn1,denL_length]
          have go: ∀bk:Bk,bk.q=q→bk.o=0→bk.v=v'→(bk.z=false→v'.ownBlock=some bk.a∧bk.a<w'.heap.size)→ ∃bk w',((do pure (Next.value (←Builtin.append_ #[t,t] o.type #[s.den E β,x.den E β]))):Sem Next).run P w= .ok (.value ((SV.own h.length).den E (upB β h.length bk))) w'∧
           HOk E (upB β h.length bk) (kill ob h++[.row a ks n (tail++news) e]) w'∧Ext E h β w E (kill ob h++[.row a ks n (tail++news) e]) (upB β h.length bk) w':=fun bk hbq hbo hbk hbz=>by
           have hok:SBlk.ok E β bk w' (.row a ks n (tail++news) e):=by
            refine ⟨hbo,mt+m,hm',?_⟩
            rw [hbq,rowCells_append,hbk,←Nat.add_assoc,hks]
            exact ⟨hown.1,hown.2.imp id fun ⟨g,cap,cur,h1,_,h2⟩=>⟨g,cap,cur,h1,Nat.zero_le _,h2⟩⟩
           have hag: ∀i,i<h.length→upB β h.length bk i=β i:=fun i hi=>upB_ne (by omega)
           obtain ⟨k1,k2⟩:=HOk.grow hw hb.1.1 hobl hgr.os hgr.tape hgr.output hgr.size (fun c hc hne=>hgr.block c hc hne.symm.symm) (fun hz=>⟨hbl _ (hbz hz).1,(hbz hz).2⟩) hb.1.2 hok
           refine ⟨bk,w',?_,k1,k2⟩
           rw [Sem.run_bind,hrun]
           simp [SV.den,upB_self,hbk]
          rcases hown.2 with ⟨hv,_⟩|⟨g,cap,cur,hv,_,hg2,_⟩
          ·exact go ⟨0,true,0,0,0,q⟩ rfl rfl (by rw [hv];rfl) (fun hz=>by cases hz)
          ·exact go ⟨g,false,_,cap,0,q⟩ rfl rfl (by rw [hv];rfl) (fun _=>⟨by rw [hv];rfl,(Array.getElem?_eq_some_iff.1 hg2).1⟩)
         have hargs:(SV.denL E β [s,x]).toArray= #[s.den E β,x.den E β]:=rfl
         rw [hargs]
         show∃bk w',((do pure (Next.value (←Builtin.append_ #[t,t] o.type #[s.den E β,x.den E β]))):Sem Next).run P w=_∧_
         unfold appOld at hold
         split at hold
         ·cases hold
          have hl0:=hlen 0 (by simp)
          obtain ⟨b1,b2⟩:=hbytes _ hl0
          simp only [SE.den] at b1 b2
          obtain ⟨v',w',r1,r2,r3,_⟩:=run_append_own (P:=P) w w.heap.size t o.type e i z i.size i.bytes hd hi hz rfl rfl hzs.1 hzs.2 (.slice none 0 0) 0 [] (World.ownsRow_nil w _ e i.size) ad m xc (SV.denL E β news) hn1 hn2 hn3 (by simpa using b1) (by simpa using b2) (Nat.le_refl _)
          refine fin (fun _=> .nilIface) v' w' none 0 w.heap.size (by simp) (by simp [kindsOf,hzs.1]) (by rw [hx];exact r1) (by simpa [rowCells,SE.den,SV.denL] using r2) r3 (fun g hg'=> .inl (r2.lt g hg').1) (fun g hg'=>by cases hg')
         ·rename_i b
          split at hold
          ·rename_i a' ks' n' tail' S hbk
           split at hold
           ·rename_i hks
            cases hold
            obtain ⟨hks,rfl⟩:=hks
            have hblk:=hw.ok b _ hbk
            obtain ⟨mt,hmt,hrest⟩:=row_v hblk
            rw [hks] at hmt
            have hl0:=hlen mt hmt
            obtain ⟨b1,b2⟩:=hbytes _ hl0
            rcases hrest with ⟨h3,h4,h5⟩|⟨h3,h4,h5,h6,cur,h7,h8,h9⟩
            ·have htl:tail=[]:=List.eq_nil_of_length_eq_zero (by rw [hmt,h5];simp)
             subst htl
             obtain ⟨v',w',r1,r2,r3,_⟩:=run_append_own (P:=P) w w.heap.size t o.type S i z i.size i.bytes hd hi hz rfl rfl hzs.1 hzs.2 (.slice none 0 0) 0 [] (World.ownsRow_nil w _ S i.size) ad m xc (SV.denL E β news) hn1 hn2 hn3 (by omega) (by rw [h4,h5] at b2;simpa using b2) (Nat.le_refl _)
             refine fin (β b).q v' w' none mt w.heap.size hmt hks (by rw [hx];simpa [SV.den,Bk.v,h3] using r1) (by rw [h4,h5];simpa [rowCells,SV.denL] using r2) r3 (fun g hg'=> .inl (r2.lt g hg').1) (fun g hg'=>by cases hg')
            ·have hv:(SV.own b).den E β= .slice (some ⟨(β b).a,0,none⟩) (β b).n (β b).c:=by simp [SV.den,Bk.v,h3,show (β b).o=0 from hblk.1]
             rw [hks] at h8 h9
             have hxs:(rowCells E β (β b).q a ks (n.den E).toNat tail).length=(β b).n*i.size:=by rw [rowCells_length,hmt,hks,h4,Nat.add_mul]
             by_cases hroom:(β b).n+m≤(β b).c
             ·have hfit:(β b).n*i.size+(SV.denL E β news).length≤cur.size:=by
               rw [hn1,h8,←Nat.add_mul];exact Nat.mul_le_mul_right _ hroom
              have r1:=run_append_room (P:=P) w t o.type S i hd hi (β b).a (β b).n (β b).c cur h7 ad m xc (SV.denL E β news) hn1 hn2 hn3 hroom hfit
              have hlt:(β b).a<w.heap.size:=(Array.getElem?_eq_some_iff.1 h7).1
              refine fin (β b).q _ _ (some (β b).a) mt 0 hmt hks (by rw [hx,hv];exact r1) ?_ ?_ (fun g hg'=> .inr (by simpa [Value.ownBlock] using hg')) (fun g hg'=>⟨b,_,_,_,_,_,rfl,hbk,h3,by simpa using hg'.symm⟩)
              ·refine ⟨by rw [List.length_append,hxs,hn1,h4];simp only [Nat.add_mul],.inr ⟨(β b).a,(β b).c,(cur.toList.take ((β b).n*i.size)++SV.denL E β news++cur.toList.drop ((β b).n*i.size+(SV.denL E β news).length)).toArray,by rw [h4],Nat.zero_le _,?_,by omega,h6,?_,?_⟩⟩
               ·exact setRow_heap w _ _ _ _ _ h7
               ·simp
                rw [←h8]
                omega
               ·have hle:(rowCells E β (β b).q a ks (n.den E).toNat tail++SV.denL E β news).length=((n.den E).toNat+mt+m)*i.size:=by rw [List.length_append,hxs,hn1,h4];simp only [Nat.add_mul]
                rw [h9,←hle]
                exact List.take_left
              ·exact ⟨rfl,rfl,rfl,by simp,fun k _ hk=>setRow_other w _ k _ (fun hh=>hk (by rw [hh]))⟩
             ·obtain ⟨v',w',r1,r2,r3⟩:=run_append_arg_grows (P:=P) w t o.type S i z i.size i.bytes hd hi hz rfl rfl hzs.1 hzs.2 ⟨(β b).a,0,none⟩ (β b).n (β b).c (rowCells E β (β b).q a ks (n.den E).toNat tail) hxs (fun j u hj=>by
               have hjl:j<(rowCells E β (β b).q a ks (n.den E).toNat tail).length:=(List.getElem?_eq_some_iff.1 hj).1
               rw [rowCells_length] at hjl
               have h0:(β b).o+j=j:=by rw [(show (β b).o=0 from hblk.1),Nat.zero_add]
               rw [addr_add,Nat.zero_add,←h0,cell_row hw hbk j hjl];exact hj) ad m xc (SV.denL E β news) hn1 hn2 (by omega) (by rw [h4];exact b1) (by rw [h4];exact b2)
              refine fin (β b).q v' w' none mt w.heap.size hmt hks (by rw [hx,hv];exact r1) (by rw [←h4];exact r2) r3 (fun g hg'=> .inl (r2.lt g hg').1) (fun g hg'=>by cases hg')
           ·cases hold
          ·cases hold
         ·cases hold
        ·cases hr
       ·cases hr
      ·cases hr
     ·cases hr
    ·cases hr
   ·cases hr
  ·cases hr
 ·cases hr
theorem own_append {t ty e:TypeId} {i:TypeInfo} {z:Value} (ht:P.underlying t=some (.slice e)) (hi:P.info? e=some i) (hz:i.zero=some z) (hzs:z.cells.size=i.size) (hsz:0<i.size)
 {v:Value} {n:Nat} {xs:List Value} (hown:w.ownsRow 0 e i.size v n xs) {ad:Addr} {m c:Nat} {news:List Value} (hl:news.length=m*i.size) (hnews: ∀j u,news[j]?=some u→w.cell? (ad.add j)=some u) (h1: ∀u∈news,u.oneCell'=true)
 (h63:n+m≤maxLen) (hbytes:(n+m)*i.bytes≤140737488355328):
 ∃v' w',(Builtin.append_ #[t,t] ty #[v,.slice (some ad) m c]).run P w= .ok v' w'∧w'.ownsRow 0 e i.size v' (n+m) (xs++news)∧w.grownBy w' v.ownBlock∧(∀g,v'.ownBlock=some g→w.heap.size≤g∨v.ownBlock=some g)∧(∀g,v'.ownBlock=some g→g<w'.heap.size):=by
 have low: ∀{w':World} {v':Value} {n:Nat} {xs:List Value} {B:Nat},w'.ownsRow B e i.size v' n xs→w'.ownsRow 0 e i.size v' n xs∧ ∀g,v'.ownBlock=some g→B≤g∧g<w'.heap.size:=fun {w'} {v'} {n} {xs} {B} h=>by
  refine ⟨⟨h.1,h.2.imp id fun ⟨g,cap,cur,a1,_,a2⟩=>⟨g,cap,cur,a1,Nat.zero_le _,a2⟩⟩,fun g hg=>?_⟩
  rcases h.2 with ⟨hv,_⟩|⟨g',cap,cur,hv,a1,a2,_⟩
  ·rw [hv] at hg;cases hg
  ·rw [hv] at hg;simp [Value.ownBlock] at hg;subst hg;exact ⟨a1,(Array.getElem?_eq_some_iff.1 a2).1⟩
 rcases hown.2 with ⟨hv,hn0⟩|⟨g,cap,cur,hv,_,h5,h6,h7,h8,h9⟩
 ·subst hv;subst hn0
  have hx0:xs=[]:=List.eq_nil_of_length_eq_zero (by rw [hown.1];simp)
  subst hx0
  obtain ⟨v',w',r1,r2,r3,_⟩:=run_append_own (P:=P) w w.heap.size t ty e i z i.size i.bytes ht hi hz rfl rfl hzs hsz (.slice none 0 0) 0 [] (World.ownsRow_nil w _ e i.size) ad m c news hl hnews h1 h63 hbytes (Nat.le_refl _)
  obtain ⟨l1,l2⟩:=low r2
  exact ⟨v',w',r1,l1,r3,fun g hg=> .inl (l2 g hg).1,fun g hg=>(l2 g hg).2⟩
 ·subst hv
  by_cases hroom:n+m≤cap
  ·have hfit:n*i.size+news.length≤cur.size:=by rw [hl,h8,←Nat.add_mul];exact Nat.mul_le_mul_right _ hroom
   have hlt:g<w.heap.size:=(Array.getElem?_eq_some_iff.1 h5).1
   refine ⟨_,_,run_append_room (P:=P) w t ty e i ht hi g n cap cur h5 ad m c news hl hnews h1 hroom hfit,?_,⟨rfl,rfl,rfl,by simp,fun k _ hk=>setRow_other w _ k _ (fun hh=>hk (by rw [hh];rfl))⟩,fun g' hg'=> .inr (by simpa [Value.ownBlock] using hg'),fun g' hg'=>by simp [Value.ownBlock] at hg';subst hg';simpa using hlt⟩
   refine ⟨by rw [List.length_append,hown.1,hl,Nat.add_mul],.inr ⟨g,cap,(cur.toList.take (n*i.size)++news++cur.toList.drop (n*i.size+news.length)).toArray,rfl,Nat.zero_le _,?_,by omega,h7,?_,?_⟩⟩
   ·exact setRow_heap w _ _ _ _ _ h5
   ·simp;rw [←h8];omega
   ·have hle:(xs++news).length=(n+m)*i.size:=by rw [List.length_append,hown.1,hl,Nat.add_mul]
    rw [h9,←hle]
    exact List.take_left
  ·obtain ⟨v',w',r1,r2,r3⟩:=run_append_arg_grows (P:=P) w t ty e i z i.size i.bytes ht hi hz rfl rfl hzs hsz ⟨g,0,none⟩ n cap xs hown.1 (fun j u hj=>by
    have hjl:j<xs.length:=(List.getElem?_eq_some_iff.1 hj).1
    rw [addr_add,Nat.zero_add]
    rw [←h9] at hj hjl
    simp only [World.cell?,h5]
    simp only [List.length_take] at hjl
    rw [List.getElem?_take_of_lt (by omega)] at hj
    simpa using hj) ad m c news hl hnews (by omega) h63 hbytes
   obtain ⟨l1,l2⟩:=low r2
   exact ⟨v',w',r1,l1,⟨r3.os,r3.tape,r3.output,r3.size,fun k hk _=>r3.block k hk (by simp)⟩,fun g hg=> .inl (l2 g hg).1,fun g hg=>(l2 g hg).2⟩
theorem own_append_nil {t ty e:TypeId} {i:TypeInfo} (ht:P.underlying t=some (.slice e)) (hi:P.info? e=some i) {v:Value} {n:Nat} {xs:List Value} (hown:w.ownsRow 0 e i.size v n xs):
 (Builtin.append_ #[t,t] ty #[v,.slice none 0 0]).run P w= .ok v w:=by
 rcases hown.2 with ⟨hv,hn0⟩|⟨g,cap,cur,hv,_,h5,h6,h7,h8,h9⟩
 ·subst hv;simp [Builtin.append_,run_underlying ht,sizeOf,typeInfo,hi,Builtin.lenOf,Builtin.firstCells]
 ·subst hv;simp [Builtin.append_,run_underlying ht,sizeOf,typeInfo,hi,Builtin.lenOf,Builtin.firstCells,h6,storeCells]
def plainK:SK→Bool
 | .opq=>false
 |_=>true
def sAppend2 (P:Program) (gm:Gm) (F:Fx) (h:List SBlk) (tmps:Tm) (op:Op):AR:=
 match op with
 | .call c=>match c.callee,c.argTypes.toList,evL gm tmps c.args.toList with
   | .builtin .append,[t,t'],some [s,.own b2]=>if t=t' then match P.underlying t with
     |some (.slice e)=>match P.info? e with
      |some i=>match i.zero with
       |some z=>if z.cells.size=i.size∧0<i.size then match h[b2]?,appOld h (kindsOf z) i.size e s with
        |some (.row a2 ks2 n2 tail2 S2),some (ob,a,ks,.c 0,[])=>
         if h.all (SBlk.bnd h.length)&&SV.bndL h.length tail2&&decide (ks2.length=i.size)&&ks2.all plainK&&tail2.all SV.isCell&&decide (0≤appLim i.bytes (tail2.length/i.size)) then
          onA F (.mkLe n2 (.c (appLim i.bytes (tail2.length/i.size)))) (.ok (kill ob h++[.row a2 ks2 n2 tail2 e]) (.own h.length))
         else .no
        |_,_=> .no
       else .no
       |none=> .no
      |none=> .no
     |_=> .no
     else .no
   |_,_,_=> .no
 |_=> .no
theorem sAppend2_ok {gm:Gm} (hg:gm.ok β) {F:Fx} (hF:Facts E F) {h h':List SBlk} (hw:HOk E β h w) {tmps:Tm} {ds:List Deferred} {o:Oper} {v:SV}
 (hr:sAppend2 P gm F h tmps o.op= .ok h' v): ∃bk w',(execOp (actD E β tmps ds).eval o).run P w= .ok (.value (v.den E (upB β h.length bk))) w'∧HOk E (upB β h.length bk) h' w'∧Ext E h β w E h' (upB β h.length bk) w':=by
 unfold execOp
 cases ho:o.op<;>simp only [ho,sAppend2] at hr<;>try (first|(cases hr;done))
 rename_i c
 split at hr
 ·rename_i t t' s b2 hc hts hl
  split at hr
  ·rename_i htt
   subst htt
   split at hr
   ·rename_i e hd
    split at hr
    ·rename_i i hi
     split at hr
     ·rename_i z hz
      split at hr
      ·rename_i hzs
       split at hr
       ·rename_i a2 ks2 n2 tail2 S2 ob a ks hb2 hold
        split at hr
        ·rename_i hb
         simp only [Bool.and_eq_true,decide_eq_true_eq] at hb
         obtain ⟨⟨⟨⟨⟨hb1,hb3⟩,hks2⟩,hpk⟩,hcell⟩,hlim0⟩:=hb
         obtain ⟨hlim,hr⟩:=onA_ok hF hr
         cases hr
         rw [SB.den_mkLe] at hlim
         have hlim:n2.den E≤appLim i.bytes (tail2.length/i.size):=of_decide_eq_true hlim
         have hat:c.argTypes= #[t,t]:=by
          obtain ⟨l,he⟩: ∃l,c.argTypes=l:=⟨_,rfl⟩
          rw [he] at hts⊢
          obtain ⟨l⟩:=l
          simp only at hts
          rw [hts]
         simp only [resolve,hc,Sem.run_bind,Sem.run_pure,Result.andThen_ok,invoke,evL_arr (E:=E) (ds:=ds) hg hl,hat]
         have hargs:(SV.denL E β [s,.own b2]).toArray= #[s.den E β,(SV.own b2).den E β]:=rfl
         rw [hargs]
         show∃bk w',((do pure (Next.value (←Builtin.append_ #[t,t] o.type #[s.den E β,(SV.own b2).den E β]))):Sem Next).run P w=_∧_
         have hdst: ∃bk0:Bk,s.den E β=bk0.v∧bk0.o=0∧w.ownsRow 0 e i.size (s.den E β) 0 []∧(∀g,(s.den E β).ownBlock=some g→ ∃b a ks n l S,ob=some b∧h[b]?=some (.row a ks n l S)∧(β b).z=false∧g=(β b).a):=by
          unfold appOld at hold
          split at hold
          ·exact ⟨{ a:=0 },rfl,rfl,World.ownsRow_nil w _ e i.size,fun g hg=>by cases hg⟩
          ·rename_i b
           split at hold
           ·rename_i a' ks' n' tail' S hbk
            split at hold
            ·rename_i hkk
             cases hold
             obtain ⟨hkk1,rfl⟩:=hkk
             have hblk:=hw.ok b _ hbk
             obtain ⟨h0,m,hm,hown⟩:=hblk
             have hm0:m=0:=by
              have hmm:0=m*ks.length:=hm
              rcases Nat.mul_eq_zero.1 hmm.symm with h|h
              ·exact h
              ·omega
             subst hm0
             refine ⟨β b,rfl,h0,?_,fun g hg=>?_⟩
             ·have:rowCells E β (β b).q a ks ((SE.c 0).den E).toNat []=[]:=by simp [rowCells,SE.den,SV.denL]
              rw [this,hkk1] at hown
              exact hown
             ·have hz:(β b).z=false:=by
               cases hz:(β b).z with
               |false=>rfl
               |true=>simp [SV.den,Bk.v,hz,Value.ownBlock] at hg
              refine ⟨b,_,_,_,_,_,rfl,hbk,hz,?_⟩
              simp [SV.den,Bk.v,hz,Value.ownBlock] at hg
              exact hg.symm
            ·cases hold
           ·cases hold
          ·cases hold
         obtain ⟨bk0,hbv,hbo,hown0,hobl⟩:=hdst
         have fin: ∀(v':Value) (w':World) (m:Nat),tail2.length=m*ks2.length→(Builtin.append_ #[t,t] o.type #[s.den E β,(SV.own b2).den E β]).run P w= .ok v' w'→
          w'.ownsRow 0 e i.size v' ((n2.den E).toNat+m) (rowCells E β (β b2).q a2 ks2 (n2.den E).toNat tail2)→w.grownBy w' (s.den E β).ownBlock→(∀g,v'.ownBlock=some g→w.heap.size≤g∨(s.den E β).ownBlock=some g)→(∀g,v'.ownBlock=some g→g<w'.heap.size)→
          ∃bk w',((do pure (Next.value (←Builtin.append_ #[t,t] o.type #[s.den E β,(SV.own b2).den E β]))):Sem Next).run P w= .ok (.value ((SV.own h.length).den E (upB β h.length bk))) w'∧
           HOk E (upB β h.length bk) (kill ob h++[.row a2 ks2 n2 tail2 e]) w'∧Ext E h β w E (kill ob h++[.row a2 ks2 n2 tail2 e]) (upB β h.length bk) w':=by
          intro v' w' m hm hrun hown hgr hbl hbs
          have go: ∀bk:Bk,bk.q=(β b2).q→bk.o=0→bk.v=v'→(bk.z=false→v'.ownBlock=some bk.a)→ ∃bk w',((do pure (Next.value (←Builtin.append_ #[t,t] o.type #[s.den E β,(SV.own b2).den E β]))):Sem Next).run P w= .ok (.value ((SV.own h.length).den E (upB β h.length bk))) w'∧
           HOk E (upB β h.length bk) (kill ob h++[.row a2 ks2 n2 tail2 e]) w'∧Ext E h β w E (kill ob h++[.row a2 ks2 n2 tail2 e]) (upB β h.length bk) w':=fun bk hbq hbo hbk hbz=>by
           have hok:SBlk.ok E β bk w' (.row a2 ks2 n2 tail2 e):=⟨hbo,m,hm,by rw [hbq,hbk,hks2];exact hown⟩
           obtain ⟨k1,k2⟩:=HOk.grow hw hb1 (old:=(s.den E β).ownBlock) hobl hgr.os hgr.tape hgr.output hgr.size (fun c hc hne=>hgr.block c hc hne) (fun hz=>⟨hbl _ (hbz hz),hbs _ (hbz hz)⟩) hb3 hok
           refine ⟨bk,w',?_,k1,k2⟩
           rw [Sem.run_bind,hrun]
           simp [SV.den,upB_self,hbk]
          rcases hown.2 with ⟨hv,_⟩|⟨g,cap,cur,hv,_⟩
          ·exact go ⟨0,true,0,0,0,(β b2).q⟩ rfl rfl (by rw [hv];rfl) (fun hz=>by cases hz)
          ·exact go ⟨g,false,_,cap,0,(β b2).q⟩ rfl rfl (by rw [hv];rfl) (fun _=>by rw [hv];rfl)
         obtain ⟨m,hm,hrest⟩:=row_v (hw.ok b2 _ hb2)
         rcases hrest with ⟨h3,h4,h5⟩|⟨h3,h4,h5,h6,cur,h7,h8,h9⟩
         ·have htl:tail2=[]:=List.eq_nil_of_length_eq_zero (by rw [hm,h5];simp)
          have hsv:(SV.own b2).den E β= .slice none 0 0:=by simp [SV.den,Bk.v,h3]
          have hrun:=own_append_nil (P:=P) (w:=w) (t:=t) (ty:=o.type) hd hi hown0
          refine fin (s.den E β) w m hm (by rw [hsv];exact hrun) ?_ ⟨rfl,rfl,rfl,Nat.le_refl _,fun _ _ _=>rfl⟩ (fun g hg=> .inr hg) (fun g hg=>?_)
          ·have:rowCells E β (β b2).q a2 ks2 (n2.den E).toNat tail2=[]:=by rw [h4,htl];simp [rowCells,SV.denL]
           rw [this,h4,h5];exact hown0
          ·obtain ⟨b,_,_,_,_,_,_,e2,e3,e4⟩:=hobl g hg
           rw [e4];exact hw.lta e2 e3 rfl
         ·have hsv:(SV.own b2).den E β= .slice (some ⟨(β b2).a,0,none⟩) (β b2).n (β b2).c:=by simp [SV.den,Bk.v,h3,show (β b2).o=0 from (hw.ok b2 _ hb2).1]
          have hlen:(rowCells E β (β b2).q a2 ks2 (n2.den E).toNat tail2).length=(β b2).n*i.size:=by rw [rowCells_length,hm,hks2,h4,Nat.add_mul]
          have hmt:tail2.length/i.size=m:=by rw [hm,hks2];exact Nat.mul_div_cancel _ hzs.2
          have htot:(β b2).n≤140737488355328/max 1 i.bytes:=by
           rw [hmt] at hlim hlim0
           unfold appLim at hlim hlim0
           rw [h4];omega
          have hbytes:(β b2).n≤maxLen∧(β b2).n*i.bytes≤140737488355328:=by
           have h1:(β b2).n*max 1 i.bytes≤140737488355328:=Nat.le_trans (Nat.mul_le_mul_right (max 1 i.bytes) htot) (Nat.div_mul_le_self _ _)
           have h2:(β b2).n*i.bytes≤(β b2).n*max 1 i.bytes:=Nat.mul_le_mul_left _ (by omega)
           exact ⟨Nat.le_trans h5 h6,by omega⟩
          have hone: ∀u∈rowCells E β (β b2).q a2 ks2 (n2.den E).toNat tail2,u.oneCell'=true:=fun u hu=>by
           unfold rowCells at hu
           rw [List.mem_append] at hu
           rcases hu with hu|hu
           ·obtain ⟨j,hj,rfl⟩:=List.mem_map.1 hu
            have hjl:=List.mem_range.1 hj
            have hK:j % ks2.length<ks2.length:=Nat.mod_lt _ (by omega)
            have hmem:ks2.getD (j % ks2.length) default∈ks2:=by
             rw [List.getD_eq_getElem?_getD,List.getElem?_eq_getElem hK]
             exact List.getElem_mem hK
            have:=List.all_eq_true.1 hpk _ hmem
            revert this
            generalize ks2.getD (j % ks2.length) default=kk
            intro this
            cases kk<;>simp_all [plainK,SK.val,Value.oneCell']
           ·rw [SV.denL_map] at hu
            obtain ⟨x,hx,rfl⟩:=List.mem_map.1 hu
            exact isCell_ok (List.all_eq_true.1 hcell x hx)
          obtain ⟨v',w',r1,r2,r3,r4,r5⟩:=own_append (P:=P) (w:=w) (t:=t) (ty:=o.type) hd hi hz hzs.1 hzs.2 hown0 (ad:=⟨(β b2).a,0,none⟩) (m:=(β b2).n) (c:=(β b2).c) hlen (fun j u hj=>by
           have hjl:j<(rowCells E β (β b2).q a2 ks2 (n2.den E).toNat tail2).length:=(List.getElem?_eq_some_iff.1 hj).1
           rw [rowCells_length] at hjl
           have h0:(β b2).o+j=j:=by rw [(show (β b2).o=0 from (hw.ok b2 _ hb2).1),Nat.zero_add]
           rw [addr_add,Nat.zero_add,←h0,cell_row hw hb2 j hjl];exact hj) hone (by omega) (by rw [Nat.zero_add];exact hbytes.2)
          refine fin v' w' m hm (by rw [hsv];exact r1) ?_ r3 r4 r5
          rw [List.nil_append,Nat.zero_add,h4] at r2
          exact r2
        ·cases hr
       ·cases hr
      ·cases hr
     ·cases hr
    ·cases hr
   ·cases hr
  ·cases hr
 ·cases hr
def rowOp (P:Program) (gm:Gm) (tmps:Tm) (op:Op):Option (List SV×List SK×TypeId):=
 match op with
 | .buildSlice T len parts=>match P.underlying T,evParts gm tmps parts.toList with
   |some (.slice e),some ps=>match sizeT P e,sZero P e,(P.info? e).bind (·.zero) with
    |some sz,some z,some zv=>if len*sz≤2^24∧sz≠0∧z.isEmpty=false∧(kindsOf zv).length=sz then
      match sFill (fun i=>some (i*sz,sz)) (zeros z (len*sz)) ps with
      |some out=>if out.length=len*sz then some (out,kindsOf zv,e) else none
      |none=>none
     else none
    |_,_,_=>none
   |_,_=>none
 |_=>none
theorem rowOp_ok {gm:Gm} (hg:gm.ok β) {tmps:Tm} {ds:List Deferred} {o:Oper} {l:List SV} {ks:List SK} {e:TypeId} (hr:rowOp P gm tmps o.op=some (l,ks,e)):
 ∃len,l.length=len*ks.length∧ks.length≠0∧len≤maxLen∧(execOp (actD E β tmps ds).eval o).run P w= .ok (.value (.slice (some ⟨w.heap.size,0,none⟩) len len)) (w.alloc (.cells (SV.denL E β l).toArray e)):=by
 unfold execOp
 cases ho:o.op<;>simp only [ho,rowOp] at hr<;>try (first|(cases hr;done))
 case buildSlice T len parts=>
  split at hr
  ·rename_i e' ps hd hps
   split at hr
   ·rename_i sz z zv hsz hz hzv
    split at hr
    ·rename_i hc
     split at hr
     ·rename_i out hout
      split at hr
      ·rename_i hlen
       cases hr
       obtain ⟨zz,h1,h2⟩:=sZero_ok (E:=E) (β:=β) (w:=w) hz
       have h3: ¬ (len*sz>2^24):=by omega
       have hpp:(parts.map fun (x:Nat×Operand)=>match x with|(i,x)=>(i,(actD E β tmps ds).eval x)).toList=ps.map fun p=>(p.1,p.2.den E β):=by
        rw [←evParts_ok (E:=E) (ds:=ds) hg hps];simp
       have hfill:=sFill_ok (E:=E) (β:=β) hout
       refine ⟨len,by rw [hc.2.2.2];exact hlen,by rw [hc.2.2.2];exact hc.2.1,?_,?_⟩
       ·have:len*1≤len*sz:=Nat.mul_le_mul_left _ (Nat.pos_of_ne_zero hc.2.1)
        simp only [maxLen];omega
       ·by_cases h0:len*sz=0
        ·have e0:zeros z (len*sz)=[]:=by rw [h0];rfl
         rw [e0] at hfill
         have h30: ¬ (0>2^24):=by omega
         simp only [Instr.buildSlice,underlying,Sem.run_bind,run_program,Result.andThen_ok,hd,Sem.run_pure,sizeT_ok hsz,h0]
         rw [if_neg h30]
         simp only [if_true,Sem.run_bind,Sem.run_pure,Result.andThen_ok]
         have e1:(Array.range 0).map (fun (i:Nat)=>(#[]:Array Value)[i % (#[]:Array Value).size]!)=(SV.denL E β []).toArray:=by simp [SV.denL]
         rw [hpp,e1,hfill]
         simp [newRow]
        ·rw [←zeros_ok z (len*sz) (Or.inr (by intro h;simp [h] at hc))] at hfill
         simp only [Instr.buildSlice,underlying,Sem.run_bind,run_program,Result.andThen_ok,hd,Sem.run_pure,sizeT_ok hsz,h3,if_false,h0,h1]
         simp only [h2]
         rw [hpp,hfill]
         simp [newRow]
      ·cases hr
     ·cases hr
    ·cases hr
   ·cases hr
  ·cases hr
theorem HOk.pushRow {h:List SBlk} (hw:HOk E β h w) (hbnd:h.all (SBlk.bnd h.length)=true) {l:List SV} {ks:List SK} {S:TypeId} (hl:SV.bndL h.length l=true) {len:Nat} (hlen:l.length=len*ks.length) (hK:ks.length≠0) (hm:len≤maxLen):
 HOk E (upB β h.length ⟨w.heap.size,false,len,len,0,fun _=> .nilIface⟩) (h++[.row (.v 0) ks (.c 0) l S]) (w.alloc (.cells (SV.denL E β l).toArray S))∧
 Ext E h β w E (h++[.row (.v 0) ks (.c 0) l S]) (upB β h.length ⟨w.heap.size,false,len,len,0,fun _=> .nilIface⟩) (w.alloc (.cells (SV.denL E β l).toArray S)):=by
 have hag: ∀i,i<h.length→upB β h.length ⟨w.heap.size,false,len,len,0,fun _=> .nilIface⟩ i=β i:=fun i hi=>upB_ne (by omega)
 have hold: ∀c,c<w.heap.size→(w.alloc (.cells (SV.denL E β l).toArray S)).heap[c]?=w.heap[c]?:=fun c hc=>by
  show (w.heap.push _)[c]?=_
  rw [Array.getElem?_push,if_neg (by omega)]
 refine HOk.more hw hbnd rfl rfl rfl (by simp) hold (fun x hx=>by have:=hx.2;simp only at this;subst this;simp) ?_
 refine ⟨rfl,len,hlen,?_⟩
 have hrc:rowCells E (upB β h.length ⟨w.heap.size,false,len,len,0,fun _=> .nilIface⟩) (fun _=> .nilIface) (.v 0) ks ((SE.c 0).den E).toNat l=SV.denL E β l:=by
  simp only [rowCells,SE.den]
  rw [SV.denL_agree hag l hl];simp
 rw [hrc]
 have hll:(SV.denL E β l).length=len*ks.length:=by rw [denL_length];exact hlen
 refine ⟨by simpa [SE.den] using hll,.inr ⟨w.heap.size,len,(SV.denL E β l).toArray,by simp [Bk.v,SE.den],Nat.zero_le _,?_,by simp [SE.den],hm,by simpa using hll,?_⟩⟩
 ·show (w.heap.push _)[w.heap.size]?=_
  simp
 ·simp only [SE.den]
  rw [List.take_of_length_le (by simp [hll])]
end Go.Sy
end
end
