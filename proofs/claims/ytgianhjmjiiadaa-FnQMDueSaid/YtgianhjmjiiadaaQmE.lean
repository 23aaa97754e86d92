/- The script of what is received, in one of the first spaces, as patterns. -/
import Derived.Test.YtgianhjmjiiadaaQmAc
import Derived.Test.YtgianhjmjiiadaaChecked
import Derived.Test.YtgianhjmjiiadaaRows
import Derived.KernelRfl
import Derived.WalkKit
import Derived.Lib.Walk
import Derived.Lib.SliceRun
import Derived.Lib.JoinLaws
import Derived.Lib.AppendZeros
import Derived.Lib.AppendZerosOnto
import Derived.Lib.Overlaps
import Derived.Laws.Externs
import Derived.Laws.IdiomCopy
import Derived.Deep.RegionLaw
import Derived.Shelf.RegionOpenPlain
import Derived.Test.YtgianhjmjiiadaaSyNs
import Derived.Maps.AppendAt
section
set_option autoImplicit true
set_option relaxedAutoImplicit true
set_option linter.unusedVariables false
namespace Go.Proofs.Ytgianhjmjiiadaa
open Go Go.Sy
def ct8k (sp:Bool):Ct where
 g:=8
 args:=[.int .i64 (.c (if sp then 1 else 0)),.own 0]
 heap:=[scr]
 pre:=bd (.v 60) 0 60++[((.ap 13 (.a (.v 5) (.i (.v 60) .nil))),true)]
 alts:=[{ res:= .tup [.own 1,.bool (.c true)],post:=[scr,recB 1000 (.v 60) (.ap 23 slS) (.v 500) (.ap 24 slS) (.v 501) (.ap 25 slS)] }]
 nx:=2
def hs8k:Fx:=[((.eq (rs 0) (.c 2)),false),((.eq (rs 0) (.c 4)),false)]++hs8
def prm8k (P:Program):Prm:={ P,gm:=[],okf,mts:=[],dfr:=[13],sl:=[(8,7),(8,19)],ct:=[ct19,ct39 false,ct30 false,ct33kn,ct33kt],bt:=[btRecApp 29 1000 1 rq],hint:=[(8,8,hs8k)],recs:=true }
def kd1 (la:SV):SBlk:=kd (.own 5) la (.v 131) (.v 132) (.v 133) (.c (-1)) (.v 100)
def hdC:SBlk:= .cells [.ptr 3 Off.z,.ptr 4 Off.z,.int .u64 (.c 0),.int .u64 (.c 0),.int .u64 (.c 0),.nilslice,.int .i64 (.c (-1)),.nilptr,.bool (.c false),.int .i64 (.c 0),.int .i64 (.c 0),.int .i64 (.c 0),.bool (.c false),.int .i64 (.c 0),.int .i64 (.c 0),.int .i64 (.c (-1))] 88
def pf8k (sp:Bool):Fx:=(ct8k sp).pre++bd (.v 110) 0 60++bd (.v 100) 0 51++[rgF (.v 100) (.v 100),((orB (.not (.v 100)) (.le (.c 1) (.v 100))),true)]++bd (.v 131) 0 60++bd (.v 132) 0 60++bd (.v 133) 0 60
def tm8k (sp:Bool):List (Nat×SV):=[(0,.int .i64 (.c (if sp then 1 else 0))),(4,.own 6),(5,.ptr 1 Off.z),(6,.ptr 2 Off.z),(7,.int .u8 (.c (if sp then 2 else 1))),(21,.own 0),(22,.int .i64 (.v 60)),(23,.int .i64 (.v 110))]
def hp8k (sp:Bool) (la:SV):List SBlk:=[scr,.cells [.bool (.c false)] 4,hdC,if sp then .any else kd1 la,if sp then kd1 la else .any,iv (.v 100) (.v 100),recB 1000 (.v 110) (.v 120) (.v 121) (.v 122) (.v 123) (.v 124)]
def x8k:List SBlk:=[.cells [.bool (.c true),.bool (.c false),.own 10,.int .i64 (.c 0),.int .i64 (.c 0),.int .u64 (.v 131),.int .u64 (.v 132),.int .u64 (.v 133)] 35,.row (.v 103) [.int .i64,.int .i64] (.v 150) [] 36]
def pts8k (P:Program) (sp:Bool):List Pt:=[
 { r:=7,b:=loopB P 8 7,K:=loopK P 8 7,n:=129,tmps:=tm8k sp,ds:=ds8,heap:=hp8k sp .nilptr,facts:=pf8k sp },
 { r:=7,b:=loopB P 8 7,K:=loopK P 8 7,n:=129,tmps:=tm8k sp,ds:=ds8,heap:=hp8k sp (.ptr 7 Off.z)++fr8,facts:=pf8k sp++rdF8 },
 { r:=19,b:=loopB P 8 19,K:=loopK P 8 19,n:=129,tmps:=tm8k sp++[(10,.ptr 9 Off.z),(88,.own 8),(89,.int .i64 (.v 140)),(90,.int .i64 (.v 150))],ds:=ds8,heap:=hp8k sp (.ptr 7 Off.z)++fr8++x8k,facts:=pf8k sp++rdF8++bd (.v 150) 0 51++[((.le (.v 150) (.v 140)),true),((.lt (.v 110) (.v 60)),true)] }]
def col (s k:Nat):AE:= .ap ((if s=2 then 20 else 23)+k) slS
def stF (s:Nat):Fx:=[((.ap 11 (.a (.v 5) (.i (.v 60) (.i (.c s) .nil)))),true)]++(if s=2 then [sokF] else [((.ap 13 (.a (.v 5) (.i (.v 60) .nil))),true)])
def ct7 (s:Nat) (al:Bool):Ct where
 g:=7
 args:=[.int .i64 (.c s),.own 0,.bool (.c al)]
 heap:=[scr]
 pre:=bd (.v 60) 0 60++stF s
 alts:=[{ res:= .bool (.c true),post:=[scr] }]
def qsP (s:Nat) (t:Bool):SBlk:= .cells [.int .i64 (.c s),.map 3,if t then .map 4 else .nilmap,.int .i64 (.v 110),.int .i64 (.v 111),.int .i64 (.v 112),.int .i64 (.v 113),.int .i64 (.v 114),.int .i64 (.v 115),.bool (.v 116),.bool (.c t),.int .u64 (.v 117),.int .u64 (.v 118),.int .u64 (.v 119)] 72
def rs7 (c:Int):SE:= .rd (.v 5) (if c=0 then .mul (.v 130) (.c 6) else .add (.mul (.v 130) (.c 6)) (.c c))
def hs7:Fx:=bd (rs7 0) 0 4++bd (rs7 1) 0 3++bd (rs7 2) 0 99++bd (rs7 3) 0 1000000000
def h7 (s:Nat):Fx:=hs7++if s=2 then [] else [((.eq (rs7 0) (.c 2)),false),((.eq (rs7 0) (.c 4)),false)]
def qF:Fx:=(.ap 32 (.a (.v 100) .nil),true)::bd (.v 110) (-1) 100++bd (.v 111) 0 100++bd (.v 112) (-1) 100++bd (.v 113) 0 1000000000++bd (.v 114) 0 100++bd (.v 115) 0 1000000000++bd (.v 117) 0 100++bd (.v 118) 0 100++bd (.v 119) 0 100
def prm7 (P:Program) (s:Nat):Prm:={ P,gm:=[],okf,mts:=[],dfr:=[],sl:=[(7,6)],ct:=[if s=2 then ct8 else ct8k (s==1),ct9,ct12,ct11 false,ct11 true],bt:=btMake 70 7::[btRecLen 29 1000,btRecIx 29 1000 rq,btRecLd 4 1000 rq 0,btRecAll 1000 rq]++btN,hint:=[(7,7,h7 s)] }
def pts7 (P:Program) (s:Nat) (al:Bool):List Pt:=[false,true].map fun t=>
 { r:=6,b:=loopB P 7 6,K:=loopK P 7 6,n:=115,tmps:=[(0,.int .i64 (.c s)),(1,.own 0),(2,.bool (.c al)),(7,.own 1),(9,.ptr 2 Off.z),(31,.own 0),(32,.int .i64 (.v 60)),(33,.int .i64 (.v 130))],ds:=[],
   heap:=[scr,recB 1000 (.v 60) (col s 0) (.v 121) (col s 1) (.v 122) (col s 2),qsP s t,mp (.v 100) (.v 101)]++(if t then [mp (.v 102) (.v 103)] else []),facts:=(ct7 s al).pre++qF++bd (.v 130) 0 60 }
def codeB:SBlk:= .arr (.v 0) [.int .u8] (.v 1)
def code0:SV:= .slice 0 Off.z (.v 1) (.v 3)
def codeF:Fx:=[((.le (.c 0) (.v 1)),true),((.le (.v 1) (.v 3)),true),((.ap 16 (.a (.v 0) (.i (.v 1) .nil))),true)]
def ct6:Ct where
 g:=6
 args:=[.int .i64 (.v 30),code0]
 heap:=[codeB]
 pre:=bd (.v 30) 0 2++codeF++[((.le (.v 1) (.c 2147483647)),true)]
 alts:=[{ res:= .own 1,post:=[codeB,.row (.v 500) sk8 (.v 500) [] 26],xf:=bd (.v 500) 0 60++[((.ap 11 (.a (.v 500) (.i (.v 500) (.i (.v 30) .nil)))),true)] }]
 nx:=1
def prm6 (P:Program):Prm:={ P,gm:=[],okf,mts:=[],dfr:=[],sl:=[(6,4)],ct:=[],hint:=[(6,6,bd (.rd (.v 0) (.v 130)) 0 255++bd (.rd (.v 0) (.add (.v 130) (.c 1))) 0 255++bd (.rd (.v 0) (.add (.v 130) (.c 2))) 0 255)] }
def pts6 (P:Program):List Pt:=[
 { r:=4,b:=loopB P 6 4,K:=loopK P 6 4,n:=134,tmps:=[(0,.int .i64 (.v 30)),(1,code0),(5,.own 1),(6,.int .i64 (.v 132)),(7,.int .i64 (.v 133)),(8,.int .i64 (.v 134)),(9,.int .i64 (.v 130))],ds:=[],heap:=[codeB,.row (.v 121) sk8 (.v 131) [] 26],
   facts:=ct6.pre++bd (.v 130) 0 180++bd (.v 131) 0 60++bd (.v 132) 1000000 700000000++bd (.v 133) 0 99++bd (.v 134) (-1) 99 }]
def stV:SB×Bool:=((.ap 11 (.a (.v 5) (.i (.v 60) (.i (.v 30) .nil)))),true)
def ct7v (al:Bool):Ct where
 g:=7
 args:=[.int .i64 (.v 30),.own 0,.bool (.c al)]
 heap:=[scr]
 pre:=bd (.v 60) 0 60++bd (.v 30) 0 2++[stV]
 alts:=[{ res:= .bool (.c true),post:=[scr] }]
def ct34 (g:Nat):Ct where
 g:=g
 args:=[.int .u8 (.v 2),code0]
 heap:=[codeB]
 pre:=codeF++bd (.v 2) 0 255
 alts:=[{ res:= .bool (.c true),post:=[codeB] }]
def ct34n (g:Nat):Ct where
 g:=g
 args:=[.int .u8 (.v 2),.nilslice]
 heap:=[]
 pre:=bd (.v 2) 0 255
 alts:=[{ res:= .bool (.c true),post:=[] }]
def prmL (P:Program) (al:Bool):Prm:={ P,gm:=[],okf,mts:=[],dfr:=[],sl:=[(3,6)],ct:=[ct6,ct7v al] }
def k3:SE:= .tmod (.v 2) (.c 3)
def prmN (P:Program):Prm:={ P,gm:=[],okf,mts:=[],dfr:=[13],sl:=[],ct:=[ct9],bt:=btMake 70 7::[btRecLen 29 1000,btRecIx 29 1000 rq,btRecLd 4 1000 rq 0,btRecAll 1000 rq]++btN,recs:=true }
end Go.Proofs.Ytgianhjmjiiadaa
end
section
set_option autoImplicit true
set_option relaxedAutoImplicit true
set_option linter.unusedVariables false
set_option linter.unusedSimpArgs false
namespace Go.Proofs.Ytgianhjmjiiadaa
open Go Go.Sy
structure RW (m:Nat→Bool) (B:Nat→Int) (n L i c:Nat):Prop where
 le:c≤n
 cc: ∀q,q<n→(q<c↔(L:Int) - i≤B (q*2+1))
 n1:(rngF m L i).1=c
 hi: ∀q,q<c→(rngF m L i).2 (q*2+1)=B (q*2+1)
 lo: ∀q,q<c→(rngF m L i).2 (q*2)=max (B (q*2)) ((L:Int) - i)
theorem rngF_W {m:Nat→Bool} {B:Nat→Int} {n L:Nat} (hr:RgD B n) (hm: ∀z:Nat,m z=true↔ ∃q,q<n∧B (q*2)≤z∧(z:Int)≤B (q*2+1)) (hL: ∀q,q<n→B (q*2+1)<L): ∀i,i≤L→ ∃c,RW m B n L i c
 |0,_=>⟨0,Nat.zero_le _,fun q hq=>⟨fun h=>absurd h (Nat.not_lt_zero _),fun h=>by have:=hL q hq;omega⟩,rfl,fun q hq=>absurd hq (Nat.not_lt_zero _),fun q hq=>absurd hq (Nat.not_lt_zero _)⟩
 |i+1,hi=>by
  obtain ⟨c,w⟩:=rngF_W hr hm hL i (by omega)
  have hy:((L - 1 - i:Nat):Int)=(L:Int) - (i+1:Nat):=by omega
  have n1:=w.n1
  by_cases hmy:m (L - 1 - i)=true
  ·obtain ⟨j,hj,j1,j2⟩:=(hm _).1 hmy
   rw [hy] at j1 j2
   by_cases hjc:j<c
   ·
    have hjL:=(w.cc j hj).1 hjc
    have hjl:j+1=c:=by
     rcases Nat.lt_or_ge (j+1) c with q|q
     ·have:=(w.cc (j+1) (by have:=w.le;omega)).1 q
      have g:=hr.gap j (j+1) (by omega) (by have:=w.le;omega)
      omega
     ·omega
    have hlo:=w.lo j hjc
    have hx:(rngF m L i).2 (((rngF m L i).1 - 1)*2)=((L - 1 - i:Nat):Int)+1:=by
     rw [n1,show c - 1=j by omega,hlo];omega
    have hstep:rngF m L (i+1)=((rngF m L i).1,upd (rngF m L i).2 (((rngF m L i).1 - 1)*2) (L - 1 - i:Nat)):=by
     show (if m (L - 1 - i)=true then _ else _)=_
     rw [if_pos hmy,if_pos ⟨by rw [n1];omega,hx⟩]
    refine ⟨c,w.le,fun q hq=>?_,by rw [hstep];exact n1,fun q hq=>?_,fun q hq=>?_⟩
    ·constructor
     ·intro h;have:=(w.cc q hq).1 h;omega
     ·intro h
      rcases Nat.lt_or_ge q c with a|a
      ·exact a
      ·have g:=hr.gap j q (by omega) hq;omega
    ·rw [hstep]
     show upd _ _ _ _=_
     rw [upd,if_neg (by rw [n1];omega)];exact w.hi q hq
    ·rw [hstep]
     show upd _ _ _ _=_
     by_cases e:q=j
     ·subst e
      rw [upd,if_pos (by rw [n1];omega),hy];omega
     ·rw [upd,if_neg (by rw [n1];omega),w.lo q hq]
      have h2:=(w.cc j hj).1 hjc
      have g:=hr.gap q j (by omega) hj
      omega
   ·
    have hje:B (j*2+1)=(L:Int) - (i+1:Nat):=by
     have: ¬ (L:Int) - i≤B (j*2+1):=fun h=>hjc ((w.cc j hj).2 h)
     omega
    have hjl:j=c:=by
     rcases Nat.lt_or_ge c j with q|q
     ·have g:=hr.gap c j q hj
      have:=(w.cc c (by omega)).2 (by have:=hr.le c (by omega);have:=hr.le j hj;omega)
      omega
     ·omega
    subst hjl
    have hx: ¬ (0<(rngF m L i).1∧(rngF m L i).2 (((rngF m L i).1 - 1)*2)=((L - 1 - i:Nat):Int)+1):=by
     rintro ⟨h0,h1⟩
     rw [n1] at h0 h1
     rw [w.lo (j - 1) (by omega)] at h1
     have g:=hr.gap (j - 1) j (by omega) hj
     omega
    have hstep:rngF m L (i+1)=((rngF m L i).1+1,upd (upd (rngF m L i).2 ((rngF m L i).1*2) (L - 1 - i:Nat)) ((rngF m L i).1*2+1) (L - 1 - i:Nat)):=by
     show (if m (L - 1 - i)=true then _ else _)=_
     rw [if_pos hmy,if_neg hx]
    refine ⟨j+1,by omega,fun q hq=>?_,by rw [hstep];show (rngF m L i).1+1=_;rw [n1],fun q hq=>?_,fun q hq=>?_⟩
    ·constructor
     ·intro h
      by_cases e:q=j
      ·subst e;omega
      ·have:=(w.cc q hq).1 (by omega);omega
     ·intro h
      rcases Nat.lt_or_ge q (j+1) with a|a
      ·exact a
      ·have g:=hr.gap j q (by omega) hq
       have:=hr.le j hj;omega
    ·rw [hstep]
     show upd _ _ _ _=_
     by_cases e:q=j
     ·subst e
      rw [upd,if_pos (by rw [n1]),hy,hje]
     ·rw [upd,if_neg (by rw [n1];omega),upd,if_neg (by rw [n1];omega)];exact w.hi q (by omega)
    ·rw [hstep]
     show upd _ _ _ _=_
     by_cases e:q=j
     ·subst e
      rw [upd,if_neg (by rw [n1];omega),upd,if_pos (by rw [n1]),hy];omega
     ·rw [upd,if_neg (by rw [n1];omega),upd,if_neg (by rw [n1];omega),w.lo q (by omega)]
      have g:=hr.gap q j (by omega) hj
      omega
  ·
   have hno: ∀q,q<n→ ¬ (B (q*2)≤(L:Int) - (i+1:Nat)∧(L:Int) - (i+1:Nat)≤B (q*2+1)):=fun q hq h=>hmy ((hm _).2 ⟨q,hq,by rw [hy];exact h.1,by rw [hy];exact h.2⟩)
   have hstep:rngF m L (i+1)=rngF m L i:=by
    show (if m (L - 1 - i)=true then _ else _)=_
    rw [if_neg hmy]
   refine ⟨c,w.le,fun q hq=>?_,by rw [hstep];exact n1,fun q hq=>by rw [hstep];exact w.hi q hq,fun q hq=>?_⟩
   ·rw [w.cc q hq]
    have:=hno q hq;have:=hr.le q hq
    constructor
    ·intro h;omega
    ·intro h;omega
   ·rw [hstep,w.lo q hq]
    have h1:=(w.cc q (by have:=w.le;omega)).1 hq
    have:=hno q (by have:=w.le;omega)
    omega
theorem rng_eq {m:Nat→Bool} {B:Nat→Int} {n L:Nat} (hr:RgD B n) (hm: ∀z:Nat,m z=true↔ ∃q,q<n∧B (q*2)≤z∧(z:Int)≤B (q*2+1)) (hL: ∀q,q<n→B (q*2+1)<L):rgN m L=n∧ ∀j,j<n*2→rgB m L j=B j:=by
 obtain ⟨c,w⟩:=rngF_W hr hm hL L (Nat.le_refl _)
 have hc:c=n:=by
  rcases Nat.lt_or_ge c n with h|h
  ·have:=(w.cc c h).2 (by have:=hr.le c h;have:=hr.lo c h;omega)
   omega
  ·have:=w.le;omega
 subst hc
 refine ⟨w.n1,fun j hj=>?_⟩
 rcases Nat.mod_two_eq_zero_or_one j with e|e
 ·have:=w.lo (j/2) (by omega)
  rw [show j/2*2=j by omega] at this
  have h0:=hr.lo (j/2) (by omega)
  rw [show j/2*2=j by omega] at h0
  show (rngF m L L).2 j=_
  rw [this];omega
 ·have:=w.hi (j/2) (by omega)
  rw [show j/2*2+1=j by omega] at this
  exact this
def HmOk (A:Nat→Int) (n:Nat) (q d v:Int):Prop:=
 (v= -1∧ ∀z,0≤z→(d= -1∨d≤z)→z≤q→Mem A n z)∨(0≤v∧(d= -1∨d≤v)∧v≤q∧ ¬Mem A n v∧ ∀z,v<z→z≤q→Mem A n z)
theorem hmR_ok {A:Nat→Int} {n:Nat} {q d:Int} (hr:Rg A n) (q0:0≤q) (hd:d= -1∨d≤q): ∀i,i≤n→(∀j,i≤j→j<n→q<A (j*2))→(0<i→q≤A ((i - 1)*2+1))→HmOk A n q d (hmR A q d i)
 |0,_,h1,_=>show HmOk A n q d q from .inr ⟨q0,hd,Int.le_refl _,by rintro ⟨j,hj,a,_⟩;have:=h1 j (Nat.zero_le _) hj;omega,fun z a b=>by exfalso;have:q<z:=a;omega⟩
 |i+1,hi,h1,h2=>by
  have h2':q≤A (i*2+1):=h2 (by omega)
  simp only [hmR]
  by_cases c:A (i*2)≤q∧q≤A (i*2+1)
  ·rw [if_pos c]
   by_cases e:d≠ -1∧A (i*2) - 1<d
   ·rw [if_pos e]
    exact .inl ⟨rfl,fun z z0 zd zq=>⟨i,by omega,by omega,by omega⟩⟩
   ·rw [if_neg e]
    have lo:=hr.lo i (by omega)
    by_cases s:A (i*2)=0
    ·exact .inl ⟨by omega,fun z z0 zd zq=>⟨i,by omega,by omega,by omega⟩⟩
    ·refine .inr ⟨by omega,by omega,by omega,?_,fun z a b=>⟨i,by omega,by omega,by omega⟩⟩
     rintro ⟨j,hj,a,b⟩
     rcases Nat.lt_trichotomy j i with k|k|k
     ·have:=hr.gap j i k (by omega);omega
     ·subst k;omega
     ·have:=hr.gap i j k hj;have:=hr.le i (by omega);omega
  ·rw [if_neg c]
   have hlt:q<A (i*2):=by omega
   by_cases e:1≤i∧A ((i - 1)*2+1)<q∧q≤A (i*2)
   ·rw [if_pos e]
    refine .inr ⟨q0,hd,Int.le_refl _,?_,fun z a b=>by omega⟩
    rintro ⟨j,hj,a,b⟩
    rcases Nat.lt_trichotomy j i with k|k|k
    ·rcases Nat.lt_or_ge j (i - 1) with l|l
     ·have:=hr.gap j (i - 1) l (by omega);have:=hr.le (i - 1) (by omega);omega
     ·rw [show j=i - 1 by omega] at b;omega
    ·subst k;omega
    ·have:=h1 j (by omega) hj;omega
   ·rw [if_neg e]
    refine hmR_ok hr q0 hd i (by omega) (fun j a b=>?_) (fun a=>by omega)
    rcases Nat.lt_or_ge i j with k|k
    ·exact h1 j (by omega) b
    ·rw [show j=i by omega];exact hlt
theorem hm_ok {A:Nat→Int} {n:Nat} {p d:Int} (hr:Rg A n) (hn:0<n) (p0:0≤p) (hp:p≤A ((n - 1)*2+1)):HmOk A n p d (hm A n p d):=by
 unfold hm
 by_cases c:n=0∨(d≠ -1∧p<d)
 ·rw [if_pos c]
  exact .inl ⟨rfl,fun z z0 zd zq=>by omega⟩
 ·rw [if_neg c,show min (A ((n - 1)*2+1)) p=p by omega]
  exact hmR_ok hr p0 (by omega) n (Nat.le_refl _) (fun j a b=>by omega) (fun _=>hp)
theorem last_top {A:Nat→Int} {n:Nat} {t:Int} (hr:Rg A n) (ht:Mem A n t) (hm: ∀x,Mem A n x→x≤t):0<n∧A ((n - 1)*2+1)=t:=by
 obtain ⟨j,hj,a,b⟩:=ht
 have hn:0<n:=by omega
 have h1:=hm (A ((n - 1)*2+1)) ⟨n - 1,by omega,hr.le _ (by omega),Int.le_refl _⟩
 refine ⟨hn,?_⟩
 rcases Nat.lt_or_ge j (n - 1) with k|k
 ·have:=hr.gap j (n - 1) k (by omega);have:=hr.le (n - 1) (by omega);omega
 ·rw [show j=n - 1 by omega] at b;omega
structure Sp where
 gr:Int
 be:Int
 la:Int
 lt:Int
 nw:Int
 ca:Int
 du:Bool
 tl:Bool
 e0:Int
 e1:Int
 ce:Int
 H:Nat→Bool
 L:Nat→Bool
noncomputable def spR (q:Sp) (p e t:Int) (el:Bool):Sp:=
 { q with
   la:=if q.la≤p then p else q.la
   lt:=if q.la≤p then t else q.lt
   nw:=if el then q.nw+1 else q.nw
   ca:=if el then t else q.ca
   du:=q.du||(el&&(decide (1≤q.nw)||(decide (e=3)||(q.tl&&((decide (p<q.gr)&&!q.L p.toNat)||gapD (fun z=>decide (z=p.toNat)||q.H z) q.gr q.be (if q.la≤p then p else q.la))))))
   e0:=if e=2 then q.e0+1 else q.e0
   e1:=if e=1 then q.e1+1 else q.e1
   ce:=if e=3 then q.ce+1 else q.ce
   H:=fun z=>decide (z=p.toNat)||q.H z }
def spF (q:Sp):Sp:={ q with gr:=q.la,nw:=0,ca:=0,du:=false,tl:=true,L:=q.H }
def spB (q:Sp) (p:Int):Sp:={ q with be:=p,H:=fun z=>decide (p≤z)&&q.H z }
structure Rel (s:St) (top:Int) (q:Sp):Prop where
 gr:q.gr=if s.k=true then s.B 1 else -1
 be:q.be=s.ig
 la:q.la=top
 lt:q.lt=s.lt
 nw:q.nw=s.ct
 nb:s.nw=decide (0<s.ct)
 ca:0≤q.ca∧q.ca≤1000000000
 al:s.al=if 0<s.ct∧s.qd=false then q.ca+25000000 else 0
 du:q.du=s.qd
 tl:q.tl=s.k
 e0:q.e0=s.c0
 e1:q.e1=s.c1
 ce:q.ce=s.ce
 db:s.db=s.ig∨(s.db= -1∧s.ig=0)
 H: ∀z:Nat,q.H z=true↔Mem s.A s.n z
 L:s.k=true→ ∀z:Nat,q.L z=acks s.B s.m z
 bm:s.k=true→s.ig≤s.B 1→Mem s.A s.n (s.B 1)
theorem rel_zero:Rel s0 (-1) ⟨-1,0,-1,0,0,0,false,false,0,0,0,fun _=>false,fun _=>false⟩:=
 ⟨rfl,rfl,rfl,rfl,rfl,rfl,⟨by decide,by decide⟩,rfl,rfl,rfl,rfl,rfl,rfl,.inr ⟨rfl,rfl⟩,fun z=>⟨fun h=>(by cases h),fun h=>(by obtain ⟨i,hi,_⟩:=h;exact absurd hi (Nat.not_lt_zero _))⟩,fun h=>(by cases h),fun h=>(by cases h)⟩
theorem gapD_t {m:Nat→Bool} {gr be la:Int}:gapD m gr be la=true↔ ∃z:Nat,be≤z∧gr<z∧(z:Int)<la∧m z=false:=by
 unfold gapD;exact @decide_eq_true_iff _ (Classical.propDecidable _)
theorem rel_old {s:St} {top:Int} {q:Sp} (R:Rel s top q) {p:Int} (p0:0≤p):(decide (p<q.be)||q.H p.toNat)=isOld s p:=by
 have h1:q.H p.toNat=memD s.A s.n p:=by
  rw [Bool.eq_iff_iff,R.H,memD_iff,show ((p.toNat:Nat):Int)=p by omega]
 have h2:decide (p<q.be)=decide (p<s.db):=by
  rw [decide_eq_decide,R.be];have:=R.db;omega
 unfold isOld;rw [h1,h2]
theorem rel_nm {s:St} {i:Nat} {top:Int} {q:Sp} (I:Inv s i top) (R:Rel s top q) {p:Int} (p0:0≤p) (p1:p≤99) (hk:s.k=true):
 nmD s p=gapD (fun z=>decide (z=p.toNat)||q.H z) q.gr q.be (if q.la≤p then p else q.la):=by
 obtain ⟨a1,a2,-,-⟩:=add_ok I.rg p0 (show p≤1000 by omega)
 have hla:(if q.la≤p then p else q.la)=grt s.lo p:=by
  rw [R.la];unfold grt
  have:=I.e;have:=I.t;have:=I.t0
  by_cases ht:top= -1
  ·have h0:=(I.e ht).2.2.2
   rw [if_pos (by omega),if_pos (by omega)]
  ·have h0:=(I.t (by omega)).1
   rw [h0]
 have hmx:(if q.la≤p then p else q.la)=max top p:=by rw [R.la];split<;>omega
 obtain ⟨m1,m2,m3⟩:=I.k hk
 have hB:q.gr=s.B 1:=by rw [R.gr,if_pos hk]
 have hB0:0≤s.B 1:=by have:=m3.le 0 (by omega);have:=m3.lo 0 (by omega);simp at*;omega
 have hH: ∀z:Nat,(decide (z=p.toNat)||q.H z)=true↔Mem (addA s.A s.n p) (addN s.A s.n p) z:=fun z=>by
  rw [Bool.or_eq_true,decide_eq_true_iff,R.H,a2]
  constructor
  ·rintro (h|h)
   ·exact .inr (by omega)
   ·exact .inl h
  ·rintro (h|h)
   ·exact .inr h
   ·exact .inl (by omega)
 rw [Bool.eq_iff_iff,gapD_t,hB]
 unfold nmD
 rw [Bool.and_eq_true,decide_eq_true_iff,decide_eq_true_iff,hla]
 have hdb:=R.db;have hbe:=R.be
 have hf: ∀z:Nat,(decide (z=p.toNat)||q.H z)=false↔ ¬Mem (addA s.A s.n p) (addN s.A s.n p) z:=fun z=>by rw [←hH z,Bool.not_eq_true]
 constructor
 ·rintro ⟨g1,v1,v2,v3⟩
  have hlast:=last_top a1 (t:=max top p) (by
   by_cases c:top≤p
   ·rw [show max top p=p by omega];exact (a2 p).2 (.inr rfl)
   ·rw [show max top p=top by omega];exact (a2 top).2 (.inl (I.t (by omega)).2)) (fun x hx=>by
    rcases (a2 x).1 hx with h|h
    ·have:=I.mem x h;omega
    ·omega)
  rcases hm_ok (d:=s.db) a1 hlast.1 (show 0≤grt s.lo p - 1 by omega) (by rw [hlast.2,←hmx,hla];omega) with ⟨h1,h2⟩|⟨h1,h2,h3,h4,h5⟩
  ·exact absurd h1 v1
  ·have hne:hm (addA s.A s.n p) (addN s.A s.n p) (grt s.lo p - 1) s.db≠s.B 1:=fun he=>by
    rw [he] at h2 h4
    exact h4 ((a2 _).2 (.inl (R.bm hk (by omega))))
   refine ⟨(hm (addA s.A s.n p) (addN s.A s.n p) (grt s.lo p - 1) s.db).toNat,by omega,by omega,by omega,(hf _).2 ?_⟩
   rw [show (((hm (addA s.A s.n p) (addN s.A s.n p) (grt s.lo p - 1) s.db).toNat:Nat):Int)=hm (addA s.A s.n p) (addN s.A s.n p) (grt s.lo p - 1) s.db by omega]
   exact h4
 ·rintro ⟨z,z1,z2,z3,z4⟩
  have z4':=(hf z).1 z4
  have hlast:=last_top a1 (t:=max top p) (by
   by_cases c:top≤p
   ·rw [show max top p=p by omega];exact (a2 p).2 (.inr rfl)
   ·rw [show max top p=top by omega];exact (a2 top).2 (.inl (I.t (by have:=I.t0;omega)).2)) (fun x hx=>by
    rcases (a2 x).1 hx with h|h
    ·have:=I.mem x h;omega
    ·omega)
  have g1:1≤grt s.lo p:=by omega
  refine ⟨g1,?_⟩
  rcases hm_ok (d:=s.db) a1 hlast.1 (show 0≤grt s.lo p - 1 by omega) (by rw [hlast.2,←hmx,hla];omega) with ⟨h1,h2⟩|⟨h1,h2,h3,h4,h5⟩
  ·exact absurd (h2 z (by omega) (by omega) (by omega)) z4'
  ·have:(z:Int)≤hm (addA s.A s.n p) (addN s.A s.n p) (grt s.lo p - 1) s.db:=by
    rcases Int.lt_or_le (hm (addA s.A s.n p) (addN s.A s.n p) (grt s.lo p - 1) s.db) z with c|c
    ·exact absurd (h5 z c (by omega)) z4'
    ·exact c
   omega
theorem rel_sq {s:St} {i:Nat} {top:Int} {q:Sp} (I:Inv s i top) (R:Rel s top q) {p e t:Int} {el:Bool} (p0:0≤p) (p1:p≤99) (ho:isOld s p=false):(spR q p e t el).du=sqD s p e el:=by
 show (q.du||(el&&(decide (1≤q.nw)||(decide (e=3)||(q.tl&&((decide (p<q.gr)&&!q.L p.toNat)||gapD _ q.gr q.be _))))))=_
 unfold sqD
 have h1:decide (1≤q.nw)=decide (2≤s.ct+1):=by rw [decide_eq_decide,R.nw];omega
 have h2:decide (e=3)=decide (ecnI e=4):=by
  rw [decide_eq_decide];unfold ecnI
  constructor
  ·intro h;subst h;rfl
  ·intro h;split at h
   ·omega
   ·split at h
    ·omega
    ·split at h
     ·assumption
     ·omega
 rw [R.du,R.tl,h1,h2]
 cases hk:s.k
 ·cases s.qd<;>cases el<;>cases decide (2≤s.ct+1)<;>cases decide (ecnI e=4)<;>rfl
 ·have h3:(decide (p<q.gr)&&!q.L p.toNat)=msD s p:=by
   unfold msD
   rw [R.L hk,R.gr,if_pos hk,show ((p.toNat:Nat):Int)=p by omega]
   have:=(old_f ho).1;have:=R.db
   congr 1
   rw [decide_eq_decide];omega
  rw [h3,←rel_nm I R p0 p1 hk]
  cases s.qd<;>cases el<;>cases decide (2≤s.ct+1)<;>cases decide (ecnI e=4)<;>cases msD s p<;>cases nmD s p<;>rfl
theorem rel_rcv {s:St} {i:Nat} {top:Int} {q:Sp} (I:Inv s i top) (R:Rel s top q) {p e t:Int} {el:Bool} (p0:0≤p) (p1:p≤99) (t0:0≤t) (t1:t≤1000000000) (ho:isOld s p=false):
 Rel (rcv s p e t el) (max top p) (spR q p e t el):=by
 obtain ⟨a1,a2,-,-⟩:=add_ok I.rg p0 (show p≤1000 by omega)
 have hsq:=rel_sq (t:=t) (e:=e) (el:=el) I R p0 p1 ho
 have hlo:s.lo≤p↔q.la≤p:=by
  rw [R.la]
  have:=I.t0
  by_cases ht:top= -1
  ·have h0:=(I.e ht).2.2.2;omega
  ·have h0:=(I.t (by omega)).1;omega
 have ec: ∀a b:Int,(a=2∧b=3∨a=1∧b=2∨a=3∧b=4)→(e=a↔ecnI e=b):=by
  intro a b hab
  unfold ecnI
  split<;>(try split)<;>(try split)<;>omega
 refine ⟨R.gr,R.be,?_,?_,?_,?_,?_,?_,hsq,R.tl,?_,?_,?_,R.db,fun z=>?_,R.L,fun hk hb=>(a2 _).2 (.inl (R.bm hk hb))⟩
 ·show (if q.la≤p then p else q.la)=max top p
  rw [R.la];split<;>omega
 ·show (if q.la≤p then t else q.lt)=if s.lo≤p then t else s.lt
  rw [R.lt]
  by_cases c:q.la≤p
  ·rw [if_pos c,if_pos (hlo.2 c)]
  ·rw [if_neg c,if_neg (fun h=>c (hlo.1 h))]
 ·show (if el=true then q.nw+1 else q.nw)=if el=true then s.ct+1 else s.ct
  rw [R.nw]
 ·show (s.nw||el)=decide (0<if el=true then s.ct+1 else s.ct)
  rw [R.nb]
  have:=I.ct
  cases el
  ·simp
  ·simp;omega
 ·show 0≤(if el=true then t else q.ca)∧(if el=true then t else q.ca)≤1000000000
  have:=R.ca
  split<;>omega
 ·show (if el=true then (if sqD s p e el=true then (if s.qd=true then s.al else 0) else t+25000000) else s.al)=if 0<(if el=true then s.ct+1 else s.ct)∧sqD s p e el=false then (if el=true then t else q.ca)+25000000 else 0
  have hct:=I.ct
  cases el
  ·have:sqD s p e false=s.qd:=by unfold sqD;simp
   rw [this]
   simp only [Bool.false_eq_true,if_false]
   exact R.al
  ·simp only [if_true]
   cases hs:sqD s p e true
   ·rw [if_neg (by decide),if_pos ⟨by omega,rfl⟩]
   ·simp only [if_true,Bool.true_eq_false,and_false,if_false]
    cases hq:s.qd
    ·rfl
    ·have:=R.al
     rw [if_neg (by rw [hq];intro h;cases h.2)] at this
     rw [if_pos rfl];exact this
 ·show (if e=2 then q.e0+1 else q.e0)=if ecnI e=3 then s.c0+1 else s.c0
  rw [R.e0]
  have:=ec 2 3 (by omega)
  by_cases c:e=2
  ·rw [if_pos c,if_pos (this.1 c)]
  ·rw [if_neg c,if_neg (fun h=>c (this.2 h))]
 ·show (if e=1 then q.e1+1 else q.e1)=if ecnI e=2 then s.c1+1 else s.c1
  rw [R.e1]
  have:=ec 1 2 (by omega)
  by_cases c:e=1
  ·rw [if_pos c,if_pos (this.1 c)]
  ·rw [if_neg c,if_neg (fun h=>c (this.2 h))]
 ·show (if e=3 then q.ce+1 else q.ce)=if ecnI e=4 then s.ce+1 else s.ce
  rw [R.ce]
  have:=ec 3 4 (by omega)
  by_cases c:e=3
  ·rw [if_pos c,if_pos (this.1 c)]
  ·rw [if_neg c,if_neg (fun h=>c (this.2 h))]
 ·show (decide (z=p.toNat)||q.H z)=true↔Mem (addA s.A s.n p) (addN s.A s.n p) z
  rw [Bool.or_eq_true,decide_eq_true_iff,R.H,a2]
  constructor
  ·rintro (h|h)
   ·exact .inr (by omega)
   ·exact .inl h
  ·rintro (h|h)
   ·exact .inr h
   ·exact .inl (by omega)
theorem rv0 (A:Nat→Int) (n i:Nat):rvA A n (i*2)=A ((n - 1 - i)*2):=by unfold rvA;rw [show i*2/2=i by omega,show i*2 % 2=0 by omega];rfl
theorem rv1 (A:Nat→Int) (n i:Nat):rvA A n (i*2+1)=A ((n - 1 - i)*2+1):=by unfold rvA;rw [show (i*2+1)/2=i by omega,show (i*2+1) % 2=1 by omega]
theorem mem_rv {A:Nat→Int} {n:Nat} {x:Int}:Mem A n x↔ ∃i,i<n∧rvA A n (i*2)≤x∧x≤rvA A n (i*2+1):=by
 constructor
 ·rintro ⟨i,hi,a,b⟩
  exact ⟨n - 1 - i,by omega,by rw [rv0,show n - 1 - (n - 1 - i)=i by omega];exact a,by rw [rv1,show n - 1 - (n - 1 - i)=i by omega];exact b⟩
 ·rintro ⟨i,hi,a,b⟩
  rw [rv0] at a;rw [rv1] at b
  exact ⟨n - 1 - i,by omega,a,b⟩
theorem acks_iff {B:Nat→Int} {m:Nat} {p:Int}:acks B m p=true↔ ∃i,i<m∧B (i*2)≤p∧p≤B (i*2+1):=by
 unfold acks
 rw [List.any_eq_true]
 constructor
 ·rintro ⟨i,hi,h⟩;exact ⟨i,List.mem_range.1 hi,of_decide_eq_true h⟩
 ·rintro ⟨i,hi,h⟩;exact ⟨i,List.mem_range.2 hi,decide_eq_true h⟩
theorem nw_top {s:St} {i:Nat} {top:Int} (I:Inv s i top) (hn:s.nw=true):0≤top:=by
 have:=I.t0
 by_cases h:top= -1
 ·have:=(I.e h).2.1;rw [hn] at this;cases this
 ·omega
theorem rel_fram {s:St} {i:Nat} {top:Int} {q:Sp} (I:Inv s i top) (R:Rel s top q) (hn:s.nw=true):Rel (fram s) top (spF q):=by
 have ht:=nw_top I hn
 have hl:=last_top I.rg (I.t ht).2 I.mem
 have hB:rvA s.A s.n 1=top:=by
  have:=rv1 s.A s.n 0
  simp only [Nat.zero_mul,Nat.zero_add,Nat.sub_zero] at this
  rw [this];exact hl.2
 refine ⟨?_,R.be,R.la,R.lt,rfl,rfl,⟨by show (0:Int)≤0;omega,by show (0:Int)≤1000000000;omega⟩,rfl,rfl,rfl,R.e0,R.e1,R.ce,R.db,R.H,fun _ z=>?_,fun _ _=>?_⟩
 ·show q.la=if true=true then rvA s.A s.n 1 else -1
  rw [if_pos rfl,hB];exact R.la
 ·show q.H z=acks (rvA s.A s.n) s.n z
  rw [Bool.eq_iff_iff,R.H,acks_iff,mem_rv]
 ·show Mem s.A s.n (rvA s.A s.n 1)
  rw [hB];exact (I.t ht).2
theorem rel_cut {s:St} {i:Nat} {top:Int} {q:Sp} (I:Inv s i top) (R:Rel s top q) {p:Int} (p0:0≤p):Rel (cutS s p) top (if q.be<p then spB q p else q):=by
 unfold cutS
 rw [R.be]
 by_cases c:p≤s.ig
 ·rw [if_pos c,if_neg (by omega)];exact R
 ·rw [if_neg c,if_pos (by omega)]
  have hm:=cut_mem (p:=p) I.rg
  refine ⟨R.gr,rfl,R.la,R.lt,R.nw,R.nb,R.ca,R.al,R.du,R.tl,R.e0,R.e1,R.ce,.inl rfl,fun z=>?_,R.L,fun hk hb=>(hm _).2 ⟨R.bm hk (by have hb':p≤s.B 1:=hb;omega),hb⟩⟩
  show (decide (p≤z)&&q.H z)=true↔Mem (cutA s.A s.n p) (s.n - dkR s.A p s.n) z
  rw [Bool.and_eq_true,decide_eq_true_iff,R.H,hm,And.comm]
theorem rel_asks {s:St} {i:Nat} {top:Int} {q:Sp} (I:Inv s i top) (R:Rel s top q) {t:Int} {on:Bool}:asks s t on=(!(q.nw==0)&&!(on&&!(q.du||decide (q.ca+25000000≤t)))):=by
 unfold asks
 have hct:=I.ct
 rw [R.nb,R.du,R.nw]
 have al:=R.al
 have ca:=R.ca
 by_cases c:0<s.ct
 ·have h1:(!(s.ct==0))=true:=by simp;omega
  rw [h1,decide_eq_true c]
  cases hq:s.qd
  ·rw [hq,if_pos ⟨c,rfl⟩] at al
   have h2:(decide (s.al=0)||decide (t<s.al))=!decide (q.ca+25000000≤t):=by
    rw [decide_eq_false (show¬s.al=0 by omega),Bool.false_or]
    by_cases d:t<s.al
    ·rw [decide_eq_true d,decide_eq_false (by omega)];rfl
    ·rw [decide_eq_false d,decide_eq_true (by omega)];rfl
   rw [h2];cases on<;>cases decide (q.ca+25000000≤t)<;>rfl
  ·cases on<;>rfl
 ·have h1:s.ct=0:=by omega
  rw [h1];rfl
theorem rel_asks0 {s:St} {i:Nat} {top:Int} {q:Sp} (I:Inv s i top) (R:Rel s top q) {t:Int}:asks s t false=!(q.nw==0):=by
 rw [rel_asks I R];cases (!(q.nw==0))<;>rfl
theorem rel_al {s:St} {top:Int} {q:Sp} (R:Rel s top q):s.al=if 0<q.nw∧q.du=false then q.ca+25000000 else 0:=by rw [R.nw,R.du];exact R.al
theorem rel_rg {s:St} {i:Nat} {top:Int} {q:Sp} (I:Inv s i top) (R:Rel s top q):rgN q.H (q.la+1).toNat=s.n∧ ∀j,j<s.n*2→rgB q.H (q.la+1).toNat j=rvA s.A s.n j:=by
 refine rng_eq (rgd_of I.rg) (fun z=>by rw [R.H,mem_rv]) (fun k hk=>?_)
 have:=I.mem (rvA s.A s.n (k*2+1)) (mem_rv.2 ⟨k,hk,(rgd_of I.rg).le k hk,Int.le_refl _⟩)
 have:=(rgd_of I.rg).lo k hk
 have:=(rgd_of I.rg).le k hk
 rw [R.la];omega
theorem hv_up (a b:Nat→Int) (p:Nat):hvD (fun j=>if j=p then 1 else a j) (fun j=>if j=p then 1 else b j)=fun z=>decide (z=p)||hvD a b z:=by
 funext z
 unfold hvD
 by_cases h:z=p
 ·simp [h]
 ·simp [h]
theorem hv_one {a b:Nat→Int} (h: ∀z,a z≠0→b z≠0):hvD (fun z=>if a z=0 then 0 else 1) (fun z=>if a z=0 then 0 else 1)=hvD a b:=by
 funext z
 unfold hvD
 by_cases c:a z=0
 ·simp [c]
 ·simp [c,h z c]
theorem hv_cut (a b:Nat→Int) (p:Int):hvD (fun z=>if (z:Int)<p then 0 else a z) b=fun z:Nat=>decide (p≤z)&&hvD a b z:=by
 funext z
 unfold hvD
 by_cases c:(z:Int)<p
 ·have: ¬p≤(z:Int):=by omega
  simp [c,this]
 ·have:p≤(z:Int):=by omega
  simp [c,this]
structure HvOk (a b:Nat→Int):Prop where
 sm: ∀z,100≤z→a z=0
 tr: ∀z,a z≠0→b z≠0
theorem HvOk.up {a b:Nat→Int} (h:HvOk a b) {p:Nat} (hp:p<100):HvOk (fun j=>if j=p then 1 else a j) (fun j=>if j=p then 1 else b j):=by
 refine ⟨fun z hz=>?_,fun z hz=>?_⟩
 ·show (if z=p then (1:Int) else a z)=0
  rw [if_neg (by omega)];exact h.sm z hz
 ·show (if z=p then (1:Int) else b z)≠0
  have hz':(if z=p then (1:Int) else a z)≠0:=hz
  by_cases c:z=p
  ·rw [if_pos c];decide
  ·rw [if_neg c] at hz'⊢;exact h.tr z hz'
theorem HvOk.cut {a b:Nat→Int} (h:HvOk a b) (p:Int):HvOk (fun z=>if (z:Int)<p then 0 else a z) b:=by
 refine ⟨fun z hz=>?_,fun z hz=>?_⟩
 ·show (if (z:Int)<p then 0 else a z)=0
  split
  ·rfl
  ·exact h.sm z hz
 ·have hz':(if (z:Int)<p then 0 else a z)≠0:=hz
  split at hz'
  ·exact absurd rfl hz'
  ·exact h.tr z hz'
def asS (sp:Int) (q:Sp) (kd t:Int) (on:Bool):Bool:=(kd==1)&&(!(q.nw==0)&&!(on&&!(decide (sp<2)||(q.du||decide (q.ca+25000000≤t)))))
def cuS (sp:Int) (q:Sp) (kd p:Int):Bool:=(kd==2)&&((sp==2)&&decide (q.be<p))
def olS (q:Sp) (p:Int):Bool:=decide (p<q.be)||q.H p.toNat
def reS (q:Sp) (kd p:Int):Bool:=(kd==0)&&!olS q p
noncomputable def spN (sp:Int) (q:Sp) (kd e p t:Int) (el on:Bool):Sp:=if asS sp q kd t on=true then spF q else if cuS sp q kd p=true then spB q p else if reS q kd p=true then spR q p e t el else q
def onS (sp:Int) (on:Bool):Bool:=if sp=2 then on else false
theorem asS_eq {s:St} {i:Nat} {top:Int} {q:Sp} (I:Inv s i top) (R:Rel s top q) {sp kd t:Int} {on:Bool} (h0:sp≤2):asS sp q kd t on=((kd==1)&&asks s t (onS sp on)):=by
 unfold asS onS
 by_cases c:sp=2
 ·rw [if_pos c,rel_asks I R,decide_eq_false (show¬sp<2 by omega),Bool.false_or]
 ·rw [if_neg c,rel_asks0 I R,decide_eq_true (show sp<2 by omega)]
  cases on<;>cases (kd==1)<;>cases (q.nw==0)<;>rfl
theorem old_top {s:St} {i:Nat} {top:Int} (I:Inv s i top) {p:Int} (p0:0≤p) (h:isOld s p=true):p≤top:=by
 unfold isOld at h
 rw [Bool.or_eq_true,decide_eq_true_iff,memD_iff] at h
 rcases h with h|h
 ·have:=I.db;have:=I.ig;omega
 ·exact I.mem p h
theorem rel_next {s:St} {i:Nat} {top:Int} {q:Sp} (I:Inv s i top) (R:Rel s top q) {sp kd e p t:Int} {el on:Bool} (h0:sp≤2) (p0:0≤p) (p1:p≤99) (t0:0≤t) (t1:t≤1000000000) (k2:kd=2→sp=2):
 Rel (stp s kd e p t el (onS sp on)) (if kd=0 then max top p else top) (spN sp q kd e p t el on):=by
 unfold stp spN
 rw [asS_eq I R h0]
 by_cases c0:kd=0
 ·subst c0
  have h1:((0:Int)==1)=false:=rfl
  have h2:cuS sp q 0 p=false:=by unfold cuS;rfl
  have h3:reS q 0 p=!isOld s p:=by unfold reS olS;rw [rel_old R p0];rfl
  simp only [h1,h2,h3,Bool.false_and,Bool.false_eq_true,if_false,if_true]
  cases ho:isOld s p
  ·exact rel_rcv I R p0 p1 t0 t1 ho
  ·have:=old_top I p0 ho
   show Rel s (max top p) q
   rw [show max top p=top by omega];exact R
 ·rw [if_neg c0,if_neg c0]
  have h3:reS q kd p=false:=by unfold reS;rw [show (kd==0)=false from by simpa using c0];rfl
  by_cases c1:kd=1
  ·subst c1
   have h2:cuS sp q 1 p=false:=by unfold cuS;rfl
   rw [if_pos rfl,h2,h3,show ((1:Int)==1)=true from rfl,Bool.true_and]
   cases ha:asks s t (onS sp on)
   ·exact R
   ·refine rel_fram I R ?_
    unfold asks at ha
    cases hn:s.nw
    ·rw [hn] at ha;cases ha
    ·rfl
  ·rw [if_neg c1,show (kd==1)=false from by simpa using c1,Bool.false_and,h3]
   simp only [Bool.false_eq_true,if_false]
   by_cases c2:kd=2
   ·have hs:=k2 c2
    have hc:cuS sp q kd p=decide (q.be<p):=by unfold cuS;subst c2;subst hs;rfl
    rw [if_pos c2,hc]
    have:=rel_cut I R p0
    by_cases d:q.be<p
    ·rw [if_pos d] at this
     simp only [decide_eq_true d,if_true];exact this
    ·rw [if_neg d] at this
     simp only [decide_eq_false d,Bool.false_eq_true,if_false];exact this
   ·have hc:cuS sp q kd p=false:=by unfold cuS;rw [show (kd==2)=false from by simpa using c2];rfl
    simp only [if_neg c2,hc,Bool.false_eq_true,if_false];exact R
def rowS (sp:Int) (S:Nat→Int):Nat→Int:=if sp=2 then S else offS S
theorem rowS_c (sp:Int) (S:Nat→Int) (i:Nat):kdA (rowS sp S) i=kdA S i∧ecA (rowS sp S) i=ecA S i∧pnA (rowS sp S) i=pnA S i∧tmA (rowS sp S) i=tmA S i∧elA (rowS sp S) i=elA S i∧onA (rowS sp S) i=onS sp (onA S i):=by
 unfold rowS onS
 by_cases h:sp=2
 ·rw [if_pos h,if_pos h];exact ⟨rfl,rfl,rfl,rfl,rfl,rfl⟩
 ·rw [if_neg h,if_neg h];exact off_c S i
theorem rel_at {S:Nat→Int} {n i:Nat} {sp:Int} {q:Sp} (T:STok S n sp) (h2:sp≤2) (hi:i<n) (I:Inv (sAt (rowS sp S) i) i (topA (rowS sp S) i)) (R:Rel (sAt (rowS sp S) i) (topA (rowS sp S) i) q):
 Rel (sAt (rowS sp S) (i+1)) (topA (rowS sp S) (i+1)) (spN sp q (kdA S i) (ecA S i) (pnA S i) (tmA S i) (elA S i) (onA S i)):=by
 obtain ⟨c1,c2,c3,c4,c5,c6⟩:=rowS_c sp S i
 have hp:=T.pn i hi
 have ht:=T.tm i hi
 have:=rel_next (e:=ecA S i) (el:=elA S i) (on:=onA S i) I R h2 hp.1 hp.2 (show 0≤tmA S i by omega) ht.2 (fun h=>(T.ig i hi h).2)
 simp only [sAt,topA]
 rw [c1,c2,c3,c4,c5,c6]
 exact this
theorem fr_at {S:Nat→Int} {i:Nat} {sp:Int} {q:Sp} (h2:sp≤2) (I:Inv (sAt (rowS sp S) i) i (topA (rowS sp S) i)) (R:Rel (sAt (rowS sp S) i) (topA (rowS sp S) i) q):frA (rowS sp S) i=asS sp q (kdA S i) (tmA S i) (onA S i):=by
 obtain ⟨c1,c2,c3,c4,c5,c6⟩:=rowS_c sp S i
 rw [asS_eq I R h2]
 unfold frA
 rw [c1,c4,c6]
 rfl
theorem is_at {S:Nat→Int} {n i:Nat} {sp:Int} {q:Sp} (T:STok S n sp) (h2:sp≤2) (hi:i<n) (I:Inv (sAt (rowS sp S) i) i (topA (rowS sp S) i)) (R:Rel (sAt (rowS sp S) i) (topA (rowS sp S) i) q):
 isC (rowS sp S) i=(asS sp q (kdA S i) (tmA S i) (onA S i)||(decide (kdA S i=3)&&olS q (pnA S i)))∧wrC (rowS sp S) i=(decide (kdA S i=0)&&olS q (pnA S i)):=by
 obtain ⟨c1,c2,c3,c4,c5,c6⟩:=rowS_c sp S i
 have ho:olS q (pnA S i)=isOld (sAt (rowS sp S) i) (pnA S i):=rel_old R (T.pn i hi).1
 unfold isC wrC
 rw [fr_at h2 I R,ho,c1,c3]
 exact ⟨rfl,rfl⟩
end Go.Proofs.Ytgianhjmjiiadaa
end
section
set_option autoImplicit true
set_option relaxedAutoImplicit true
set_option linter.unusedVariables false
set_option linter.unusedSimpArgs false
namespace Go.Proofs.Ytgianhjmjiiadaa
open Go Go.Sy Go.RowKit Go.Lib
section
variable {P:Program}
theorem run_copy_cellsN (w:World) (dT sT ty elem:TypeId) (S b o dLen dCap:Nat) (a:Addr) (sLen sCap:Nat) (cs:List Value)
 (hu:P.underlying dT=some (.slice elem)) (hs:(P.info? elem).map (·.size)=some S) (hn:cs.length=Nat.min sLen dLen*S)
 (hsrc: ∀j v,cs[j]?=some v→w.cell? (a.add j)=some v) (hc: ∀j,j<cs.length→(w.cell? ⟨b,o+j,none⟩).isSome=true) (hf: ∀j,j<cs.length→w.frozen? ⟨b,o+j,none⟩=false) (h1: ∀v∈cs,v.oneCell'=true):
 (Builtin.copy_ #[dT,sT] ty #[.slice (some ⟨b,o,none⟩) dLen dCap,.slice (some a) sLen sCap]).run P w= .ok (goInt (Nat.min sLen dLen)) (w.setCells b o cs):=by
 have hl:=run_loadCells_list (P:=P) w a cs hsrc
 have hst:=run_storeCells_cells (P:=P) b o cs 0 w (by simpa using hc) (by simpa using hf) h1
 cases hq:P.info? elem with
 |none=>simp [hq] at hs
 |some i=>
  have hi:i.size=S:=by simpa [hq] using hs
  simp [Builtin.copy_,run_underlying hu,Builtin.lenOf,Builtin.firstCells,sizeOf,typeInfo,hq,hi,←hn,hl,hst]
theorem wp_copy_runI (w:World) {o:Oper} {a:Act} {K:Act→World→Prop} {Q:Exit→Act→World→Prop} (d s:Operand) (t t':TypeId)
 (ho:o.op= .call { callee:= .builtin .copy,args:= #[d,s],argTypes:= #[t,t'] }) (v u:Value) (hd:a.eval d=v) (hs:a.eval s=u) {v':Value} {w':World}
 (hr:(Builtin.copy_ #[t,t'] o.type #[v,u]).run P w= .ok v' w') (h:K (a.put o.dst v') w'):o.wp P a w K Q:=by
 unfold Oper.wp execOp
 simp only [ho,resolve,invoke,builtin,Sem.run_bind,Sem.run_pure,Result.andThen_ok,List.map_toArray,List.map_cons,List.map_nil,hd,hs,hr]
 exact h
theorem wpList_copy_runI (w:World) {ops:Array Oper} {rest:List Oper} {o:Oper} {a:Act} {Q:Exit→Act→World→Prop} (hgd:o.guard=none) (d s:Operand) (t t':TypeId)
 (ho:o.op= .call { callee:= .builtin .copy,args:= #[d,s],argTypes:= #[t,t'] }) (v u:Value) (hd:a.eval d=v) (hs:a.eval s=u) {v':Value} {w':World}
 (hr:(Builtin.copy_ #[t,t'] o.type #[v,u]).run P w= .ok v' w') (h:wpList P ops Q rest (a.put o.dst v') w'):wpList P ops Q (o::rest) a w:=
 wpList_plain hgd fun _ hK=>wp_copy_runI w d s t t' ho v u hd hs hr (hK _ _ h)
theorem step_copy_runI {ops:Array Oper} {o:Oper} {a:Act} {w:World} {K:Act→World→Prop} {Q:Exit→Act→World→Prop} {E:Prop}
 (hg:o.guard=none) (d x:Operand) (dT sT:TypeId) (hop:o.op=Op.call { callee:=Callee.builtin Builtin.copy,args:= #[d,x],argTypes:= #[dT,sT] })
 (v u:Value) (hd:a.eval d=v) (hx:a.eval x=u) {v':Value} {w':World} (hr:(Builtin.copy_ #[dT,sT] o.type #[v,u]).run P w= .ok v' w') (hK:K (a.put o.dst v') w'):
 if Region.wanted o (yielded ops a.tmps)=true then Oper.wp P o a w K Q else E:=by
 have hw:Region.wanted o (yielded ops a.tmps)=true:=by simp [Region.wanted,hg]
 rw [if_pos hw]
 unfold Oper.wp
 simp [execOp,hop,resolve,invoke,builtin,hd,hx,hr,Result.andThen]
 exact hK
theorem t78:Try.prog.underlying 78=some (.slice 106):=by kernel_rfl
theorem t3:Try.prog.underlying 3=some (.int .i64):=by kernel_rfl
theorem t4:Try.prog.underlying 4=some .bool:=by kernel_rfl
theorem z106:(Try.prog.info? 106).map (·.size)=some 2:=by kernel_rfl
theorem z106' (w:World):(Go.sizeOf 106).run Try.prog w= .ok 2 w:=sizeT_ok z106
set_option maxHeartbeats 4000000 in
set_option maxRecDepth 100000 in
theorem ins_shift (b off n c i vb cv:Nat) (cs vs:List Value) (w:World) (hi:i<n) (hroom:n+1≤c) (hc63:c≤9223372036854775807) (hvb:vb≠b)
 (hcl:cs.length=n*2) (hvl:vs.length=2)
 (hcs: ∀j v,cs[j]?=some v→w.cell? ⟨b,off+j,none⟩=some v) (hsp: ∀j,j<(n+1)*2→(w.cell? ⟨b,off+j,none⟩).isSome=true) (hfz: ∀j,j<(n+1)*2→w.frozen? ⟨b,off+j,none⟩=false)
 (hvs: ∀j v,vs[j]?=some v→w.cell? ⟨vb,0+j,none⟩=some v) (h1c: ∀v∈cs,v.oneCell'=true) (h1v: ∀v∈vs,v.oneCell'=true)
 (tA tB:TypeId) (kA kB:Nat) (hsa:w.shape? vb=some (tA,kA)) (hsb:w.shape? b=some (tB,kB)) (hkB:kB≠0) (hfa:w.frozen? ⟨vb,0,none⟩=false) (hfe:w.frozen? ⟨vb,kA,none⟩=false):
 Calls Try.prog 57 #[.slice (some ⟨b,off,none⟩) n c,.int .i64 i,.slice (some ⟨vb,0,none⟩) 1 cv] w fun e w'=>
  e= .returned (.slice (some ⟨b,off,none⟩) (n+1) c)∧w'=(w.drew.setCells b (off+(i+1)*2) (cs.drop (i*2))).setCells b (off+i*2) vs:=by
 have t78:=t78;have t3:=t3;have t4:=t4;have z106:=z106'
 have u78:=run_underlying t78;have u3:=run_underlying t3;have u4:=run_underlying t4
 have hz2: ¬ ((i:Int)=(n:Int)):=by omega
 have hov: ∀lb cb,(callFunc 63 #[.slice (some ⟨vb,0,none⟩) 1 cv,.slice (some ⟨b,off+(i+1)*2,none⟩) lb cb]).run Try.prog w= .ok (.value (.bool false)) w:=fun lb cb=>by
  rw [run_callFunc_extern Try.func63 (by kernel_rfl) (by kernel_rfl) (by kernel_rfl) (e:=Extern.SlicesOverlaps.overlaps #[78,78] #[4]) (by kernel_rfl),
   Lib.run_overlaps_apart w 78 4 106 t78 2 z106 ⟨vb,0,none⟩ ⟨b,off+(i+1)*2,none⟩ 1 cv lb cb hvb tA tB kA kB hsa hsb hkB hfa hfe]
  rfl
 have hdl:(cs.drop (i*2)).length=(n - i)*2:=by rw [List.length_drop,hcl,Nat.sub_mul]
 have mixed:Try.prog.follows .mixedOrders=true:=by kernel_rfl
 have hw1:IntKind.i64.wrap ((i:Int)+1)=(i:Int)+1:=by rw [IntKind.wrap_i64];omega
 have hw2:IntKind.i64.wrap ((n:Int)+1)=(n:Int)+1:=by rw [IntKind.wrap_i64];omega
 have hw3: ¬ ((c:Int)<(n:Int)+1):=by omega
 have hb1:(0:Int)≤(i:Int)+1:=by omega
 have hb5:(0:Int)≤(n:Int)+1:=by omega
 have hb6:(n:Int)+1≤(c:Int):=by omega
 have hin:i≤n:=by omega
 have htn:((i:Int)+1).toNat=i+1:=by omega
 have htn2:((n:Int)+1).toNat=n+1:=by omega
 have hb2: ¬ (c=i+1):=by omega
 have hb3:(i:Int)≤((n+1:Nat):Int):=by omega
 have hb7:(i:Int)+1≤((n+1:Nat):Int):=by omega
 have hb4: ¬ (c=i):=by omega
 have hb8:(i:Int)≤(n:Int)+1:=by omega
 have hb9:(i:Int)+1≤(n:Int)+1:=by omega
 have hmin:Nat.min (n+1 - i) (n - i)=n - i:=by simp only [Nat.min_def];split<;>omega
 have hmin2:Nat.min 1 (n+1 - i)=1:=by simp only [Nat.min_def];split<;>omega
 have hcp1: ∀ty dc sc,(Builtin.copy_ #[78,78] ty #[.slice (some ⟨b,off+(i+1)*2,none⟩) (n - i) dc,.slice (some ⟨b,off+i*2,none⟩) (n+1 - i) sc]).run Try.prog w.drew= .ok (goInt (Nat.min (n+1 - i) (n - i))) (w.drew.setCells b (off+(i+1)*2) (cs.drop (i*2))):=fun ty dc sc=>
  run_copy_cellsN w.drew _ _ ty 106 2 b (off+(i+1)*2) (n - i) dc ⟨b,off+i*2,none⟩ (n+1 - i) sc (cs.drop (i*2)) t78 Go.Proofs.Ytgianhjmjiiadaa.z106 (by rw [hdl,hmin])
   (fun j v hj=>by rw [Addr.add_lit,Nat.add_assoc];exact hcs (i*2+j) v (by rwa [List.getElem?_drop] at hj))
   (fun j hj=>by rw [Nat.add_assoc];exact hsp _ (by omega)) (fun j hj=>by rw [Nat.add_assoc];exact hfz _ (by omega)) (fun v hv=>h1c v (List.mem_of_mem_drop hv))
 obtain ⟨W1,hW1⟩: ∃W1,W1=w.drew.setCells b (off+(i+1)*2) (cs.drop (i*2)):=⟨_,rfl⟩
 have hsp1: ∀k,k<(n+1)*2→(W1.cell? ⟨b,off+k,none⟩).isSome=true:=fun k hk=>by
  rw [hW1]
  exact setCells_some b _ _ _ (fun j hj=>by rw [Nat.add_assoc];exact hsp _ (by omega)) _ (hsp k hk)
 have hcp2: ∀(W:World),(∀x,W.cell? x=W1.cell? x)→(∀x,W.frozen? x=W1.frozen? x)→ ∀ty dc,(Builtin.copy_ #[78,78] ty #[.slice (some ⟨b,off+i*2,none⟩) (n+1 - i) dc,.slice (some ⟨vb,0,none⟩) 1 cv]).run Try.prog W= .ok (goInt (Nat.min 1 (n+1 - i))) (W.setCells b (off+i*2) vs):=fun W hWc hWf ty dc=>
  run_copy_cellsN W _ _ ty 106 2 b (off+i*2) (n+1 - i) dc ⟨vb,0,none⟩ 1 cv vs t78 Go.Proofs.Ytgianhjmjiiadaa.z106 (by rw [hvl,hmin2])
   (fun j v hj=>by
     rw [Addr.add_lit,hWc,hW1,World.cell?_setCells_out b _ _ _ _ (fun h _=>absurd h hvb)]
     exact hvs j v hj)
   (fun j hj=>by rw [hWc,Nat.add_assoc];exact hsp1 _ (by omega)) (fun j hj=>by rw [hWf,hW1,World.frozen?_setCells,Nat.add_assoc];exact hfz _ (by omega)) h1v
 rw [←hW1] at hcp1
 clear hcs hsp hfz hvs h1c h1v hsp1
 go_enter Try.func57,Try.ntmps57
 go_wp2_with (simp only [hov])
 go_region_law_o (refine step_copy_runI rfl _ _ 78 78 rfl _ _ (by simp [Act.eval,Act.put]) (by simp [Act.eval,Act.put]) (hcp1 _ _ _) ?_)
 go_wp2_with (at_builtin;refine wpList_copy_runI _ rfl _ _ 78 78 rfl _ _ rfl rfl (hcp2 _ (fun _=>rfl) (fun _=>rfl) _ _) ?_)
 go_ret
 exact ⟨rfl,rfl⟩
theorem i106:(Try.prog.info? 106).map (fun i=>(i.zero.map (·.cells.size),i.size,i.bytes))=some (some 2,2,16):=by kernel_rfl
set_option maxHeartbeats 4000000 in
set_option maxRecDepth 100000 in
theorem ins_grow (b off n c i vb cv:Nat) (cs vs:List Value) (w:World) (hi:i<n) (hnc:n≤c) (hroom:c<n+1) (hbig:(n+1)*16≤140737488355328) (hbw:b<w.heap.size) (hvw:vb<w.heap.size)
 (hcl:cs.length=n*2) (hvl:vs.length=2)
 (hcs: ∀j v,cs[j]?=some v→w.cell? ⟨b,off+j,none⟩=some v)
 (hvs: ∀j v,vs[j]?=some v→w.cell? ⟨vb,0+j,none⟩=some v) (h1c: ∀v∈cs,v.oneCell'=true) (h1v: ∀v∈vs,v.oneCell'=true):
 ∃(G:Nat) (ROW:Array Value),n+1≤G∧G≤9223372036854775807∧ROW.size=G*2∧(∀j,j<i*2→ROW[j]?=cs[j]?)∧
 Calls Try.prog 57 #[.slice (some ⟨b,off,none⟩) n c,.int .i64 i,.slice (some ⟨vb,0,none⟩) 1 cv] w fun e w'=>
  e= .returned (.slice (some ⟨w.heap.size,0,none⟩) (n+1) G)∧w'=(((w.alloc (.cells ROW 106)).drew.setCells w.heap.size (i*2) vs).drew).setCells w.heap.size ((i+1)*2) (cs.drop (i*2)):=by
 have t78:=t78;have t3:=t3;have t4:=t4;have z106:=z106'
 have u78:=run_underlying t78;have u3:=run_underlying t3;have u4:=run_underlying t4
 obtain ⟨i0,hi0,z,hz0,hzc,hzs,hzb⟩: ∃i0,Try.prog.info? 106=some i0∧ ∃z,i0.zero=some z∧z.cells.size=2∧i0.size=2∧i0.bytes=16:=by
  have h:=i106
  cases hq:Try.prog.info? 106 with
  |none=>rw [hq] at h;cases h
  |some i0=>
   rw [hq] at h
   simp only [Option.map_some,Option.some.injEq,Prod.mk.injEq] at h
   obtain ⟨h1,h2,h3⟩:=h
   cases hz:i0.zero with
   |none=>rw [hz] at h1;cases h1
   |some z=>rw [hz] at h1;exact ⟨i0,rfl,z,hz,by simpa using h1,h2,h3⟩
 have mixed:Try.prog.follows .mixedOrders=true:=by kernel_rfl
 have hz2: ¬ ((i:Int)=(n:Int)):=by omega
 have hz3:(c:Int)<(n:Int)+1:=by omega
 have hkk:(n:Int)+1 - (i:Int)=((n+1 - i:Nat):Int):=by omega
 have hik:i+(n+1 - i)=n+1:=by omega
 have hold:(Builtin.firstCells i0.size i (.slice (some ⟨b,off,none⟩) i c)).run Try.prog w.drew= .ok (cs.take (i*2)).toArray w.drew:=by
  rw [hzs]
  exact run_firstCells_some w.drew 2 i ⟨b,off,none⟩ i c (cs.take (i*2)) (by rw [List.length_take,hcl];omega) (fun j v hj=>by
   rw [Addr.add_lit]
   rw [List.getElem?_take] at hj
   split at hj
   ·exact hcs j v hj
   ·cases hj)
 have hrz: ∀ty,(Builtin.append_ #[78,3] ty #[.slice (some ⟨b,off,none⟩) i c,.int .i64 ((n:Int)+1 - (i:Int))]).run Try.prog w=
  .ok (.slice (some ⟨w.heap.size,0,none⟩) (n+1) (grownCap w (n+1) c 106)) (w.drew.alloc (.cells ((cs.take (i*2)).toArray++Builtin.zeroCells z.cells (n+1 - i)++Builtin.zeroCells z.cells (grownCap w (n+1) c 106 - (n+1))) 106)):=fun ty=>by
  have h:=Lib.run_append_grow_zeros w 78 3 ty 106 i0 _ .i64 .i64 t78 t3 hi0 hz0 (some ⟨b,off,none⟩) i c (cs.take (i*2)) hold (n+1 - i) (by omega) (by omega) (by omega) (by omega) (by rw [hzb];omega) (by rw [hzb,hik];exact growslice_fits hroom hbig)
  rw [hik] at h
  rw [hkk]
  exact h
 obtain ⟨G,hG⟩: ∃G,G=grownCap w (n+1) c 106:=⟨_,rfl⟩
 obtain ⟨ROW,hROW⟩: ∃ROW:Array Value,ROW=(cs.take (i*2)).toArray++Builtin.zeroCells z.cells (n+1 - i)++Builtin.zeroCells z.cells (G - (n+1)):=⟨_,rfl⟩
 have hGn:n+1≤G:=by rw [hG];exact grownCap_ge w _ _ _
 have hG63:G≤9223372036854775807:=by
  have:=grownCap_le_maxLen w (n+1) c 106 (by unfold maxLen;omega)
  rw [←hG] at this
  unfold maxLen at this
  omega
 have hRs:ROW.size=G*2:=by
  rw [hROW]
  simp only [Array.size_append,List.size_toArray,List.length_take,hcl,size_zeroCells,hzc]
  rw [Nat.min_eq_left (Nat.mul_le_mul_right _ (by omega)),←Nat.add_mul,←Nat.add_mul]
  congr 1;omega
 have hR0: ∀j,j<i*2→ROW[j]?=cs[j]?:=fun j hj=>by
  have hil:i*2≤n*2:=Nat.mul_le_mul_right _ (by omega)
  rw [hROW,Array.append_assoc,Array.getElem?_append_left (by simp [hcl];omega)]
  simp [List.getElem?_take,hj]
 refine ⟨G,ROW,hGn,hG63,hRs,hR0,?_⟩
 rw [←hG,←hROW] at hrz
 obtain ⟨W1,hW1⟩: ∃W1,W1=w.drew.alloc (.cells ROW 106):=⟨_,rfl⟩
 rw [←hW1] at hrz
 have hN: ∀j,j<(n+1)*2→(W1.cell? ⟨w.heap.size,j,none⟩).isSome=true:=fun j hj=>by
  have:(n+1)*2≤G*2:=Nat.mul_le_mul_right _ hGn
  rw [hW1,World.cell?_alloc_at (w:=w.drew) ROW _ w.heap.size j rfl,Array.getElem?_eq_getElem (by omega)];rfl
 have hNf: ∀j,W1.frozen? ⟨w.heap.size,j,none⟩=false:=fun j=>by rw [hW1];exact World.frozen?_alloc_at (w:=w.drew) ROW _ w.heap.size j rfl
 have hOb: ∀j v,w.cell? ⟨b,j,none⟩=some v→W1.cell? ⟨b,j,none⟩=some v:=fun j v h=>by rw [hW1,World.cell?_alloc_past (w:=w.drew) _ b j hbw];exact h
 have hOv: ∀j v,w.cell? ⟨vb,j,none⟩=some v→W1.cell? ⟨vb,j,none⟩=some v:=fun j v h=>by rw [hW1,World.cell?_alloc_past (w:=w.drew) _ vb j hvw];exact h
 have hmin2:Nat.min 1 (n+1 - i)=1:=by simp only [Nat.min_def];split<;>omega
 have hmin:Nat.min (n - i) (n - i)=n - i:=Nat.min_self _
 have hcpA: ∀(W:World),(∀x,W.cell? x=W1.cell? x)→(∀x,W.frozen? x=W1.frozen? x)→ ∀ty dc,(Builtin.copy_ #[78,78] ty #[.slice (some ⟨w.heap.size,i*2,none⟩) (n+1 - i) dc,.slice (some ⟨vb,0,none⟩) 1 cv]).run Try.prog W= .ok (goInt (Nat.min 1 (n+1 - i))) (W.setCells w.heap.size (i*2) vs):=fun W hWc hWf ty dc=>
  run_copy_cellsN W _ _ ty 106 2 w.heap.size (i*2) (n+1 - i) dc ⟨vb,0,none⟩ 1 cv vs t78 Go.Proofs.Ytgianhjmjiiadaa.z106 (by rw [hvl,hmin2])
   (fun j v hj=>by rw [Addr.add_lit,hWc];exact hOv _ v (hvs j v hj))
   (fun j hj=>by rw [hWc];exact hN _ (by omega)) (fun j hj=>by rw [hWf];exact hNf _) h1v
 have hGi: ¬ (G=i):=by omega
 have hGim: ¬ (G=i+1):=by omega
 have hci: ¬ (c=i):=by omega
 have hbN:b≠w.heap.size:=by omega
 have hdl:(cs.drop (i*2)).length=(n - i)*2:=by rw [List.length_drop,hcl,Nat.sub_mul]
 have hcpB: ∀(W:World),(∀x,W.cell? x=(W1.setCells w.heap.size (i*2) vs).cell? x)→(∀x,W.frozen? x=(W1.setCells w.heap.size (i*2) vs).frozen? x)→ ∀ty dc sc,(Builtin.copy_ #[78,78] ty #[.slice (some ⟨w.heap.size,(i+1)*2,none⟩) (n - i) dc,.slice (some ⟨b,off+i*2,none⟩) (n - i) sc]).run Try.prog W= .ok (goInt (Nat.min (n - i) (n - i))) (W.setCells w.heap.size ((i+1)*2) (cs.drop (i*2))):=fun W hWc hWf ty dc sc=>
  run_copy_cellsN W _ _ ty 106 2 w.heap.size ((i+1)*2) (n - i) dc ⟨b,off+i*2,none⟩ (n - i) sc (cs.drop (i*2)) t78 Go.Proofs.Ytgianhjmjiiadaa.z106 (by rw [hdl,hmin])
   (fun j v hj=>by
     rw [Addr.add_lit,hWc,World.cell?_setCells_out _ _ _ _ _ (fun h _=>absurd h hbN),Nat.add_assoc]
     exact hOb _ v (hcs (i*2+j) v (by rwa [List.getElem?_drop] at hj)))
   (fun j hj=>by rw [hWc];exact setCells_some _ _ _ _ (fun t ht=>hN _ (by omega)) _ (hN _ (by omega)))
   (fun j hj=>by rw [hWf,World.frozen?_setCells];exact hNf _) (fun v hv=>h1c v (List.mem_of_mem_drop hv))
 subst hW1
 have hE1: ∀x,((w.alloc (.cells ROW 106)).drew).cell? x=(w.drew.alloc (.cells ROW 106)).cell? x:=fun x=>rfl
 have hE2: ∀x,((w.alloc (.cells ROW 106)).drew).frozen? x=(w.drew.alloc (.cells ROW 106)).frozen? x:=fun x=>rfl
 have hF1: ∀x,(((w.alloc (.cells ROW 106)).drew.setCells w.heap.size (i*2) vs).drew).cell? x=((w.drew.alloc (.cells ROW 106)).setCells w.heap.size (i*2) vs).cell? x:=fun x=>rfl
 have hF2: ∀x,(((w.alloc (.cells ROW 106)).drew.setCells w.heap.size (i*2) vs).drew).frozen? x=((w.drew.alloc (.cells ROW 106)).setCells w.heap.size (i*2) vs).frozen? x:=fun x=>rfl
 have hw1:IntKind.i64.wrap ((i:Int)+1)=(i:Int)+1:=by rw [IntKind.wrap_i64];omega
 have hw2:IntKind.i64.wrap ((n:Int)+1)=(n:Int)+1:=by rw [IntKind.wrap_i64];omega
 have hw3:IntKind.i64.wrap ((n:Int)+1 - (i:Int))=(n:Int)+1 - (i:Int):=by rw [IntKind.wrap_i64];omega
 have hb1:(0:Int)≤(i:Int)+1:=by omega
 have hin:i≤n:=by omega
 have htn:((i:Int)+1).toNat=i+1:=by omega
 have hb3:(i:Int)≤(n:Int):=by omega
 have hb8:(i:Int)≤(n:Int)+1:=by omega
 have hb9:(i:Int)+1≤(n:Int)+1:=by omega
 clear hkk hik hold hROW hG hRs hR0 hcs hvs h1c h1v hN hNf hOb hOv
 go_enter Try.func57,Try.ntmps57
 go_wp2_with (first
  |(at_builtin;refine Lib.wpList_append_run _ rfl _ _ _ _ rfl _ _ rfl rfl _ _ (hrz _) ?_)
  |(at_builtin;refine wpList_copy_runI _ rfl _ _ 78 78 rfl _ _ rfl rfl (hcpA _ hE1 hE2 _ _) ?_)
  |(at_builtin;refine wpList_copy_runI _ rfl _ _ 78 78 rfl _ _ rfl rfl (hcpB _ (fun _=>rfl) (fun _=>rfl) _ _ _) ?_))
 go_region_law_o (refine step_copy_runI rfl _ _ 78 78 rfl (.slice (some ⟨w.heap.size,(i+1)*2,none⟩) (n - i) (G - (i+1))) (.slice (some ⟨b,off+i*2,none⟩) (n - i) (c - i)) (by simp [Act.eval,Act.put]) (by simp [Act.eval,Act.put]) (hcpB _ hF1 hF2 3 (G - (i+1)) (c - i)) ?_)
 go_wp2
 go_ret
 exact ⟨rfl,rfl⟩
theorem i106c:(Try.prog.info? 106).map (fun i=>(i.zero.map (·.cells),i.size,i.bytes))=some (some #[.int .i64 0,.int .i64 0],2,16):=by kernel_rfl
theorem i106': ∃i z,Try.prog.info? 106=some i∧i.zero=some z∧z.cells= #[.int .i64 0,.int .i64 0]∧i.size=2∧i.bytes=16:=by
 have h:=i106c
 cases hq:Try.prog.info? 106 with
 |none=>rw [hq] at h;cases h
 |some i0=>
  rw [hq] at h
  simp only [Option.map_some,Option.some.injEq,Prod.mk.injEq] at h
  obtain ⟨h1,h2,h3⟩:=h
  cases hz:i0.zero with
  |none=>rw [hz] at h1;cases h1
  |some z=>rw [hz] at h1;exact ⟨i0,z,rfl,hz,by simpa using h1,h2,h3⟩
theorem run_clear_cells (w:World) (b o n c:Nat) (ty:TypeId) (hn:0<n) (hc: ∀j,j<n*2→(w.cell? ⟨b,o+j,none⟩).isSome=true) (hf: ∀j,j<n*2→w.frozen? ⟨b,o+j,none⟩=false):
 ∃zs:List Value,zs.length=n*2∧(Builtin.clear_ #[78] ty #[.slice (some ⟨b,o,none⟩) n c]).run Try.prog w= .ok (.tuple #[]) (w.setCells b o zs):=by
 obtain ⟨i,z,hi,hz,hzc,hzs,hzb⟩:=i106'
 have hl:(Builtin.zeroCells z.cells n).toList.length=n*2:=by rw [Array.length_toList,size_zeroCells,hzc];rfl
 have h1: ∀v∈(Builtin.zeroCells z.cells n).toList,v.oneCell'=true:=by
  intro v hv
  rw [hzc] at hv
  simp [Builtin.zeroCells] at hv
  obtain ⟨a,ha,h⟩:=hv
  rcases (by omega:a % 2=0∨a % 2=1) with e|e<;>rw [e] at h<;>rw [←h]<;>rfl
 have hst:=run_storeCells_cells (P:=Try.prog) b o (Builtin.zeroCells z.cells n).toList 0 w (by rw [hl];simpa using hc) (by rw [hl];simpa using hf) h1
 refine ⟨_,hl,?_⟩
 have hn':n≠0:=by omega
 obtain ⟨m,rfl⟩: ∃m,n=m+1:=⟨n - 1,by omega⟩
 simp [Builtin.clear_,run_underlying t78,zeroValue,typeInfo,hi,hz,hst]
theorem step_run2 {P:Program} {ops:Array Oper} {o:Oper} {a:Act} {w:World} {K:Act→World→Prop} {Q:Exit→Act→World→Prop} {E:Prop}
 (hg:o.guard=none) (d x:Operand) (dT sT:TypeId) (hop:o.op=Op.call { callee:=Callee.builtin Builtin.append,args:= #[d,x],argTypes:= #[dT,sT] })
 (v u:Value) (hd:a.eval d=v) (hx:a.eval x=u) {v':Value} {w':World} (hr:(Builtin.append_ #[dT,sT] o.type #[v,u]).run P w= .ok v' w') (hK:K (a.put o.dst v') w'):
 if Region.wanted o (yielded ops a.tmps)=true then Oper.wp P o a w K Q else E:=by
 have hw:Region.wanted o (yielded ops a.tmps)=true:=by simp [Region.wanted,hg]
 rw [if_pos hw]
 unfold Oper.wp
 simp [execOp,hop,resolve,invoke,builtin,hd,hx,hr,Result.andThen]
 exact hK
set_option maxHeartbeats 4000000 in
set_option maxRecDepth 100000 in
theorem ins_end (b n c vb cv:Nat) (vs:List Value) (w:World) (h1:1≤n) (hc63:c≤9223372036854775807) {R:Value} {W:World}
 (hr: ∀ty,(Builtin.append_ #[78,78] ty #[.slice (some ⟨b,0,none⟩) n c,.slice (some ⟨vb,0,none⟩) 1 cv]).run Try.prog w= .ok R W) (hnc:n≤c):
 Calls Try.prog 57 #[.slice (some ⟨b,0,none⟩) n c,.int .i64 n,.slice (some ⟨vb,0,none⟩) 1 cv] w fun e w'=>e= .returned R∧w'=W:=by
 have t78:=t78;have t3:=t3;have t4:=t4
 have u78:=run_underlying t78;have u3:=run_underlying t3;have u4:=run_underlying t4
 have hb3:(n:Int)≤(n:Int):=Int.le_refl _
 go_enter Try.func57,Try.ntmps57
 go_wp2_with (at_builtin;refine Lib.wpList_append_run _ rfl _ _ _ _ rfl _ _ rfl rfl _ _ (hr _) ?_)
 all_goals go_ret
 all_goals exact ⟨rfl,rfl⟩
set_option maxHeartbeats 4000000 in
set_option maxRecDepth 100000 in
theorem del_walk (b n c i j:Nat) (cs:List Value) (w:World) (hij:i<j) (hj:j≤n) (hnc:n≤c) (hc63:c≤9223372036854775807)
 (hcl:cs.length=n*2) (hcs: ∀j v,cs[j]?=some v→w.cell? ⟨b,j,none⟩=some v) (hfz: ∀j,w.frozen? ⟨b,j,none⟩=false) (h1c: ∀v∈cs,v.oneCell'=true):
 ∃zs:List Value,zs.length=(j - i)*2∧Calls Try.prog 51 #[.slice (some ⟨b,0,none⟩) n c,.int .i64 i,.int .i64 j] w fun e w'=>
  e= .returned (.slice (some ⟨b,0,none⟩) (i+(n - j)) c)∧w'=(w.drew.setCells b (i*2) (cs.drop (j*2))).setCells b ((i+(n - j))*2) zs:=by
 have t78:=t78;have t3:=t3;have t4:=t4
 have u78:=run_underlying t78;have u3:=run_underlying t3;have u4:=run_underlying t4
 have z106:=z106'
 have mixed:Try.prog.follows .mixedOrders=true:=by kernel_rfl
 obtain ⟨i0,z,hi0,hz0,hzc,hzs,hzb⟩:=i106'
 have hsm: ∀k,k<n*2→(w.cell? ⟨b,k,none⟩).isSome=true:=fun k hk=>by
  obtain ⟨v,hv⟩: ∃v,cs[k]?=some v:=⟨_,List.getElem?_eq_getElem (by omega)⟩
  rw [hcs k v hv];rfl
 have hdl:(cs.drop (j*2)).length=(n - j)*2:=by rw [List.length_drop,hcl];omega
 obtain ⟨W1,hW1⟩: ∃W1,W1=w.drew.setCells b (i*2) (cs.drop (j*2)):=⟨_,rfl⟩
 have hra: ∀ty (a:Addr),(n=j∨a=⟨b,j*2,none⟩)→(Builtin.append_ #[78,78] ty #[.slice (some ⟨b,0,none⟩) i c,.slice (some a) (n - j) (c - j)]).run Try.prog w.drew= .ok (.slice (some ⟨b,0,none⟩) (i+(n - j)) c) W1:=fun ty a ha=>by
  have h:=run_append_room_cells (P:=Try.prog) w.drew 78 ty 106 i0 t78 hi0 b 0 i c a (n - j) (c - j) (cs.drop (j*2)) (by rw [hdl,hzs]) (fun t v ht=>by
   rcases ha with ha|ha
   ·have:=(List.getElem?_eq_some_iff.1 ht).1
    rw [hdl] at this;omega
   ·subst ha
    rw [Addr.add_lit]
    rw [List.getElem?_drop] at ht
    exact hcs _ _ ht) (fun v hv=>h1c v (List.mem_of_mem_drop hv)) (by omega) (fun t ht=>by
     rw [hdl] at ht
     rw [hzs,Nat.zero_add];exact hsm _ (by omega)) (fun t ht=>by exact hfz _)
  rw [h,hW1,hzs,Nat.zero_add]
 have hs1: ∀k,k<n*2→(W1.cell? ⟨b,k,none⟩).isSome=true:=fun k hk=>by
  rw [hW1]
  exact setCells_some b _ _ _ (fun t ht=>by rw [hdl] at ht;exact hsm _ (by omega)) k (hsm k hk)
 have hf1: ∀k,W1.frozen? ⟨b,k,none⟩=false:=fun k=>by rw [hW1,World.frozen?_setCells];exact hfz k
 obtain ⟨zs,hzl,hclr⟩:=run_clear_cells W1 b ((i+(n - j))*2) (j - i) (c - (i+(n - j))) 0 (by omega) (fun t ht=>hs1 _ (by omega)) (fun t _=>hf1 _)
 refine ⟨zs,hzl,?_⟩
 rw [←hW1]
 have e1:n - (i+(n - j))=j - i:=by omega
 have hb1:(i:Int)≤(j:Int):=by omega
 have hb2:(j:Int)≤(n:Int):=by omega
 have hb3: ¬ ((i:Int)=(j:Int)):=by omega
 have hb4:j≤c:=by omega
 have hb5:i≤c:=by omega
 have hb6:i≤n:=by omega
 have hb7:i+(n - j)≤n:=by omega
 have hb8:n≤c:=hnc
 have hb9: ¬ (c=i+(n - j)):=by omega
 have hb10:i≤j:=by omega
 clear hcs hfz h1c hsm hs1 hf1
 go_enter Try.func51,Try.ntmps51
 go_wp2
 subst hW1
 by_cases hcj:c=j
 ·obtain rfl:n=j:=by omega
  subst hcj
  simp only [Nat.sub_self,Nat.add_zero] at hra hclr hzl hb9⊢
  have hw0:w.drew.setCells b (i*2) (cs.drop (c*2))=w.drew:=by rw [List.drop_eq_nil_of_le (by omega)];rfl
  rw [hw0] at hra hclr
  go_region_law_o (first|refine step_run2 rfl _ _ 78 78 rfl _ _ (by simp [Act.eval,Act.put]) (by simp [Act.eval,Act.put]) (hra _ _ (.inl rfl)) ?_)
  all_goals go_wp2
  all_goals go_ret
  all_goals exact ⟨by simp,by rw [hw0];simp⟩
 ·go_region_law_o (first|refine step_run2 rfl _ _ 78 78 rfl _ _ (by simp [Act.eval,Act.put]) (by simp [Act.eval,Act.put]) (hra _ _ (.inr rfl)) ?_)
  all_goals go_wp2
  all_goals go_ret
  all_goals exact ⟨rfl,rfl⟩
end
end Go.Proofs.Ytgianhjmjiiadaa
end
section
set_option autoImplicit true
set_option relaxedAutoImplicit true
set_option linter.unusedVariables false
set_option linter.unusedSimpArgs false
namespace Go.Proofs.Ytgianhjmjiiadaa
open Go Go.Sy
section
theorem set_block {b:Nat} {T:TypeId}: ∀(l:List Value) (o:Nat) (w:World) (cur:Array Value),w.heap[b]?=some (.cells cur T (0,0))→
 ∃cur',(w.setCells b o l).heap[b]?=some (.cells cur' T (0,0))∧cur'.size=cur.size∧ ∀x,x<cur.size→cur'[x]?=if o≤x∧x<o+l.length then l[x - o]? else cur[x]?
 |[],o,w,cur,h=>⟨cur,h,rfl,fun x _=>by rw [if_neg (by simp only [List.length_nil];omega)]⟩
 |v::r,o,w,cur,h=>by
  have hb:b<w.heap.size:=(Array.getElem?_eq_some_iff.1 h).1
  have h1:(w.setCell ⟨b,o,none⟩ v).heap[b]?=some (.cells (cur.setIfInBounds o v) T (0,0)):=by rw [setCell_wset h];exact wset_same hb
  obtain ⟨cur',k1,k2,k3⟩:=set_block r (o+1) (w.setCell ⟨b,o,none⟩ v) _ h1
  refine ⟨cur',k1,by simpa using k2,fun x hx=>?_⟩
  rw [k3 x (by simpa using hx)]
  by_cases c1:o+1≤x∧x<o+1+r.length
  ·rw [if_pos c1,if_pos (by simp;omega),show x - o=(x - (o+1))+1 by omega,List.getElem?_cons_succ]
  ·rw [if_neg c1]
   by_cases c2:x=o
   ·subst c2
    rw [if_pos (by simp),Nat.sub_self,List.getElem?_cons_zero,Array.getElem?_setIfInBounds_self_of_lt hx]
   ·rw [if_neg (by simp only [List.length_cons];omega),Array.getElem?_setIfInBounds_ne (by omega)]
theorem k2_val (j:Nat) (z:Int) (q:Value):(([.int .i64,.int .i64]:List SK).getD (j % 2) default).val z q= .int .i64 z:=by
 rcases Nat.mod_two_eq_zero_or_one j with h|h<;>rw [h]<;>rfl
theorem iv_cells (E:Env) (β:Nat→Bk) (q:Nat→Value) (a:AE) (n:Nat):rowCells E β q a [.int .i64,.int .i64] n []=(List.range (n*2)).map fun j=> .int .i64 (a.den E j):=by
 simp only [rowCells,SV.denL,List.append_nil]
 show List.map _ (List.range (n*2))=_
 apply List.map_congr_left
 intro j _
 exact k2_val j _ _
theorem iv_of {E:Env} {β:Nat→Bk} {w:World} {bk:Bk} {a:AE} {n:SE} (h:SBlk.ok E β bk w (iv a n)) (hn:1≤(n.den E).toNat):
 bk.z=false∧bk.o=0∧bk.n=(n.den E).toNat∧bk.n≤bk.c∧bk.c≤maxLen∧ ∃cur,w.heap[bk.a]?=some (.cells cur 106 (0,0))∧cur.size=bk.c*2∧ ∀x,x<(n.den E).toNat*2→cur[x]?=some (.int .i64 (a.den E x)):=by
 obtain ⟨ho,m,hm,hown⟩:=h
 have hm0:m=0:=by
  have:(0:Nat)=m*2:=hm
  omega
 subst hm0
 rw [Nat.add_zero] at hown
 change w.ownsRow 0 106 2 bk.v (n.den E).toNat _ at hown
 rw [iv_cells] at hown
 rcases hown.2 with ⟨_,h0⟩|⟨g,cap,cur,hv,_,hg,hc,hcm,hcs,hx⟩
 ·omega
 ·unfold Bk.v at hv
  split at hv
  ·cases hv
  ·rename_i hz
   simp only [Value.slice.injEq,Option.some.injEq,Addr.mk.injEq] at hv
   obtain ⟨⟨rfl,-,-⟩,h1,rfl⟩:=hv
   refine ⟨by simpa using hz,ho,h1,by omega,hcm,cur,hg,hcs,fun x hx'=>?_⟩
   have e:(cur.toList.take ((n.den E).toNat*2))[x]?=cur[x]?:=by
    rw [List.getElem?_take,if_pos hx'];simp
   rw [←e,hx,List.getElem?_map,List.getElem?_range hx'];rfl
theorem iv_ok {E:Env} {β:Nat→Bk} {w:World} {G N C:Nat} {a:AE} {n:SE} {cur:Array Value} (hn:(n.den E).toNat=N) (hg:w.heap[G]?=some (.cells cur 106 (0,0))) (hs:cur.size=C*2) (hNC:N≤C) (hC:C≤maxLen) (hc: ∀x,x<N*2→cur[x]?=some (.int .i64 (a.den E x))):
 SBlk.ok E β { a:=G,z:=false,n:=N,c:=C,o:=0 } w (iv a n):=by
 refine ⟨rfl,0,rfl,?_⟩
 rw [hn,Nat.add_zero]
 change w.ownsRow 0 106 2 (.slice (some ⟨G,0,none⟩) N C) N _
 rw [iv_cells]
 refine ⟨by simp,.inr ⟨G,C,cur,rfl,Nat.zero_le _,hg,hNC,hC,hs,?_⟩⟩
 apply List.ext_getElem?
 intro x
 rcases Nat.lt_or_ge x (N*2) with h|h
 ·rw [List.getElem?_take,if_pos h,List.getElem?_map,List.getElem?_range h]
  simpa using hc x h
 ·rw [List.getElem?_eq_none (by simp;omega),List.getElem?_eq_none (by simp;omega)]
theorem iv_fin {E:Env} {β:Nat→Bk} {w w':World} {r:List SBlk} {G N C:Nat} {a:AE} {n:SE} {cur:Array Value} (hw:HOk E β (iv0::r) w) (hbnd:(iv0::r).all (SBlk.bnd (iv0::r).length)=true) (hv:(iv0::r).all (SBlk.vb 500)=true) (hz:(β 0).z=false)
 (hos:w'.os=w.os) (htp:w'.tape=w.tape) (hop:w'.output=w.output) (hsz:w.heap.size≤w'.heap.size) (hsame: ∀k,k<w.heap.size→k≠(β 0).a→w'.heap[k]?=w.heap[k]?) (hG:G=(β 0).a∨w.heap.size≤G)
 (hn:(n.den E).toNat=N) (hg:w'.heap[G]?=some (.cells cur 106 (0,0))) (hs:cur.size=C*2) (hNC:N≤C) (hC:C≤maxLen) (hc: ∀x,x<N*2→cur[x]?=some (.int .i64 (a.den E x))):
 HOk E (upB β (iv0::r).length { a:=G,z:=false,n:=N,c:=C,o:=0 }) (killK [0] (iv0::r)++[iv a n]) w'∧Ext E (iv0::r) β w E (killK [0] (iv0::r)++[iv a n]) (upB β (iv0::r).length { a:=G,z:=false,n:=N,c:=C,o:=0 }) w':=by
 have hat:iv0.at E (β 0) (β 0).a:=SBlk.at_of hz rfl
 refine HOk.absorb (E:=E) (E2:=E) (β:=β) (h:=iv0::r) (w:=w) (w':=w') (bk:={ a:=G,z:=false,n:=N,c:=C,o:=0 }) (s1:=iv a n) hw hbnd [0] (AgE.refl 500 E) hv hos htp hop hsz
  (fun k hk hn'=>hsame k hk fun hh=>hn' 0 _ rfl rfl (by rw [hh];exact hat))
  (fun j s' hj hs x hx=>by
    have:j=0:=by simpa using hj
    subst this;cases hs;exact hz)
  (fun x hx=>by
    have hx':x=G:=SBlk.at_eq hx rfl
    subst hx'
    refine ⟨(Array.getElem?_eq_some_iff.1 hg).1,?_⟩
    rcases hG with h|h
    ·exact .inr ⟨0,_,rfl,rfl,by rw [h];exact hat⟩
    ·exact .inl h)
  (iv_ok hn hg hs hNC hC hc)
theorem ap2_den {E:Env} (hE:E.fn=fns) {n i:Nat} (hn:E.i 0=n) (hi:E.i 4=i):(AE.ap 2 (.a (.v 0) (.i (.v 0) (.i (.v 4) (.a (.v 1) .nil))))).den E=ins2 (E.a 0) n i (E.a 1 0) (E.a 1 1):=by
 simp only [AE.den,SL.den,SE.den,hE]
 show ins2 (fun j=>E.a 0 j) (E.i 0).toNat (E.i 4).toNat (E.a 1 0) (E.a 1 1)=_
 rw [hn,hi];rfl
theorem ap4_den {E:Env} (hE:E.fn=fns) {i j:Nat} (hi:E.i 4=i) (hj:E.i 5=j) (hij:i≤j):(AE.ap 4 (.a (.v 0) (.i (.v 4) (.i (.sub (.v 5) (.v 4)) .nil)))).den E=del2 (E.a 0) i (j - i):=by
 simp only [AE.den,SL.den,SE.den,hE]
 show del2 (fun j=>E.a 0 j) (E.i 4).toNat (E.i 5 - E.i 4).toNat=_
 rw [hi,hj,show ((j:Int) - (i:Int)).toNat=j - i by omega];rfl
theorem cs_at (A:Nat→Int) (n:Nat) {x:Nat} (h:x<n*2):((List.range (n*2)).map fun j=>Value.int .i64 (A j))[x]?=some (.int .i64 (A x)):=by
 rw [List.getElem?_map,List.getElem?_range h];rfl
set_option maxHeartbeats 1000000 in
theorem ct57_ok:CtOk Try.prog fns ct57:=by
 intro E β w hE _ hw hF
 refine ⟨fun a ha=>(by cases ha;intro q hq;cases hq),?_⟩
 have p0:1≤E.i 0:=of_decide_eq_true (hF (.le (.c 1) (.v 0),true) (by simp [ct57,bd]))
 have p1:E.i 0≤1000:=of_decide_eq_true (hF (.le (.v 0) (.c 1000),true) (by simp [ct57,bd]))
 have p2:0≤E.i 4:=of_decide_eq_true (hF (.le (.c 0) (.v 4),true) (by simp [ct57,bd]))
 have p3:E.i 4≤E.i 0:=of_decide_eq_true (hF (.le (.v 4) (.v 0),true) (by simp [ct57,bd]))
 obtain ⟨n,hn⟩: ∃n:Nat,E.i 0=n:=⟨(E.i 0).toNat,by omega⟩
 obtain ⟨i,hi⟩: ∃i:Nat,E.i 4=i:=⟨(E.i 4).toNat,by omega⟩
 have en:((SE.v 0).den E).toNat=n:=by simp only [SE.den];omega
 obtain ⟨hz0,ho0,hn0,hnc,hcm,cur,hg,hcs,hx⟩:=iv_of (hw.ok 0 _ rfl) (by rw [en];omega)
 obtain ⟨hz1,ho1,hn1,hnc1,hcm1,cur1,hg1,hcs1,hx1⟩:=iv_of (hw.ok 1 _ rfl) (by simp [SE.den])
 rw [en] at hn0 hx
 have e1:((SE.c 1).den E).toNat=1:=by simp [SE.den]
 rw [e1] at hn1 hx1
 obtain ⟨b,hb⟩: ∃b,(β 0).a=b:=⟨_,rfl⟩
 obtain ⟨vb,hvb⟩: ∃b,(β 1).a=b:=⟨_,rfl⟩
 obtain ⟨c,hc⟩: ∃b,(β 0).c=b:=⟨_,rfl⟩
 obtain ⟨cv,hcv⟩: ∃b,(β 1).c=b:=⟨_,rfl⟩
 rw [hb] at hg;rw [hvb] at hg1;rw [hc] at hnc hcm hcs;rw [hcv] at hcs1
 rw [hn0] at hnc
 have hbl:b<w.heap.size:=(Array.getElem?_eq_some_iff.1 hg).1
 have hvl:vb<w.heap.size:=(Array.getElem?_eq_some_iff.1 hg1).1
 have hne:vb≠b:=fun h=>by
  have:=hw.dis 0 1 _ _ b rfl rfl (hb▸SBlk.at_of hz0 rfl) (h▸hvb▸SBlk.at_of hz1 rfl)
  cases this
 have hv0:(β 0).v= .slice (some ⟨b,0,none⟩) n c:=by simp [Bk.v,hz0,hb,ho0,hn0,hc]
 have hv1:(β 1).v= .slice (some ⟨vb,0,none⟩) 1 cv:=by simp [Bk.v,hz1,hvb,ho1,hn1,hcv]
 obtain ⟨cs,hcse⟩: ∃cs,cs=(List.range (n*2)).map fun j=>Value.int .i64 (E.a 0 j):=⟨_,rfl⟩
 obtain ⟨vs,hvse⟩: ∃vs,vs=[Value.int .i64 (E.a 1 0),Value.int .i64 (E.a 1 1)]:=⟨_,rfl⟩
 have hcl:cs.length=n*2:=by rw [hcse];simp
 have hvsl:vs.length=2:=by rw [hvse];rfl
 have hcurA: ∀x,x<n*2→cur[x]?=some (.int .i64 (E.a 0 x)):=hx
 have hcsA: ∀x,x<n*2→cs[x]?=some (.int .i64 (E.a 0 x)):=fun x h=>by rw [hcse];exact cs_at _ _ h
 have hcc: ∀j v,cs[j]?=some v→w.cell? ⟨b,0+j,none⟩=some v:=fun j v h=>by
  have hj:j<n*2:=by rw [←hcl];exact (List.getElem?_eq_some_iff.1 h).1
  rw [hcsA j hj] at h
  rw [Nat.zero_add];simp only [World.cell?,hg];rw [←h];simpa using hcurA j hj
 have hvc: ∀j v,vs[j]?=some v→w.cell? ⟨vb,0+j,none⟩=some v:=fun j v h=>by
  have hj:j<2:=by rw [←hvsl];exact (List.getElem?_eq_some_iff.1 h).1
  have e:cur1[j]?=vs[j]?:=by
   rw [hx1 j (by omega),hvse]
   rcases (by omega:j=0∨j=1) with rfl|rfl<;>rfl
  rw [Nat.zero_add];simp only [World.cell?,hg1];rw [←h,←e];simp
 have h1c: ∀v∈cs,v.oneCell'=true:=fun v hv=>by rw [hcse] at hv;simp at hv;obtain ⟨_,_,rfl⟩:=hv;rfl
 have h1v: ∀v∈vs,v.oneCell'=true:=fun v hv=>by rw [hvse] at hv;simp at hv;rcases hv with rfl|rfl<;>rfl
 have hargs:(SV.denL E β ct57.args).toArray= #[.slice (some ⟨b,0,none⟩) n c,.int .i64 i,.slice (some ⟨vb,0,none⟩) 1 cv]:=by
  simp only [ct57,SV.denL,SV.den,SE.den,hv0,hi,hv1]
 rw [hargs]
 have hc63:c≤9223372036854775807:=by unfold maxLen at hcm;omega
 have hA:=ap2_den hE hn hi
 have eN:((SE.add (.v 0) (.c 1)).den E).toNat=n+1:=by simp only [d_add,d_v,d_c,hn];omega
 have fin: ∀(w':World) (G C:Nat) (cur':Array Value),w'.heap[G]?=some (.cells cur' 106 (0,0))→cur'.size=C*2→n+1≤C→C≤maxLen→(∀x,x<(n+1)*2→cur'[x]?=some (.int .i64 (ins2 (E.a 0) n i (E.a 1 0) (E.a 1 1) x)))→
  w'.os=w.os→w'.tape=w.tape→w'.output=w.output→w.heap.size≤w'.heap.size→(∀k,k<w.heap.size→k≠b→w'.heap[k]?=w.heap[k]?)→(G=b∨w.heap.size≤G)→ctPost E β w ct57 (.returned (.slice (some ⟨G,0,none⟩) (n+1) C)) w':=fun w' G C cur' q1 q2 q3 q4 q5 q6 q7 q8 q9 q10 q11=>by
  obtain ⟨k1,k2⟩:=iv_fin (r:=[iv (.v 1) (.c 1)]) (a:= .ap 2 (.a (.v 0) (.i (.v 0) (.i (.v 4) (.a (.v 1) .nil))))) (n:= .add (.v 0) (.c 1)) (N:=n+1) hw (by decide) (by decide) hz0 q6 q7 q8 q9 (by rw [hb];exact q10) (by rw [hb];exact q11) eN q1 q2 q3 q4 (by rw [hA];exact q5)
  exact ctPost0 (c:=ct57) (β':=upB β 2 { a:=G,z:=false,n:=n+1,c:=C,o:=0 }) rfl rfl rfl (by simp only [SV.den,upB_self];rfl) k1 k2
 rcases Nat.lt_or_ge i n with hin|hin
 ·by_cases hroom:n+1≤c
  ·have hsp: ∀j,j<(n+1)*2→(w.cell? ⟨b,0+j,none⟩).isSome=true:=fun j hj=>by
    rw [Nat.zero_add];simp only [World.cell?,hg]
    simp;omega
   have hfz: ∀j,j<(n+1)*2→w.frozen? ⟨b,0+j,none⟩=false:=fun j _=>by simp [World.frozen?,hg]
   refine (ins_shift b 0 n c i vb cv cs vs w hin hroom hc63 hne hcl hvsl hcc hsp hfz hvc h1c h1v 106 106 cur1.size cur.size (by simp only [World.shape?,hg1]) (by simp only [World.shape?,hg]) (by omega) (by simp [World.frozen?,hg1]) (by simp [World.frozen?,hg1])).mono ?_
   rintro e w' ⟨rfl,rfl⟩
   obtain ⟨cA,g1,g2,g3⟩:=set_block (cs.drop (i*2)) (0+(i+1)*2) w.drew cur hg
   obtain ⟨cB,g4,g5,g6⟩:=set_block vs (0+i*2) _ cA g1
   refine fin _ b c cB g4 (by omega) hroom hcm (fun x hx'=>?_) (by rw [World.os_setCells,World.os_setCells];rfl) (by rw [tape_setCells,tape_setCells];rfl) (by rw [World.output_setCells,World.output_setCells];rfl) (by rw [setCells_size,setCells_size];exact Nat.le_refl _)
    (fun k hk hne'=>by rw [World.heap_setCells_other _ _ _ _ (by rw [setCells_size];exact hk) hne',World.heap_setCells_other _ _ _ _ (by exact hk) hne'];rfl) (.inl rfl)
   rw [g6 x (by omega),hvsl]
   unfold ins2
   by_cases c1:0+i*2≤x∧x<0+i*2+2
   ·rw [if_pos c1,hvse,if_neg (by omega)]
    rcases (by omega:x=i*2∨x=i*2+1) with h|h
    ·rw [if_pos h,show x - (0+i*2)=0 by omega];rfl
    ·rw [if_neg (by omega),if_pos h,show x - (0+i*2)=1 by omega];rfl
   ·rw [if_neg c1,g3 x (by omega),List.length_drop,hcl]
    by_cases c2:x<i*2
    ·rw [if_neg (by omega),if_pos c2];exact hcurA x (by omega)
    ·rw [if_pos (by omega),if_neg c2,if_neg (by omega),if_neg (by omega),if_pos hx',List.getElem?_drop,show i*2+(x - (0+(i+1)*2))=x - 2 by omega]
     exact hcsA _ (by omega)
  ·obtain ⟨G,ROW,hG1,hG2,hR1,hR2,hcalls⟩:=ins_grow b 0 n c i vb cv cs vs w hin hnc (by omega) (by omega) hbl hvl hcl hvsl hcc hvc h1c h1v
   refine hcalls.mono ?_
   rintro e w' ⟨rfl,rfl⟩
   obtain ⟨cA,g1,g2,g3⟩:=set_block vs (i*2) ((w.alloc (.cells ROW 106)).drew) ROW (heap_alloc_new w _)
   obtain ⟨cB,g4,g5,g6⟩:=set_block (cs.drop (i*2)) ((i+1)*2) (((w.alloc (.cells ROW 106)).drew.setCells w.heap.size (i*2) vs).drew) cA g1
   have hsz:((((w.alloc (.cells ROW 106)).drew.setCells w.heap.size (i*2) vs).drew).setCells w.heap.size ((i+1)*2) (cs.drop (i*2))).heap.size=w.heap.size+1:=by
    rw [setCells_size]
    show (((w.alloc (.cells ROW 106)).drew.setCells w.heap.size (i*2) vs)).heap.size=_
    rw [setCells_size]
    exact Array.size_push _
   refine fin _ w.heap.size G cB g4 (by omega) hG1 (by unfold maxLen;omega) (fun x hx'=>?_) (by rw [World.os_setCells];show (World.setCells _ _ _ _).os=_;rw [World.os_setCells];rfl) (by rw [tape_setCells];show (World.setCells _ _ _ _).tape=_;rw [tape_setCells];rfl) (by rw [World.output_setCells];show (World.setCells _ _ _ _).output=_;rw [World.output_setCells];rfl) (by rw [hsz];omega)
    (fun k hk _=>by
      have hk2:k<((w.alloc (.cells ROW 106)).drew).heap.size:=by simp only [World.drew,World.alloc,Array.size_push];omega
      have hk3:k<(((w.alloc (.cells ROW 106)).drew.setCells w.heap.size (i*2) vs).drew).heap.size:=by
       show k<(World.setCells _ _ _ _).heap.size
       rw [setCells_size];exact hk2
      rw [World.heap_setCells_other _ _ _ _ hk3 (by omega)]
      show (World.setCells _ _ _ _).heap[k]?=_
      rw [World.heap_setCells_other _ _ _ _ hk2 (by omega)]
      simp only [World.drew,World.alloc]
      rw [Array.getElem?_push_lt hk,Array.getElem?_eq_getElem hk]) (.inr (Nat.le_refl _))
   rw [g6 x (by omega),List.length_drop,hcl]
   unfold ins2
   by_cases c1:(i+1)*2≤x∧x<(i+1)*2+(n*2 - i*2)
   ·rw [if_pos c1,if_neg (by omega),if_neg (by omega),if_neg (by omega),if_pos hx',List.getElem?_drop,show i*2+(x - ((i+1)*2))=x - 2 by omega]
    exact hcsA _ (by omega)
   ·rw [if_neg c1,g3 x (by omega),hvsl]
    by_cases c2:x<i*2
    ·rw [if_neg (by omega),if_pos c2,hR2 x c2];exact hcsA x (by omega)
    ·rw [if_pos (by omega),if_neg c2,hvse]
     rcases (by omega:x=i*2∨x=i*2+1) with h|h
     ·rw [if_pos h,show x - (i*2)=0 by omega];rfl
     ·rw [if_neg (by omega),if_pos h,show x - (i*2)=1 by omega];rfl
 ·have hin:i=n:=by omega
  subst hin
  obtain ⟨i0,z,hi0,hz,hzc,hzs,hzb⟩:=i106'
  have hown:w.ownsRow 0 106 2 (.slice (some ⟨b,0,none⟩) i c) i cs:=⟨hcl,.inr ⟨b,c,cur,rfl,Nat.zero_le _,hg,hnc,hcm,hcs,by
   apply List.ext_getElem?
   intro x
   rcases Nat.lt_or_ge x (i*2) with h|h
   ·rw [List.getElem?_take,if_pos h,hcsA x h];simpa using hcurA x h
   ·rw [List.getElem?_eq_none (by simp;omega),List.getElem?_eq_none (by omega)]⟩⟩
  obtain ⟨R,W,hr,hown',hgr,_,hat⟩:=run_append_own_at (P:=Try.prog) w 0 78 78 106 i0 z 2 16 t78 hi0 hz hzs hzb (by rw [hzc];rfl) (by decide) _ i cs hown ⟨vb,0,none⟩ 1 cv vs hvsl (fun j u h=>by rw [addr_add];exact hvc j u h) h1v (by simp only [maxLen];omega) (by omega) (Nat.zero_le _)
  refine (ins_end b i c vb cv vs w (by omega) hc63 (R:=R) (W:=W) (fun ty=>hr) hnc).mono ?_
  rintro e w' ⟨rfl,rfl⟩
  rcases hown'.2 with ⟨_,h0⟩|⟨G,C,cur',rfl,_,g1,g2,g3,g4,g5⟩
  ·omega
  ·refine fin _ G C cur' g1 g4 g2 g3 (fun x hx'=>?_) hgr.os hgr.tape hgr.output hgr.size (fun k hk hk'=>hgr.block k hk (by simpa [Value.ownBlock] using hk')) (by rcases hat with h|h<;>simp [Value.ownBlock] at h<;>omega)
   have e:(cur'.toList.take ((i+1)*2))[x]?=cur'[x]?:=by rw [List.getElem?_take,if_pos hx'];simp
   rw [←e,g5]
   unfold ins2
   by_cases c2:x<i*2
   ·rw [if_pos c2,List.getElem?_append_left (by omega)];exact hcsA x c2
   ·rw [if_neg c2,List.getElem?_append_right (by omega),hcl,hvse]
    rcases (by omega:x=i*2∨x=i*2+1) with h|h
    ·rw [if_pos h,show x - (i*2)=0 by omega];rfl
    ·rw [if_neg (by omega),if_pos h,show x - (i*2)=1 by omega];rfl
set_option maxHeartbeats 1000000 in
theorem ct51_ok:CtOk Try.prog fns ct51:=by
 intro E β w hE _ hw hF
 refine ⟨fun a ha=>(by cases ha;intro q hq;cases hq),?_⟩
 have p0:1≤E.i 0:=of_decide_eq_true (hF (.le (.c 1) (.v 0),true) (by simp [ct51,bd]))
 have p1:E.i 0≤1000:=of_decide_eq_true (hF (.le (.v 0) (.c 1000),true) (by simp [ct51,bd]))
 have p2:0≤E.i 4:=of_decide_eq_true (hF (.le (.c 0) (.v 4),true) (by simp [ct51,bd]))
 have p3:E.i 4<E.i 5:=of_decide_eq_true (hF (.lt (.v 4) (.v 5),true) (by simp [ct51,bd]))
 have p4:E.i 5≤E.i 0:=of_decide_eq_true (hF (.le (.v 5) (.v 0),true) (by simp [ct51,bd]))
 obtain ⟨n,hn⟩: ∃n:Nat,E.i 0=n:=⟨(E.i 0).toNat,by omega⟩
 obtain ⟨i,hi⟩: ∃i:Nat,E.i 4=i:=⟨(E.i 4).toNat,by omega⟩
 obtain ⟨j,hj⟩: ∃i:Nat,E.i 5=i:=⟨(E.i 5).toNat,by omega⟩
 have en:((SE.v 0).den E).toNat=n:=by simp only [SE.den];omega
 obtain ⟨hz0,ho0,hn0,hnc,hcm,cur,hg,hcs,hx⟩:=iv_of (hw.ok 0 _ rfl) (by rw [en];omega)
 rw [en] at hn0 hx
 obtain ⟨b,hb⟩: ∃b,(β 0).a=b:=⟨_,rfl⟩
 obtain ⟨c,hc⟩: ∃b,(β 0).c=b:=⟨_,rfl⟩
 rw [hb] at hg;rw [hc] at hnc hcm hcs
 rw [hn0] at hnc
 have hbl:b<w.heap.size:=(Array.getElem?_eq_some_iff.1 hg).1
 have hv0:(β 0).v= .slice (some ⟨b,0,none⟩) n c:=by simp [Bk.v,hz0,hb,ho0,hn0,hc]
 obtain ⟨cs,hcse⟩: ∃cs,cs=(List.range (n*2)).map fun j=>Value.int .i64 (E.a 0 j):=⟨_,rfl⟩
 have hcl:cs.length=n*2:=by rw [hcse];simp
 have hcurA: ∀x,x<n*2→cur[x]?=some (.int .i64 (E.a 0 x)):=hx
 have hcsA: ∀x,x<n*2→cs[x]?=some (.int .i64 (E.a 0 x)):=fun x h=>by rw [hcse];exact cs_at _ _ h
 have hcc: ∀j v,cs[j]?=some v→w.cell? ⟨b,j,none⟩=some v:=fun j v h=>by
  have hj:j<n*2:=by rw [←hcl];exact (List.getElem?_eq_some_iff.1 h).1
  rw [hcsA j hj] at h
  simp only [World.cell?,hg];rw [←h];simpa using hcurA j hj
 have h1c: ∀v∈cs,v.oneCell'=true:=fun v hv=>by rw [hcse] at hv;simp at hv;obtain ⟨_,_,rfl⟩:=hv;rfl
 have hargs:(SV.denL E β ct51.args).toArray= #[.slice (some ⟨b,0,none⟩) n c,.int .i64 i,.int .i64 j]:=by
  simp only [ct51,SV.denL,SV.den,SE.den,hv0,hi,hj]
 rw [hargs]
 have hc63:c≤9223372036854775807:=by unfold maxLen at hcm;omega
 obtain ⟨zs,hzl,hcalls⟩:=del_walk b n c i j cs w (by omega) (by omega) hnc hc63 hcl hcc (fun k=>by simp [World.frozen?,hg]) h1c
 refine hcalls.mono ?_
 rintro e w' ⟨rfl,rfl⟩
 obtain ⟨cA,g1,g2,g3⟩:=set_block (cs.drop (j*2)) (i*2) w.drew cur hg
 obtain ⟨cB,g4,g5,g6⟩:=set_block zs ((i+(n - j))*2) _ cA g1
 have hA:=ap4_den hE hi hj (by omega)
 have eN:((SE.sub (.v 0) (.sub (.v 5) (.v 4))).den E).toNat=i+(n - j):=by simp only [d_sub,d_v,hn,hi,hj];omega
 obtain ⟨k1,k2⟩:=iv_fin (r:=[]) (a:= .ap 4 (.a (.v 0) (.i (.v 4) (.i (.sub (.v 5) (.v 4)) .nil)))) (n:= .sub (.v 0) (.sub (.v 5) (.v 4))) (N:=i+(n - j)) (G:=b) (C:=c) (cur:=cB) hw (by decide) (by decide) hz0 (by rw [World.os_setCells,World.os_setCells];rfl) (by rw [tape_setCells,tape_setCells];rfl) (by rw [World.output_setCells,World.output_setCells];rfl) (by rw [setCells_size,setCells_size];exact Nat.le_refl _)
  (fun k hk hne'=>by rw [hb] at hne';rw [World.heap_setCells_other _ _ _ _ (by rw [setCells_size];exact hk) hne',World.heap_setCells_other _ _ _ _ (by exact hk) hne'];rfl) (.inl hb.symm) eN g4 (by omega) (by omega) hcm (fun x hx'=>by
    rw [hA,g6 x (by omega),if_neg (by omega),g3 x (by omega),List.length_drop,hcl]
    unfold del2
    by_cases c2:x<i*2
    ·rw [if_neg (by omega),if_pos c2];exact hcurA x (by omega)
    ·rw [if_pos (by omega),if_neg c2,List.getElem?_drop,hcsA _ (by omega),show j*2+(x - i*2)=x+(j - i)*2 by omega])
 exact ctPost0 (c:=ct51) (β':=upB β 1 { a:=b,z:=false,n:=i+(n - j),c:=c,o:=0 }) rfl rfl rfl (by simp only [SV.den,upB_self];rfl) k1 k2
end
end Go.Proofs.Ytgianhjmjiiadaa
end
section
set_option autoImplicit true
set_option relaxedAutoImplicit true
set_option linter.unusedVariables false
set_option maxRecDepth 100000
namespace Go.Proofs.Ytgianhjmjiiadaa
open Go Go.Sy
section
theorem okf_call: ∀f∈okf,∀args w,(callFunc f args).run Try.prog w= .ok (.enter f args) w:=by
 intro f hf
 simp only [okf,List.mem_cons,List.not_mem_nil,or_false] at hf
 rcases hf with rfl|rfl|rfl|rfl|rfl|rfl|rfl|rfl|rfl|rfl|rfl|rfl|rfl|rfl|rfl|rfl|rfl|rfl|rfl|rfl|rfl|rfl|rfl|rfl|rfl|rfl|rfl|rfl|rfl|rfl|rfl|rfl|rfl|rfl|rfl|rfl|rfl|rfl|rfl|rfl|rfl|rfl|rfl|rfl|rfl|rfl|rfl|rfl|rfl|rfl|rfl|rfl|rfl|rfl|rfl|rfl|rfl|rfl|rfl
 ·exact Try.call3
 ·exact Try.call4
 ·exact Try.call5
 ·exact Try.call6
 ·exact Try.call7
 ·exact Try.call8
 ·exact Try.call9
 ·exact Try.call10
 ·exact Try.call11
 ·exact Try.call12
 ·exact Try.call13
 ·exact Try.call14
 ·exact Try.call15
 ·exact Try.call16
 ·exact Try.call17
 ·exact Try.call18
 ·exact Try.call19
 ·exact Try.call20
 ·exact Try.call21
 ·exact Try.call22
 ·exact Try.call23
 ·exact Try.call24
 ·exact Try.call25
 ·exact Try.call26
 ·exact Try.call27
 ·exact Try.call28
 ·exact Try.call29
 ·exact Try.call30
 ·exact Try.call31
 ·exact Try.call32
 ·exact Try.call33
 ·exact Try.call34
 ·exact Try.call35
 ·exact Try.call36
 ·exact Try.call37
 ·exact Try.call38
 ·exact Try.call39
 ·exact Try.call40
 ·exact Try.call41
 ·exact Try.call42
 ·exact Try.call43
 ·exact Try.call44
 ·exact Try.call45
 ·exact Try.call46
 ·exact Try.call47
 ·exact Try.call48
 ·exact Try.call49
 ·exact Try.call50
 ·exact Try.call51
 ·exact Try.call52
 ·exact Try.call53
 ·exact Try.call54
 ·exact Try.call55
 ·exact Try.call56
 ·exact Try.call57
 ·exact Try.call58
 ·exact Try.call59
 ·exact Try.call60
 ·exact Try.call61
theorem okf_body: ∀f∈okf,∃fn c,Try.prog.funcs[f]?=some fn∧fn.body=some c:=by
 intro f hf
 simp only [okf,List.mem_cons,List.not_mem_nil,or_false] at hf
 rcases hf with rfl|rfl|rfl|rfl|rfl|rfl|rfl|rfl|rfl|rfl|rfl|rfl|rfl|rfl|rfl|rfl|rfl|rfl|rfl|rfl|rfl|rfl|rfl|rfl|rfl|rfl|rfl|rfl|rfl|rfl|rfl|rfl|rfl|rfl|rfl|rfl|rfl|rfl|rfl|rfl|rfl|rfl|rfl|rfl|rfl|rfl|rfl|rfl|rfl|rfl|rfl|rfl|rfl|rfl|rfl|rfl|rfl|rfl|rfl
 ·exact ⟨_,_,Try.func3,rfl⟩
 ·exact ⟨_,_,Try.func4,rfl⟩
 ·exact ⟨_,_,Try.func5,rfl⟩
 ·exact ⟨_,_,Try.func6,rfl⟩
 ·exact ⟨_,_,Try.func7,rfl⟩
 ·exact ⟨_,_,Try.func8,rfl⟩
 ·exact ⟨_,_,Try.func9,rfl⟩
 ·exact ⟨_,_,Try.func10,rfl⟩
 ·exact ⟨_,_,Try.func11,rfl⟩
 ·exact ⟨_,_,Try.func12,rfl⟩
 ·exact ⟨_,_,Try.func13,rfl⟩
 ·exact ⟨_,_,Try.func14,rfl⟩
 ·exact ⟨_,_,Try.func15,rfl⟩
 ·exact ⟨_,_,Try.func16,rfl⟩
 ·exact ⟨_,_,Try.func17,rfl⟩
 ·exact ⟨_,_,Try.func18,rfl⟩
 ·exact ⟨_,_,Try.func19,rfl⟩
 ·exact ⟨_,_,Try.func20,rfl⟩
 ·exact ⟨_,_,Try.func21,rfl⟩
 ·exact ⟨_,_,Try.func22,rfl⟩
 ·exact ⟨_,_,Try.func23,rfl⟩
 ·exact ⟨_,_,Try.func24,rfl⟩
 ·exact ⟨_,_,Try.func25,rfl⟩
 ·exact ⟨_,_,Try.func26,rfl⟩
 ·exact ⟨_,_,Try.func27,rfl⟩
 ·exact ⟨_,_,Try.func28,rfl⟩
 ·exact ⟨_,_,Try.func29,rfl⟩
 ·exact ⟨_,_,Try.func30,rfl⟩
 ·exact ⟨_,_,Try.func31,rfl⟩
 ·exact ⟨_,_,Try.func32,rfl⟩
 ·exact ⟨_,_,Try.func33,rfl⟩
 ·exact ⟨_,_,Try.func34,rfl⟩
 ·exact ⟨_,_,Try.func35,rfl⟩
 ·exact ⟨_,_,Try.func36,rfl⟩
 ·exact ⟨_,_,Try.func37,rfl⟩
 ·exact ⟨_,_,Try.func38,rfl⟩
 ·exact ⟨_,_,Try.func39,rfl⟩
 ·exact ⟨_,_,Try.func40,rfl⟩
 ·exact ⟨_,_,Try.func41,rfl⟩
 ·exact ⟨_,_,Try.func42,rfl⟩
 ·exact ⟨_,_,Try.func43,rfl⟩
 ·exact ⟨_,_,Try.func44,rfl⟩
 ·exact ⟨_,_,Try.func45,rfl⟩
 ·exact ⟨_,_,Try.func46,rfl⟩
 ·exact ⟨_,_,Try.func47,rfl⟩
 ·exact ⟨_,_,Try.func48,rfl⟩
 ·exact ⟨_,_,Try.func49,rfl⟩
 ·exact ⟨_,_,Try.func50,rfl⟩
 ·exact ⟨_,_,Try.func51,rfl⟩
 ·exact ⟨_,_,Try.func52,rfl⟩
 ·exact ⟨_,_,Try.func53,rfl⟩
 ·exact ⟨_,_,Try.func54,rfl⟩
 ·exact ⟨_,_,Try.func55,rfl⟩
 ·exact ⟨_,_,Try.func56,rfl⟩
 ·exact ⟨_,_,Try.func57,rfl⟩
 ·exact ⟨_,_,Try.func58,rfl⟩
 ·exact ⟨_,_,Try.func59,rfl⟩
 ·exact ⟨_,_,Try.func60,rfl⟩
 ·exact ⟨_,_,Try.func61,rfl⟩
theorem prm_ok {ct:List Ct} {sl:List (Nat×Nat)} {hint:List (Nat×Nat×Fx)} {bt:List Bt} (E:Env) (hE:E.fn=fns) (hc: ∀c∈ct,CtOk Try.prog fns c) (hb: ∀b∈bt,BtOk Try.prog fns b):PrmOk E { P:=Try.prog,gm:=[],okf,mts:=[],dfr:=[],sl,ct,hint,bt } where
 bt:=by intro b h;rw [hE];exact hb b h
 ct:=by intro c h;rw [hE];exact hc c h
 mix:=Checked.mixed Try.checked
 okf:=okf_call
 body:=okf_body
 mts:=by intro x hx;cases hx
 dfr:=by intro x hx;cases hx
 dfk:=by intro x hx;cases hx
structure Sm (m:Nat) (E0 E:Env):Prop where
 i: ∀k,k≠m→E.i k=E0.i k
 b:E.b=E0.b
 a:E.a=E0.a
theorem Sm.put {m:Nat} {E0 E:Env} (h:Sm m E0 E) (x:SE) (o:Nat→Value):Sm m E0 (E.put [(m,x)] [] [] o) where
 i k hk:=by
   show (match fnd k [(m,x)] with|some e=>e.den E|none=>E.i k)=_
   simp only [fnd,if_neg (Ne.symm hk)];exact h.i k hk
 b:=h.b
 a:=h.a
theorem Sm.refl (m:Nat) (E:Env):Sm m E E:=⟨fun _ _=>rfl,rfl,rfl⟩
theorem rg_of {E:Env} (hE:E.fn=fns) (A:AE) (n:SE) (h:(rgF A n).1.den E=true):Rg (A.den E) (n.den E).toNat:=by
 have e':E.fn.g 1 [.a (A.den E),.i (n.den E)]=true:=h
 rw [hE] at e'
 have e2: @decide (Rg (A.den E) (n.den E).toNat) (Classical.propDecidable _)=true:=e'
 exact @of_decide_eq_true _ (Classical.propDecidable _) e2
theorem of_rg {E:Env} (hE:E.fn=fns) (A:AE) (n:SE) (h:Rg (A.den E) (n.den E).toNat):(rgF A n).1.den E=true:=by
 show E.fn.g 1 [.a (A.den E),.i (n.den E)]=true
 rw [hE]
 show @decide (Rg (A.den E) (n.den E).toNat) (Classical.propDecidable _)=true
 exact @decide_eq_true _ (Classical.propDecidable _) h
theorem add_den {E:Env} (hE:E.fn=fns) {n:Nat} (hn:E.i 0=n):(b3 3 (.v 0) (.v 0) (.v 1)).den E=addB (E.a 0) n (E.i 1)∧(f3 3 (.v 0) (.v 0) (.v 1)).den E=addN (E.a 0) n (E.i 1)∧(a3 3 (.v 0) (.v 0) (.v 1)).den E=addA (E.a 0) n (E.i 1)∧(f3 8 (.v 0) (.v 0) (.v 1)).den E=kR (E.a 0) (E.i 1) n:=by
 refine ⟨?_,?_,?_,?_⟩<;>(simp only [b3,f3,a3,SB.den,SE.den,AE.den,SL.den,hE])
 ·show addB (fun j=>E.a 0 j) (E.i 0).toNat (E.i 1)=_;rw [hn];rfl
 ·show ((addN (fun j=>E.a 0 j) (E.i 0).toNat (E.i 1):Nat):Int)=_;rw [hn];rfl
 ·show addA (fun j=>E.a 0 j) (E.i 0).toNat (E.i 1)=_;rw [hn];rfl
 ·show ((kR (fun j=>E.a 0 j) (E.i 1) (E.i 0).toNat:Nat):Int)=_;rw [hn];rfl
section
variable {A:Nat→Int} {n:Nat} {p:Int} {i:Nat}
theorem k_at (hr:Rg A n) (hi:i<n) (hk:kR A p n≤i+1) (h:A (i*2)≤p+1):kR A p n=i+1:=by
 have:=kR_eq (A:=A) (p:=p) (n:=n) (k:=i+1) (by omega) (fun j h1 h2=>kR_gt A p n j (by omega) h2) (fun _=>by simpa using h)
 exact this
theorem k_dn (hk:kR A p n≤i+1) (h:p+1<A (i*2)):kR A p n≤i:=by
 rcases Nat.lt_or_ge (kR A p n) (i+1) with h1|h1
 ·omega
 ·have:=kR_at A p n i (by omega);omega
theorem st_dup (hr:Rg A n) (hi:i<n) (hk:kR A p n≤i+1) (h1:A (i*2)≤p) (h2:p≤A (i*2+1)):addB A n p=false∧addN A n p=n∧addA A n p=A:=by
 have e:=k_at hr hi hk (by omega)
 have d:dupR A i p=true:=by simp [dupR,h1,h2]
 simp only [addB,addN,addA,e,d,if_true,Bool.not_true,and_self]
theorem st_nd (hr:Rg A n) (hi:i<n) (hk:kR A p n≤i+1) (h1:A (i*2)≤p+1) (hd: ¬ (A (i*2)≤p∧p≤A (i*2+1))):addB A n p=true∧addN A n p=(if A (i*2+1)=p - 1 then n else if A (i*2)=p+1 then (if 0<i∧A ((i - 1)*2+1)+1=p then n - 1 else n) else n+1)∧
 addA A n p=(if A (i*2+1)=p - 1 then upd A (i*2+1) p else if A (i*2)=p+1 then (if 0<i∧A ((i - 1)*2+1)+1=p then del2 (upd A ((i - 1)*2+1) (A (i*2+1))) i 1 else upd A (i*2) p) else ins2 A n (i+1) p p):=by
 have e:=k_at hr hi hk h1
 have d:dupR A i p=false:=by simp only [dupR,decide_eq_false_iff_not];exact hd
 refine ⟨?_,?_,?_⟩
 ·simp only [addB,e,d,Bool.not_false]
 ·simp only [addN,e,d,Bool.false_eq_true,if_false]
 ·simp only [addA,e,d,Bool.false_eq_true,if_false]
theorem st_end (hr:Rg A n) (hi:i<n) (hk:kR A p n≤i+1) (h:A (i*2+1)=p - 1):addB A n p=true∧addN A n p=n∧addA A n p=upd A (i*2+1) p:=by
 have hl:=hr.le i hi
 obtain ⟨a,b,c⟩:=st_nd (p:=p) hr hi hk (by omega) (by omega)
 exact ⟨a,by rw [b,if_pos h],by rw [c,if_pos h]⟩
theorem st_merge (hr:Rg A n) (hi:i<n) (hk:kR A p n≤i+1) (h:A (i*2)=p+1) (h0:0<i) (hm:A ((i - 1)*2+1)+1=p):addB A n p=true∧addN A n p=n - 1∧ ∀j,addA A n p j=del2 (upd (upd A (i*2) p) ((i - 1)*2+1) (A (i*2+1))) i 1 j:=by
 have hl:=hr.le i hi
 obtain ⟨a,b,c⟩:=st_nd (p:=p) hr hi hk (by omega) (by omega)
 refine ⟨a,by rw [b,if_neg (by omega),if_pos h,if_pos ⟨h0,hm⟩],fun j=>?_⟩
 rw [c,if_neg (by omega),if_pos h,if_pos ⟨h0,hm⟩]
 unfold del2 upd
 by_cases c1:j<i*2
 ·rw [if_pos c1,if_pos c1]
  by_cases c2:j=(i - 1)*2+1
  ·rw [if_pos c2,if_pos c2]
  ·rw [if_neg c2,if_neg c2,if_neg (by omega)]
 ·rw [if_neg c1,if_neg c1,if_neg (by omega),if_neg (by omega),if_neg (by omega)]
theorem st_start (hr:Rg A n) (hi:i<n) (hk:kR A p n≤i+1) (h:A (i*2)=p+1) (hm: ¬ (0<i∧A ((i - 1)*2+1)+1=p)):addB A n p=true∧addN A n p=n∧addA A n p=upd A (i*2) p:=by
 have hl:=hr.le i hi
 obtain ⟨a,b,c⟩:=st_nd (p:=p) hr hi hk (by omega) (by omega)
 exact ⟨a,by rw [b,if_neg (by omega),if_pos h,if_neg hm],by rw [c,if_neg (by omega),if_pos h,if_neg hm]⟩
theorem st_ins (hr:Rg A n) (hi:i<n) (hk:kR A p n≤i+1) (h1:A (i*2+1)<p) (h2: ¬A (i*2+1)=p - 1) (h3: ¬A (i*2)=p+1):addB A n p=true∧addN A n p=n+1∧addA A n p=ins2 A n (i+1) p p:=by
 have hl:=hr.le i hi
 obtain ⟨a,b,c⟩:=st_nd (p:=p) hr hi hk (by omega) (by omega)
 exact ⟨a,by rw [b,if_neg h2,if_neg h3],by rw [c,if_neg h2,if_neg h3]⟩
theorem st_zero (hk:kR A p n=0):addB A n p=true∧addN A n p=n+1∧addA A n p=ins2 A n 0 p p:=by
 simp only [addB,addN,addA,hk,and_self]
end
end
end Go.Proofs.Ytgianhjmjiiadaa
end
