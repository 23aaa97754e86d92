/- The next round behind a packet. -/
import Derived.Test.YtgianhjmjiiadaaQmTb
import Derived.Test.YtgianhjmjiiadaaQmAc
import Derived.KernelRfl
import Derived.Test.YtgianhjmjiiadaaQmE
section
set_option autoImplicit true
set_option relaxedAutoImplicit true
set_option linter.unusedVariables false
set_option linter.unusedSimpArgs false
set_option maxHeartbeats 4000000
namespace Go.Proofs.Ytgianhjmjiiadaa
open Go Go.Sy
section
variable {E E0:Env}
def ec7 (n:Int):SB:= .eq (rs7 1) (.c n)
def el7:SB:= .not (.eq (rs7 4) (.c 0))
def la7:SE:= .ite (.le (.v 112) (rs7 2)) (rs7 2) (.v 112)
def up7 (k:Nat):AE:= .up (.v k) (rs7 2) (.c 1)
def gp7 (t:Bool):SB:=if t then .and (.not (.and (.lt (rs7 2) (.v 110)) (.not (hvq (.v 102) (.v 103) (rs7 2))))) (.not (.ap 31 (.a (up7 100) (.a (up7 101) (.i (.v 110) (.i (.v 111) (.i la7 .nil))))))) else .c true
def du7 (t:Bool):SB:= .not (.and (.not (.v 116)) (.not (.and el7 (.not (.and (.not (.le (.c 1) (.v 114))) (.and (.not (ec7 3)) (gp7 t)))))))
def siR:List (Nat×SE):=[(119,.ite (ec7 3) (.add (.v 119) (.c 1)) (.v 119)),(118,.ite (ec7 1) (.add (.v 118) (.c 1)) (.v 118)),(117,.ite (ec7 2) (.add (.v 117) (.c 1)) (.v 117)),(115,.ite el7 (rs7 3) (.v 115)),(114,.ite el7 (.add (.v 114) (.c 1)) (.v 114)),(113,.ite (.le (.v 112) (rs7 2)) (rs7 3) (.v 113)),(112,la7),(130,i1)]
theorem ite_d {p:Prop} [Decidable p] {a b:Int}:(if decide p=true then a else b)=if p then a else b:=by by_cases h:p<;>simp [h]
theorem ite_e {x y:Int} {a b:Int}:(if (x==y)=true then a else b)=if x=y then a else b:=by by_cases h:x=y<;>simp [h]
theorem next_R {s:Nat} {t:Bool} (hE0:E0.fn=fns) (B:Bd7 s E0) (J:J7 s t E0 E) (hlt:E.i 130<E0.i 60) (o:Nat→Value)
 (hA:asS s (spOf E t) (kdA (E0.a 5) (E.i 130).toNat) (tmA (E0.a 5) (E.i 130).toNat) (onA (E0.a 5) (E.i 130).toNat)=false)
 (hC:cuS s (spOf E t) (kdA (E0.a 5) (E.i 130).toNat) (pnA (E0.a 5) (E.i 130).toNat)=false) (hR:reS (spOf E t) (kdA (E0.a 5) (E.i 130).toNat) (pnA (E0.a 5) (E.i 130).toNat)=true):
 J7 s t E0 (E.put siR [(116,du7 t)] [(101,up7 101),(100,up7 100)] o):=by
 have hi:E.i 130=((E.i 130).toNat:Int):=by have:=J.i0;omega
 have fn:E.fn=fns:=J.ag.fn.trans hE0
 have a5:E.a 5=E0.a 5:=J.ag.a 5 (by decide)
 have he:(rs7 1).den E=ecA (E0.a 5) (E.i 130).toNat:=by rw [←a5];exact rs7_den hi 1 (by omega)
 have hp:(rs7 2).den E=pnA (E0.a 5) (E.i 130).toNat:=by rw [←a5];exact rs7_den hi 2 (by omega)
 have hm:(rs7 3).den E=tmA (E0.a 5) (E.i 130).toNat:=by rw [←a5];exact rs7_den hi 3 (by omega)
 have hl:el7.den E=elA (E0.a 5) (E.i 130).toNat:=by
  have h4:(rs7 4).den E=E.a 5 ((E.i 130).toNat*6+4):=rs7_den hi 4 (by omega)
  show (!((rs7 4).den E==0))=_
  rw [←a5,h4];rfl
 have hp99:=B.T.pn (E.i 130).toNat (by have:=J.i0;omega)
 have htm:=B.T.tm (E.i 130).toNat (by have:=J.i0;omega)
 have hu: ∀k,(up7 k).den E=fun z=>if z=(pnA (E0.a 5) (E.i 130).toNat).toNat then 1 else E.a k z:=fun k=>by
  funext z
  show (if z=((rs7 2).den E).toNat then (1:Int) else E.a k z)=_
  rw [hp]
 have hla:la7.den E=if E.i 112≤pnA (E0.a 5) (E.i 130).toNat then pnA (E0.a 5) (E.i 130).toNat else E.i 112:=by
  show (if decide (E.i 112≤(rs7 2).den E)=true then (rs7 2).den E else E.i 112)=_
  rw [ite_d,hp]
 refine J.nextR hE0 B hlt ?_ (J.ag.put o) rfl ?_ ?_ ?_
 ·unfold spN
  simp only [hA,hC,hR,Bool.false_eq_true,if_false,if_true]
  show Sp.mk (E.i 110) (E.i 111) (la7.den E) (if decide (E.i 112≤(rs7 2).den E)=true then (rs7 3).den E else E.i 113) (if el7.den E=true then E.i 114+1 else E.i 114) (if el7.den E=true then (rs7 3).den E else E.i 115) ((du7 t).den E) t
   (if ((rs7 1).den E==2)=true then E.i 117+1 else E.i 117) (if ((rs7 1).den E==1)=true then E.i 118+1 else E.i 118) (if ((rs7 1).den E==3)=true then E.i 119+1 else E.i 119) (hvD ((up7 100).den E) ((up7 101).den E)) (hvD (E.a 102) (E.a 103))=spR (spOf E t) _ _ _ _
  rw [hla,ite_d,ite_e,ite_e,ite_e,hl,he,hp,hm,hu,hu,hv_up]
  have hd:(du7 t).den E=(spR (spOf E t) (pnA (E0.a 5) (E.i 130).toNat) (ecA (E0.a 5) (E.i 130).toNat) (tmA (E0.a 5) (E.i 130).toNat) (elA (E0.a 5) (E.i 130).toNat)).du:=by
   have hg: ∀x,(SB.ap 31 (.a (up7 100) (.a (up7 101) (.i (.v 110) (.i (.v 111) (.i la7 .nil)))))).den E=x↔gapD (fun z=>decide (z=(pnA (E0.a 5) (E.i 130).toNat).toNat)||hvD (E.a 100) (E.a 101) z) (E.i 110) (E.i 111) (if E.i 112≤pnA (E0.a 5) (E.i 130).toNat then pnA (E0.a 5) (E.i 130).toNat else E.i 112)=x:=fun x=>by
    have:(SB.ap 31 (.a (up7 100) (.a (up7 101) (.i (.v 110) (.i (.v 111) (.i la7 .nil)))))).den E=E.fn.g 31 [.a ((up7 100).den E),.a ((up7 101).den E),.i (E.i 110),.i (E.i 111),.i (la7.den E)]:=rfl
    rw [this,fn,hu,hu,hla]
    show gapD (hvD _ _) _ _ _=x↔_
    rw [hv_up]
   show (!(!E.b 116&&!(el7.den E&&!(!(decide (1≤E.i 114))&&(!((rs7 1).den E==3)&&(gp7 t).den E)))))=(E.b 116||(elA (E0.a 5) (E.i 130).toNat&&(decide (1≤E.i 114)||(decide (ecA (E0.a 5) (E.i 130).toNat=3)||(t&&((decide (pnA (E0.a 5) (E.i 130).toNat<E.i 110)&&!hvD (E.a 102) (E.a 103) (pnA (E0.a 5) (E.i 130).toNat).toNat)||gapD (fun z=>decide (z=(pnA (E0.a 5) (E.i 130).toNat).toNat)||hvD (E.a 100) (E.a 101) z) (E.i 110) (E.i 111) (if E.i 112≤pnA (E0.a 5) (E.i 130).toNat then pnA (E0.a 5) (E.i 130).toNat else E.i 112)))))))
   rw [hl,he]
   have h3:(ecA (E0.a 5) (E.i 130).toNat==3)=decide (ecA (E0.a 5) (E.i 130).toNat=3):=rfl
   rw [h3]
   cases t
   ·show (!(!E.b 116&&!(_&&!(!_&&(!_&&true)))))=_
    cases E.b 116<;>cases elA (E0.a 5) (E.i 130).toNat<;>cases decide (1≤E.i 114)<;>cases decide (ecA (E0.a 5) (E.i 130).toNat=3)<;>rfl
   ·have hgp:(gp7 true).den E=(!(decide (pnA (E0.a 5) (E.i 130).toNat<E.i 110)&&!hvD (E.a 102) (E.a 103) (pnA (E0.a 5) (E.i 130).toNat).toNat)&&!gapD (fun z=>decide (z=(pnA (E0.a 5) (E.i 130).toNat).toNat)||hvD (E.a 100) (E.a 101) z) (E.i 110) (E.i 111) (if E.i 112≤pnA (E0.a 5) (E.i 130).toNat then pnA (E0.a 5) (E.i 130).toNat else E.i 112)):=by
     show (!(decide ((rs7 2).den E<E.i 110)&&!(!(E.a 102 ((rs7 2).den E).toNat==0)&&!(E.a 103 ((rs7 2).den E).toNat==0)))&&!(SB.ap 31 (.a (up7 100) (.a (up7 101) (.i (.v 110) (.i (.v 111) (.i la7 .nil)))))).den E)=_
     rw [(hg _).2 rfl,hp];rfl
    rw [hgp]
    generalize gapD _ _ _ _=g
    generalize hvD (E.a 102) (E.a 103) _=h
    cases E.b 116<;>cases elA (E0.a 5) (E.i 130).toNat<;>cases decide (1≤E.i 114)<;>cases decide (ecA (E0.a 5) (E.i 130).toNat=3)<;>cases decide (pnA (E0.a 5) (E.i 130).toNat<E.i 110)<;>cases g<;>cases h<;>rfl
  rw [hd]
  rfl
 ·show HvOk ((up7 100).den E) ((up7 101).den E)
  rw [hu,hu]
  exact J.hv.up (by omega)
 ·exact J.gr
 ·show 0≤(if decide (E.i 112≤(rs7 2).den E)=true then (rs7 3).den E else E.i 113)∧(if decide (E.i 112≤(rs7 2).den E)=true then (rs7 3).den E else E.i 113)≤1000000000
  rw [hm]
  have:=J.at'
  split<;>omega
end
end Go.Proofs.Ytgianhjmjiiadaa
end
section
set_option autoImplicit true
set_option relaxedAutoImplicit true
set_option linter.unusedVariables false
set_option linter.unusedSimpArgs false
set_option maxRecDepth 100000
namespace Go.Proofs.Ytgianhjmjiiadaa
open Go Go.Sy Go.RowKit
section
set_option maxHeartbeats 2000000 in
theorem ct33kn_ok:CtOk Try.prog fns ct33kn:=by
 intro E β w hE _ hw hF
 obtain ⟨n,hn,hn61,hn1⟩:=pre33 (F:=[]) (by rw [List.append_nil];exact hF)
 have en:((SE.v 0).den E).toNat=n:=by simp only [SE.den];omega
 refine ⟨fun a ha=>?_,?_⟩
 ·simp only [ct33kn,altSel] at ha
  split at ha<;>(obtain rfl:=Option.some.inj ha;intro q hq;cases hq)
 obtain ⟨ho,hm⟩:=hw.ok 0 _ rfl
 obtain ⟨m,hme⟩: ∃m,(β 0).a=m:=⟨_,rfl⟩
 rw [hme] at hm
 obtain ⟨csM,hcs⟩: ∃cs,cs=(SV.denL E β [.int .u64 (.v 31),.int .u64 (.v 32),.int .u64 (.v 33),.own 1,.int .i64 (.v 6),.nilptr,.bool (.v 0)]).toArray:=⟨_,rfl⟩
 have hm':w.heap[m]?=some (.cells csM 82 (0,0)):=by rw [hcs];exact hm
 have cell: ∀j,w.cell? ⟨m,j,none⟩=csM[j]?:=fun j=>by simp [World.cell?,hm']
 have hargs:(SV.denL E β ct33kn.args).toArray= #[.pointer (some ⟨m,0,none⟩)]:=by
  simp only [ct33kn,trk,SV.denL,SV.den,Off.den,SE.den,hme,ho];rfl
 rw [hargs]
 have hmw:m<w.heap.size:=(Array.getElem?_eq_some_iff.1 hm').1
 by_cases hb:E.b 0=true
 ·have hn1:=hn1 hb
  obtain ⟨hz0,ho0,hn0,hnc,hcm,cur,hg,hcsz,hx⟩:=iv_of (hw.ok 1 _ rfl) (by rw [en];omega)
  rw [en] at hn0 hx
  obtain ⟨g,hge⟩: ∃g,(β 1).a=g:=⟨_,rfl⟩
  rw [hge] at hg
  have hgw:g<w.heap.size:=(Array.getElem?_eq_some_iff.1 hg).1
  have hv1:(β 1).v= .slice (some ⟨g,0,none⟩) n (β 1).c:=by simp [Bk.v,hz0,hge,ho0,hn0]
  refine (callsIn_wide.1 (getack_nil 3 (by omega) m 0 g (β 1).c n (E.a 0) (E.i 31) (E.i 32) (E.i 33) hn1 (by omega) w csM 82 hm' hmw hgw (fun j=>by simp [World.frozen?,hm']) (by rw [cell,hcs];rfl) (by rw [cell,hcs];rfl) (by rw [cell,hcs];rfl) (by rw [cell,hcs,←hv1];rfl) (by rw [cell,hcs];rfl) (by rw [cell,hcs,←hb];rfl)
   (fun j hj=>by simp only [World.cell?,hg];have:cur[j]?=some (.int .i64 (E.a 0 j)):=hx j hj;simpa using this))).mono ?_
  rintro e w' ⟨v',rfl,hG⟩
  obtain ⟨G,C,rfl⟩: ∃G C,v'= .slice (some ⟨G,0,none⟩) n C:=by
   rcases hG.row.2 with ⟨_,h0⟩|⟨G,C,_,h,_⟩
   ·omega
   ·exact ⟨G,C,h⟩
  have hGat:w.heap.size≤G:=by
   rcases hG.at_ G rfl with h|h
   ·simp [Value.ownBlock] at h
   ·exact h
  obtain ⟨curG,hcurG⟩:=own_cells hG.row rfl
  have hGw:G<w'.heap.size:=(Array.getElem?_eq_some_iff.1 hcurG).1
  have hKw:w.heap.size+1<w'.heap.size:=(Array.getElem?_eq_some_iff.1 hG.kb).1
  have hGK:G≠w.heap.size+1:=fun h=>by rw [h,hG.kb] at hcurG;simp at hcurG
  have hmw':m<w'.heap.size:=Nat.lt_of_lt_of_le hmw hG.size
  have hwM: ∀c,c≠m→(wset w' m (.cells csM 82 (0,0))).heap[c]?=w'.heap[c]?:=fun c hc=>wset_other hc
  have hsz:(wset w' m (.cells csM 82 (0,0))).heap.size=w'.heap.size:=by simp [wset]
  obtain ⟨k1,k2⟩:=HOk.add2 (w':=wset w' m (.cells csM 82 (0,0))) (s1:=rw67 rvE (.v 0)) (s2:=frB 2 (.c 0) (.v 31) (.v 32) (.v 33)) (bk1:={ a:=G,z:=false,n:=n,c:=C,o:=0 }) (bk2:={ a:=w.heap.size+1 }) hw (by decide) hG.os hG.tape hG.output (by rw [hsz];exact hG.size)
   (fun c hc=>by
     by_cases h:c=m
     ·subst h;rw [wset_same hmw',hm']
     ·rw [hwM c h];exact hG.same c hc h (by omega) (by simp [Value.ownBlock]))
   (fun x hx=>by
     have:x=G:=SBlk.at_eq hx rfl
     subst this;rw [hsz];exact ⟨hGw,hGat⟩)
   (fun x hx=>by
     have:x=w.heap.size+1:=SBlk.at_eq hx rfl
     subst this;rw [hsz];exact ⟨hKw,by omega⟩)
   (fun x h1 h2=>by
     have e1:x=G:=SBlk.at_eq h1 rfl
     have e2:x=w.heap.size+1:=SBlk.at_eq h2 rfl
     omega)
   (ok67 (A:=E.a 0) (cs:=[]) en (rv_den hE hn) ⟨hG.row.1,by
     rcases hG.row.2 with ⟨_,h0⟩|⟨G',C',cu,h,a1,a2,a3⟩
     ·omega
     ·simp only [Value.slice.injEq,Option.some.injEq,Addr.mk.injEq] at h
      obtain ⟨⟨rfl,-,-⟩,-,rfl⟩:=h
      exact .inr ⟨_,_,cu,rfl,a1,by rw [hwM _ (by omega)];exact a2,a3⟩⟩)
   ⟨rfl,by
     show (wset w' m (.cells csM 82 (0,0))).heap[w.heap.size+1]?=_
     rw [hwM _ (by omega)];exact hG.kb⟩
  obtain ⟨k3,k4⟩:=HOk.set (b:=0) (S:=82) (l':=[.int .u64 (.v 31),.int .u64 (.v 32),.int .u64 (.v 33),.own 1,.int .i64 (.v 6),.ptr 3 Off.z,.bool (.c false)]) k1 rfl
  have ea:(upB (upB β 2 { a:=G,z:=false,n:=n,c:=C,o:=0 }) 3 { a:=w.heap.size+1 } 0)=β 0:=by rw [upB_ne (by decide),upB_ne (by decide)]
  have hW:wset (wset w' m (.cells csM 82 (0,0))) ((upB (upB β 2 { a:=G,z:=false,n:=n,c:=C,o:=0 }) 3 { a:=w.heap.size+1 } 0).a) (.cells (SV.denL E (upB (upB β 2 { a:=G,z:=false,n:=n,c:=C,o:=0 }) 3 { a:=w.heap.size+1 }) [.int .u64 (.v 31),.int .u64 (.v 32),.int .u64 (.v 33),.own 1,.int .i64 (.v 6),.ptr 3 Off.z,.bool (.c false)]).toArray 82 (0,0))=w':=by
   rw [ea,hme,wset_wset]
   refine Eq.trans ?_ (world_wset hG.mb)
   congr 2
   rw [hcs];rfl
  have k5:HOk E (upB (upB β 2 { a:=G,z:=false,n:=n,c:=C,o:=0 }) 3 { a:=w.heap.size+1 }) ct33kn.alts[1].post w':=by rw [←hW];exact k3
  have k6:Ext E ct33kn.heap β w E ct33kn.alts[1].post (upB (upB β 2 { a:=G,z:=false,n:=n,c:=C,o:=0 }) 3 { a:=w.heap.size+1 }) w':=by rw [←hW];exact k2.trans k4
  refine ctPost0 (c:=ct33kn) (a:=ct33kn.alts[1]) (β':=upB (upB β 2 { a:=G,z:=false,n:=n,c:=C,o:=0 }) 3 { a:=w.heap.size+1 }) ?_ rfl rfl ?_ k5 k6
  ·simp only [ct33kn,altSel,SB.den,hb,Bool.not_true,Bool.false_eq_true,if_false,if_true];rfl
  ·simp only [ct33kn,List.getElem_cons_succ,List.getElem_cons_zero,SV.den,upB_self];rfl
 ·have hb':E.b 0=false:=by simpa using hb
  refine (getack_no m 0 w (by rw [cell,hcs,←hb'];rfl)).mono ?_
  rintro e w' ⟨rfl,rfl⟩
  refine ext_same E _ β w' _ ct33kn rfl (a:=ct33kn.alts[0]) ?_ rfl rfl rfl rfl hw
  simp only [ct33kn,altSel,SB.den,hb',Bool.not_false,if_true,List.getElem_cons_zero]
set_option maxHeartbeats 2000000 in
theorem ct33kt_ok:CtOk Try.prog fns ct33kt:=by
 intro E β w hE _ hw hF
 obtain ⟨n,hn,hn61,hn1⟩:=pre33 (F:=bd (.v 40) 1 61) hF
 have en:((SE.v 0).den E).toNat=n:=by simp only [SE.den];omega
 have f1:1≤E.i 40:=of_decide_eq_true (hF (.le (.c 1) (.v 40),true) (by simp [ct33kt,newF,bd]))
 have f2:E.i 40≤61:=of_decide_eq_true (hF (.le (.v 40) (.c 61),true) (by simp [ct33kt,newF,bd]))
 refine ⟨fun a ha=>?_,?_⟩
 ·simp only [ct33kt,altSel] at ha
  split at ha<;>(obtain rfl:=Option.some.inj ha;intro q hq;cases hq)
 obtain ⟨ho,hm⟩:=hw.ok 0 _ rfl
 obtain ⟨ho4,hK⟩:=hw.ok 2 _ rfl
 obtain ⟨hz5,ho5,hn5,hnc5,hcm5,cur5,hg5,hcs5,hx5⟩:=rw67_of (hw.ok 3 _ rfl) (by simp only [SE.den];omega)
 have e40:((SE.v 40).den E).toNat=(E.i 40).toNat:=by simp only [SE.den]
 obtain ⟨mm,hmm⟩: ∃mm,(E.i 40).toNat=mm:=⟨_,rfl⟩
 rw [e40,hmm] at hn5 hx5
 obtain ⟨m,hme⟩: ∃m,(β 0).a=m:=⟨_,rfl⟩
 obtain ⟨K,hKe⟩: ∃m,(β 2).a=m:=⟨_,rfl⟩
 obtain ⟨rb,hre⟩: ∃m,(β 3).a=m:=⟨_,rfl⟩
 rw [hme] at hm;rw [hKe] at hK;rw [hre] at hg5
 obtain ⟨csM,hcs⟩: ∃cs,cs=(SV.denL E β [.int .u64 (.v 31),.int .u64 (.v 32),.int .u64 (.v 33),.own 1,.int .i64 (.v 6),laK,.bool (.v 0)]).toArray:=⟨_,rfl⟩
 have hm':w.heap[m]?=some (.cells csM 82 (0,0)):=by rw [hcs];exact hm
 have hv5:(β 3).v= .slice (some ⟨rb,0,none⟩) mm (β 3).c:=by simp [Bk.v,hz5,hre,ho5,hn5]
 have hK':w.heap[K]?=some (.cells #[.slice (some ⟨rb,0,none⟩) mm (β 3).c,.int .i64 (E.i 41),.int .u64 (E.i 42),.int .u64 (E.i 43),.int .u64 (E.i 44)] 65 (0,0)):=by rw [←hv5];exact hK
 have cell: ∀j,w.cell? ⟨m,j,none⟩=csM[j]?:=fun j=>by simp [World.cell?,hm']
 have hargs:(SV.denL E β ct33kt.args).toArray= #[.pointer (some ⟨m,0,none⟩)]:=by
  simp only [ct33kt,trk,SV.denL,SV.den,Off.den,SE.den,hme,ho];rfl
 rw [hargs]
 have hmw:m<w.heap.size:=(Array.getElem?_eq_some_iff.1 hm').1
 have hKw:K<w.heap.size:=(Array.getElem?_eq_some_iff.1 hK').1
 have hrw:rb<w.heap.size:=(Array.getElem?_eq_some_iff.1 hg5).1
 have hKm:K≠m:=fun h=>by rw [h,hm'] at hK';simp at hK'
 have hrK:rb≠K:=fun h=>by rw [h,hK'] at hg5;simp at hg5
 have hrm:rb≠m:=fun h=>by rw [h,hm'] at hg5;simp at hg5
 by_cases hb:E.b 0=true
 ·have hn1:=hn1 hb
  obtain ⟨hz0,ho0,hn0,hnc,hcm,cur,hg,hcsz,hx⟩:=iv_of (hw.ok 1 _ rfl) (by rw [en];omega)
  rw [en] at hn0 hx
  obtain ⟨g,hge⟩: ∃g,(β 1).a=g:=⟨_,rfl⟩
  rw [hge] at hg
  have hgw:g<w.heap.size:=(Array.getElem?_eq_some_iff.1 hg).1
  have hKg:K≠g:=fun h=>by rw [h,hg] at hK';simp at hK'
  have hrg:rb≠g:=fun h=>by rw [h,hg] at hg5;simp at hg5
  have hv1:(β 1).v= .slice (some ⟨g,0,none⟩) n (β 1).c:=by simp [Bk.v,hz0,hge,ho0,hn0]
  refine (callsIn_wide.1 (getack_some 3 (by omega) m 0 g (β 1).c n (E.a 0) (E.i 31) (E.i 32) (E.i 33) hn1 (by omega) K rb mm (β 3).c cur5 (E.a 2) (E.i 41) (E.i 42) (E.i 43) (E.i 44) w hKm hKg hrK hrm hrg hK' hg5 (by omega) (by omega) hcm5 hcs5
   (fun j hj=>by simp only [World.cell?,hg5];have:cur5[j]?=some (.int .i64 (E.a 2 j)):=hx5 j hj;simpa using this)
   csM 82 hm' hmw hgw (fun j=>by simp [World.frozen?,hm']) (by rw [cell,hcs];rfl) (by rw [cell,hcs];rfl) (by rw [cell,hcs];rfl) (by rw [cell,hcs,←hv1];rfl) (by
    rw [cell,hcs]
    show some (Value.pointer (some ⟨(β 2).a,(β 2).o+Off.den E Off.z,none⟩))=_
    rw [ho4,hKe];rfl) (by rw [cell,hcs,←hb];rfl)
   (fun j hj=>by simp only [World.cell?,hg];have:cur[j]?=some (.int .i64 (E.a 0 j)):=hx j hj;simpa using this))).mono ?_
  rintro e w' ⟨v',rfl,hG⟩
  obtain ⟨G,C,rfl⟩: ∃G C,v'= .slice (some ⟨G,0,none⟩) n C:=by
   rcases hG.row.2 with ⟨_,h0⟩|⟨G,C,_,h,_⟩
   ·omega
   ·exact ⟨G,C,h⟩
  have hGat:G=rb∨w.heap.size≤G:=by
   rcases hG.at_ G rfl with h|h
   ·left;simpa [Value.ownBlock] using h.symm
   ·exact .inr h
  obtain ⟨curG,hcurG⟩:=own_cells hG.row rfl
  have hGw:G<w'.heap.size:=(Array.getElem?_eq_some_iff.1 hcurG).1
  have hGK:G≠K:=fun h=>by rw [h,hG.kb] at hcurG;simp at hcurG
  have hGm:G≠m:=fun h=>by rw [h,hG.mb] at hcurG;simp at hcurG
  have hmw':m<w'.heap.size:=Nat.lt_of_lt_of_le hmw hG.size
  have hKw':K<w'.heap.size:=Nat.lt_of_lt_of_le hKw hG.size
  obtain ⟨oK,hoK⟩: ∃o:Obj,o= .cells #[.slice (some ⟨rb,0,none⟩) mm (β 3).c,.int .i64 (E.i 41),.int .u64 (E.i 42),.int .u64 (E.i 43),.int .u64 (E.i 44)] 65 (0,0):=⟨_,rfl⟩
  obtain ⟨wM,hwMe⟩: ∃x,x=wset (wset w' K oK) m (.cells csM 82 (0,0)):=⟨_,rfl⟩
  have hwM: ∀c,c≠m→c≠K→wM.heap[c]?=w'.heap[c]?:=fun c h1 h2=>by rw [hwMe,wset_other h1,wset_other h2]
  have hsz:wM.heap.size=w'.heap.size:=by simp [hwMe,wset]
  have hwm:wM.heap[m]?=w.heap[m]?:=by rw [hwMe,wset_same (by simp [wset];exact hmw'),hm']
  have hwK:wM.heap[K]?=w.heap[K]?:=by rw [hwMe,wset_other hKm,wset_same hKw',hoK,hK']
  have hat5: ∀x,(rw67 (.v 2) (.v 40)).at E (β 3) x↔x=rb:=fun x=>⟨fun h=>(SBlk.at_eq h rfl).trans hre,fun h=>by rw [h,←hre];exact SBlk.at_of hz5 rfl⟩
  obtain ⟨k1,k2⟩:=HOk.absorb (E:=E) (E2:=E) (β:=β) (h:=ct33kt.heap) (w:=w) (w':=wM) (bk:={ a:=G,z:=false,n:=n,c:=C,o:=0 }) (s1:=rw67 rvE (.v 0)) hw (by decide) [3] (AgE.refl 500 E) (by decide) (by rw [hwMe];exact hG.os) (by rw [hwMe];exact hG.tape) (by rw [hwMe];exact hG.output) (by rw [hsz];exact hG.size)
   (fun k hk hn'=>by
     have hkr:k≠rb:=fun h=>hn' 3 _ rfl rfl ((hat5 k).2 h)
     by_cases h1:k=m
     ·rw [h1];exact hwm
     ·by_cases h2:k=K
      ·rw [h2];exact hwK
      ·rw [hwM k h1 h2];exact hG.same k hk h1 h2 (by simp [Value.ownBlock];omega))
   (fun j s' hj hs x hx=>by
     have:j=3:=by simpa using hj
     subst this;cases hs;exact hz5)
   (fun x hx=>by
     have:x=G:=SBlk.at_eq hx rfl
     subst this;rw [hsz]
     refine ⟨hGw,?_⟩
     rcases hGat with h|h
     ·exact .inr ⟨3,_,rfl,rfl,(hat5 _).2 h⟩
     ·exact .inl h)
   (ok67 (A:=E.a 0) (cs:=[]) en (rv_den hE hn) ⟨hG.row.1,by
     rcases hG.row.2 with ⟨_,h0⟩|⟨G',C',cu,h,a1,a2,a3⟩
     ·omega
     ·simp only [Value.slice.injEq,Option.some.injEq,Addr.mk.injEq] at h
      obtain ⟨⟨rfl,-,-⟩,-,rfl⟩:=h
      exact .inr ⟨_,_,cu,rfl,a1,by rw [hwM _ hGm hGK];exact a2,a3⟩⟩)
  obtain ⟨k3,k4⟩:=HOk.set (b:=2) (S:=65) (l':=[.own 4,.int .i64 (.c 0),.int .u64 (.v 31),.int .u64 (.v 32),.int .u64 (.v 33)]) k1 rfl
  obtain ⟨k5,k6⟩:=HOk.set (b:=0) (S:=82) (l':=[.int .u64 (.v 31),.int .u64 (.v 32),.int .u64 (.v 33),.own 1,.int .i64 (.v 6),laK,.bool (.c false)]) k3 rfl
  have hW:wset (wset wM (upB β 4 { a:=G,z:=false,n:=n,c:=C,o:=0 } 2).a (.cells (SV.denL E (upB β 4 { a:=G,z:=false,n:=n,c:=C,o:=0 }) [.own 4,.int .i64 (.c 0),.int .u64 (.v 31),.int .u64 (.v 32),.int .u64 (.v 33)]).toArray 65 (0,0))) (upB β 4 { a:=G,z:=false,n:=n,c:=C,o:=0 } 0).a (.cells (SV.denL E (upB β 4 { a:=G,z:=false,n:=n,c:=C,o:=0 }) [.int .u64 (.v 31),.int .u64 (.v 32),.int .u64 (.v 33),.own 1,.int .i64 (.v 6),laK,.bool (.c false)]).toArray 82 (0,0))=w':=by
   rw [upB_ne (by decide:(2:Nat)≠4),upB_ne (by decide:(0:Nat)≠4),hme,hKe,hwMe]
   refine Eq.trans ?_ (wset4 (a:=oK) (b:= .cells csM 82 (0,0)) hG.kb hG.mb hKm)
   congr 2
   rw [hcs]
   show _=((SV.denL E β [.int .u64 (.v 31),.int .u64 (.v 32),.int .u64 (.v 33),.own 1,.int .i64 (.v 6),laK,.bool (.v 0)]).toArray.setIfInBounds 5 (.pointer (some ⟨K,0,none⟩))).setIfInBounds 6 (.bool false)
   have e4:Value.pointer (some ⟨K,0,none⟩)=(SV.ptr 2 Off.z).den E β:=by
    show _=Value.pointer (some ⟨(β 2).a,(β 2).o+Off.den E Off.z,none⟩)
    rw [ho4,hKe];rfl
   rw [e4];rfl
  have k7:HOk E (upB β 4 { a:=G,z:=false,n:=n,c:=C,o:=0 }) ct33kt.alts[1].post w':=by rw [←hW];exact k5
  have k8:Ext E ct33kt.heap β w E ct33kt.alts[1].post (upB β 4 { a:=G,z:=false,n:=n,c:=C,o:=0 }) w':=by rw [←hW];exact (k2.trans k4).trans k6
  refine ctPost0 (c:=ct33kt) (a:=ct33kt.alts[1]) (β':=upB β 4 { a:=G,z:=false,n:=n,c:=C,o:=0 }) ?_ rfl rfl ?_ k7 k8
  ·simp only [ct33kt,altSel,SB.den,hb,Bool.not_true,Bool.false_eq_true,if_false,if_true];rfl
  ·simp only [ct33kt,List.getElem_cons_succ,List.getElem_cons_zero,SV.den,Off.den,Off.z,SE.den]
   rw [upB_ne (by decide:(2:Nat)≠4),ho4,hKe];rfl
 ·have hb':E.b 0=false:=by simpa using hb
  refine (getack_no m 0 w (by rw [cell,hcs,←hb'];rfl)).mono ?_
  rintro e w' ⟨rfl,rfl⟩
  refine ext_same E _ β w' _ ct33kt rfl (a:=ct33kt.alts[0]) ?_ rfl rfl rfl rfl hw
  simp only [ct33kt,altSel,SB.den,hb',Bool.not_false,if_true,List.getElem_cons_zero]
end
end Go.Proofs.Ytgianhjmjiiadaa
end
section
set_option autoImplicit true
set_option relaxedAutoImplicit true
set_option linter.unusedVariables false
set_option linter.unusedSimpArgs false
set_option maxRecDepth 100000
set_option maxHeartbeats 4000000
namespace Go.Proofs.Ytgianhjmjiiadaa
open Go Go.Sy Go.RowKit
noncomputable def h12ae0:SE:= .rd (.v 2) (.v 25)
noncomputable def h12ae1:SE:= .mul (.v 25) (.c 128)
noncomputable def h12ax0:Vl:= .go 0 [(130,(.c 0))] [] [] [((.eq h12ae0 (.v 50)),true),((.le (.c 0) (.v 25)),true),((.lt (.v 25) (.v 0)),true),((.le (.c 0) (.v 50)),true),((.le (.v 50) (.c 64)),true),((.le (.c 0) h12ae0),true),((.le h12ae0 (.c 64)),true)] (.code (.loop (loopB (prm12 Try.prog).P 12 4))) (loopK (prm12 Try.prog).P 12 4)
noncomputable def h12ax1:Vl:= .out 0 [.b (.c false) (.ap 12 (.a (.v 4) (.i h12ae1 (.i h12ae0 (.a (.v 50) (.i (.v 50) .nil)))))),.p 1000 (.i (.v 0) (.a (.v 0) (.a (.v 1) (.a (.v 2) (.a (.v 3) (.a (.v 4) .nil)))))) (.i (.v 0) (.a (.v 0) (.a (.v 1) (.a (.v 2) (.a (.v 3) (.a (.v 4) .nil)))))),.a (.v 50) (.v 50) (.v 50) 2,.i (.v 50) (.v 50)] [((.eq h12ae0 (.v 50)),false),((.le (.c 0) (.v 25)),true),((.lt (.v 25) (.v 0)),true),((.le (.c 0) (.v 50)),true),((.le (.v 50) (.c 64)),true),((.le (.c 0) h12ae0),true),((.le h12ae0 (.c 64)),true)]
noncomputable def h12als:List Vl:=[h12ax0,h12ax1]
noncomputable def h12p0e0:SE:= .add (.v 130) (.c 1)
noncomputable def h12p0e1:SE:= .mul (.v 25) (.c 128)
noncomputable def h12p0e2:SE:= .mul (.v 130) (.c 2)
noncomputable def h12p0e3:SE:= .add h12p0e1 h12p0e2
noncomputable def h12p0e4:SE:= .rd (.v 4) h12p0e3
noncomputable def h12p0e5:SE:= .rd (.v 50) h12p0e2
noncomputable def h12p0e6:SE:= .add h12p0e2 (.c 1)
noncomputable def h12p0e7:SE:= .add h12p0e1 h12p0e6
noncomputable def h12p0e8:SE:= .rd (.v 4) h12p0e7
noncomputable def h12p0e9:SE:= .rd (.v 50) h12p0e6
noncomputable def h12p0e10:SE:= .rd (.v 2) (.v 25)
noncomputable def h12p0e11:SE:= .mul h12p0e10 (.c 2)
noncomputable def h12p0x0:Vl:= .go 0 [(130,h12p0e0)] [] [] [((.and (.eq h12p0e4 h12p0e5) (.eq h12p0e8 h12p0e9)),true),((.lt (.v 130) (.v 50)),true),((.lt h12p0e6 h12p0e11),true),((.lt (.v 130) h12p0e10),true),((.le (.c 0) (.v 25)),true),((.lt (.v 25) (.v 0)),true),((.le (.c 0) (.v 50)),true),((.le (.v 50) (.c 64)),true),((.le (.c 0) h12p0e10),true),((.le h12p0e10 (.c 64)),true),((.le (.c 0) (.v 130)),true),((.le (.v 130) (.c 64)),true),((.eq h12p0e10 (.v 50)),true)] (.exit .normal) (.loop (loopB (prm12 Try.prog).P 12 4)::loopK (prm12 Try.prog).P 12 4)
noncomputable def h12p0x1:Vl:= .out 0 [.b (.c false) (.ap 12 (.a (.v 4) (.i h12p0e1 (.i h12p0e10 (.a (.v 50) (.i (.v 50) .nil)))))),.p 1000 (.i (.v 0) (.a (.v 0) (.a (.v 1) (.a (.v 2) (.a (.v 3) (.a (.v 4) .nil)))))) (.i (.v 0) (.a (.v 0) (.a (.v 1) (.a (.v 2) (.a (.v 3) (.a (.v 4) .nil)))))),.a (.v 50) (.v 50) (.v 50) 2,.i (.v 50) (.v 50)] [((.and (.eq h12p0e4 h12p0e5) (.eq h12p0e8 h12p0e9)),false),((.lt (.v 130) (.v 50)),true),((.lt h12p0e6 h12p0e11),true),((.lt (.v 130) h12p0e10),true),((.le (.c 0) (.v 25)),true),((.lt (.v 25) (.v 0)),true),((.le (.c 0) (.v 50)),true),((.le (.v 50) (.c 64)),true),((.le (.c 0) h12p0e10),true),((.le h12p0e10 (.c 64)),true),((.le (.c 0) (.v 130)),true),((.le (.v 130) (.c 64)),true),((.eq h12p0e10 (.v 50)),true)]
noncomputable def h12p0x2:Vl:= .dead [((.lt (.v 130) (.v 50)),false),((.lt h12p0e6 h12p0e11),true),((.lt (.v 130) h12p0e10),true),((.le (.c 0) (.v 25)),true),((.lt (.v 25) (.v 0)),true),((.le (.c 0) (.v 50)),true),((.le (.v 50) (.c 64)),true),((.le (.c 0) h12p0e10),true),((.le h12p0e10 (.c 64)),true),((.le (.c 0) (.v 130)),true),((.le (.v 130) (.c 64)),true),((.eq h12p0e10 (.v 50)),true)]
noncomputable def h12p0x3:Vl:= .dead [((.lt h12p0e6 h12p0e11),false),((.lt (.v 130) h12p0e10),true),((.le (.c 0) (.v 25)),true),((.lt (.v 25) (.v 0)),true),((.le (.c 0) (.v 50)),true),((.le (.v 50) (.c 64)),true),((.le (.c 0) h12p0e10),true),((.le h12p0e10 (.c 64)),true),((.le (.c 0) (.v 130)),true),((.le (.v 130) (.c 64)),true),((.eq h12p0e10 (.v 50)),true)]
noncomputable def h12p0x4:Vl:= .out 0 [.b (.c true) (.ap 12 (.a (.v 4) (.i h12p0e1 (.i h12p0e10 (.a (.v 50) (.i (.v 50) .nil)))))),.p 1000 (.i (.v 0) (.a (.v 0) (.a (.v 1) (.a (.v 2) (.a (.v 3) (.a (.v 4) .nil)))))) (.i (.v 0) (.a (.v 0) (.a (.v 1) (.a (.v 2) (.a (.v 3) (.a (.v 4) .nil)))))),.a (.v 50) (.v 50) (.v 50) 2,.i (.v 50) (.v 50)] [((.lt (.v 130) h12p0e10),false),((.le (.c 0) (.v 25)),true),((.lt (.v 25) (.v 0)),true),((.le (.c 0) (.v 50)),true),((.le (.v 50) (.c 64)),true),((.le (.c 0) h12p0e10),true),((.le h12p0e10 (.c 64)),true),((.le (.c 0) (.v 130)),true),((.le (.v 130) (.c 64)),true),((.eq h12p0e10 (.v 50)),true)]
noncomputable def h12p0ls:List Vl:=[h12p0x0,h12p0x1,h12p0x2,h12p0x3,h12p0x4]
theorem h12p0run:(run (prm12 Try.prog) 900 (ptD (pts12 Try.prog) 0 12)).map (vOf (prm12 Try.prog) ct12 (pts12 Try.prog))=h12p0ls:=by kernel_rfl
noncomputable def h9e0:AE:= .tl (.v 0) (.c 0) (.b (.c false) (.b (.c false) (.i (.c 0) (.i (.c 0) (.i (.c 0) (.i (.c 0) (.i (.c 0) (.i (.c 0) .nil))))))))
noncomputable def h9e1:AE:= .tl h9e0 (.c 8) (.b (.c true) (.b (.c false) (.i (.c 0) (.i (.c 0) (.i (.c 0) (.i (.c 0) (.i (.c 0) (.i (.c 0) .nil))))))))
noncomputable def h9e2:SE:= .rd h9e1 (.c 8)
noncomputable def h9e3:AE:= .ap 1 (.a (.v 4) (.i (.c 0) (.a (.v 20) .nil)))
noncomputable def h9e4:AE:= .tl (.v 0) (.c 0) (.i (.c 5) (.i (.c 5) .nil))
noncomputable def h9e5:AE:= .ap 8 (.a h9e4 (.i (.c 1) .nil))
noncomputable def h9e6:SE:= .rd h9e5 (.c 0)
noncomputable def h9e7:SE:= .rd h9e5 (.c 1)
noncomputable def h9e8:AE:= .tl (.v 0) (.c 0) (.i h9e6 (.i h9e7 .nil))
noncomputable def h9e9:AE:= .ap 1 (.a h9e3 (.i (.c 128) (.a h9e8 .nil)))
noncomputable def h9e10:AE:= .tl (.v 2) (.c 0) (.i (.c 0) .nil)
noncomputable def h9e11:AE:= .tl h9e10 (.c 1) (.i (.c 1) .nil)
noncomputable def h9e12:SE:= .rd h9e11 (.c 1)
noncomputable def h9x0:Vl:= .out 0 [.b (.c false) (.c true)] [((.eq h9e2 (.c 0)),true)]
noncomputable def h9x1:Vl:= .out 0 [.b (.ap 12 (.a h9e9 (.i (.c 128) (.i h9e12 (.a h9e4 (.i (.c 1) .nil)))))) (.c true)] [((.le h9e12 (.c 64)),true),((.le (.c 0) h9e12),true),((.eq h9e2 (.c 0)),false)]
noncomputable def h9x2:Vl:= .dead [((.le h9e12 (.c 64)),false),((.le (.c 0) h9e12),true),((.eq h9e2 (.c 0)),false)]
noncomputable def h9x3:Vl:= .dead [((.le (.c 0) h9e12),false),((.eq h9e2 (.c 0)),false)]
noncomputable def h9ls:List Vl:=[h9x0,h9x1,h9x2,h9x3]
theorem h9run:(run (prm9 Try.prog) 3000 (enterD (prm9 Try.prog) ct9)).map (vOf (prm9 Try.prog) ct9 [])=h9ls:=by kernel_rfl
theorem t32:Try.prog.underlying 32=some (.slice 36):=by kernel_rfl
theorem t36:Try.prog.underlying 36=some (.array 2 2):=by kernel_rfl
theorem s36:sizeT Try.prog 36=some 2:=by kernel_rfl
theorem s2:sizeT Try.prog 2=some 1:=by kernel_rfl
theorem s35:sizeT Try.prog 35=some 8:=by kernel_rfl
theorem btN_ok: ∀b∈btN,BtOk Try.prog fns b:=by
 intro b hb
 simp only [btN,List.mem_cons,List.not_mem_nil,or_false] at hb
 rcases hb with rfl|rfl|rfl|rfl|rfl
 ·exact btNsLen_ok rokq (f:=0) (by decide) (idxE_ok 1 0) t32
 ·exact btNpIx_ok rokq (f:=0) (by decide) (idxE_ok 1 0) rfl t32 s36
 ·exact btNpIn_ok rokq (f:=0) (by decide) (idxE_ok 1 0) rfl t36 s2
 ·exact btNpLd_ok rokq (f:=0) (by decide) (idxE_ok 1 0) rfl (by kernel_rfl)
 ·exact btNpAll_ok rokq (f:=0) (by decide) (idxE_ok 1 0) rfl (by kernel_rfl) s36
theorem btR_ok: ∀b∈btR,BtOk Try.prog fns b:=by
 intro b hb
 simp only [btR,List.mem_cons,List.not_mem_nil,or_false] at hb
 rcases hb with rfl|rfl|rfl|rfl|rfl
 ·obtain ⟨i,z,hi,hz,hzc,his,hib⟩:=info_of i35
  exact btRecApp_ok rokq t29 hi hz (by rw [hzc,his]) his (by omega) (by decide) (by decide)
 ·exact btRecLen_ok rokq t29
 ·exact btRecIx_ok rokq t29 s35
 ·exact btRecLd_ok rokq (by decide) (by kernel_rfl)
 ·exact btRecLd_ok rokq (by decide) (by kernel_rfl)
theorem prm12_ok (E:Env) (hE:E.fn=fns):PrmOk E (prm12 Try.prog):=prm_ok E hE (by intro c hc;cases hc) btN_ok
theorem g12 {E:Env} (hE:E.fn=fns) (C B:AE) (b n m:SE):(SB.ap 12 (.a C (.i b (.i n (.a B (.i m .nil)))))).den E=true↔(n.den E=m.den E∧ ∀j:Nat,(j:Int)<n.den E*2→C.den E ((b.den E).toNat+j)=B.den E j):=by
 have e:(SB.ap 12 (.a C (.i b (.i n (.a B (.i m .nil)))))).den E=fns.g 12 [.a (C.den E),.i (b.den E),.i (n.den E),.a (B.den E),.i (m.den E)]:=by
  simp only [SB.den,SL.den,hE]
 rw [e]
 classical
 exact decide_eq_true_iff
structure I12 (E0 E:Env) (k:Nat):Prop where
 ag:AgP 100 E0 E
 i130:E.i 130=k
 le:(k:Int)≤E0.i 50
 eq:E0.a 2 (E0.i 25).toNat=E0.i 50
 all: ∀j,j<k*2→E0.a 4 ((E0.i 25).toNat*128+j)=E0.a 50 j
theorem eqs12 {E0 E:Env} (H:AgP 100 E0 E): ∀q∈([.p 1000 (.i (.v 0) (.a (.v 0) (.a (.v 1) (.a (.v 2) (.a (.v 3) (.a (.v 4) .nil)))))) (.i (.v 0) (.a (.v 0) (.a (.v 1) (.a (.v 2) (.a (.v 3) (.a (.v 4) .nil)))))),.a (.v 50) (.v 50) (.v 50) 2,.i (.v 50) (.v 50)]:List Eqn),q.ok E E0:=by
 simp only [List.forall_mem_cons,List.not_mem_nil,false_imp_iff,implies_true,and_true]
 exact ⟨Eqn.p_ag H _ _ rfl,Eqn.a_ag H _ _ _ rfl,Eqn.i_ag H _ rfl⟩
theorem q12 {E0 E:Env} {b:SB} {r:SB} (H:AgP 100 E0 E) (h:b.den E=r.den E0): ∀q∈(.b b r::[.p 1000 (.i (.v 0) (.a (.v 0) (.a (.v 1) (.a (.v 2) (.a (.v 3) (.a (.v 4) .nil)))))) (.i (.v 0) (.a (.v 0) (.a (.v 1) (.a (.v 2) (.a (.v 3) (.a (.v 4) .nil)))))),.a (.v 50) (.v 50) (.v 50) 2,.i (.v 50) (.v 50)]:List Eqn),q.ok E E0:=by
 intro q hq
 rcases List.mem_cons.1 hq with rfl|hq
 ·exact h
 ·exact eqs12 H q hq
def rE12:SB:= .ap 12 (.a (.v 4) (.i (.mul (.v 25) (.c 128)) (.i (.rd (.v 2) (.v 25)) (.a (.v 50) (.i (.v 50) .nil)))))
theorem rE12_t {E:Env} (hE:E.fn=fns) (h25:0≤E.i 25):rE12.den E=true↔(E.a 2 (E.i 25).toNat=E.i 50∧ ∀j:Nat,(j:Int)<E.a 2 (E.i 25).toNat*2→E.a 4 ((E.i 25).toNat*128+j)=E.a 50 j):=by
 unfold rE12
 rw [g12 hE]
 have e1:((SE.mul (.v 25) (.c 128)).den E).toNat=(E.i 25).toNat*128:=by
  show (E.i 25*128).toNat=_
  omega
 rw [e1]
 simp only [AE.den,SE.den]
theorem rE12_f {E:Env} (hE:E.fn=fns) (h25:0≤E.i 25) (h: ¬ (E.a 2 (E.i 25).toNat=E.i 50∧ ∀j:Nat,(j:Int)<E.a 2 (E.i 25).toNat*2→E.a 4 ((E.i 25).toNat*128+j)=E.a 50 j)):rE12.den E=false:=by
 cases hc:rE12.den E with
 |false=>rfl
 |true=>exact absurd ((rE12_t hE h25).1 hc) h
theorem ct12_ok:CtOk Try.prog fns ct12:=by
 refine ct_of_pts (p:=prm12 Try.prog) (pts:=pts12 Try.prog) (n:=900) (c0:=enterD (prm12 Try.prog) ct12) (fun E hE=>prm12_ok E hE) rfl (by intro q hq;cases hq) Try.func12 (by kernel_rfl) ?_ (fun E0 _ E=> ∃k,I12 E0 E k) (fun E0 _ E=>(E0.i 50 - E.i 130).toNat) h12als (by kernel_rfl) ?_ ?_
 ·intro t ht
  simp only [pts12,List.mem_cons,List.not_mem_nil,or_false] at ht
  subst ht
  exact ⟨by kernel_rfl,by decide⟩
 ·intro E hE hF
  have h25:0≤E.i 25:=of_decide_eq_true (hF (.le (.c 0) (.v 25),true) (by simp [ct12,idxP]))
  have h50:0≤E.i 50:=of_decide_eq_true (hF (.le (.c 0) (.v 50),true) (by simp [ct12,bd]))
  refine ⟨fun a ha=>(by cases ha;intro q hq;cases hq),fun x hx=>?_⟩
  unfold h12als at hx
  simp only [List.mem_cons,List.not_mem_nil,or_false] at hx
  rcases hx with rfl|rfl
  ·intro hf
   have h1:E.a 2 (E.i 25).toNat=E.i 50:=eq_t.1 (fat hf 0 rfl)
   refine ⟨⟨_,rfl,.inl ⟨rfl,rfl⟩⟩,fun o=>⟨⟨0,(AgP.refl 100 E).put o,rfl,by omega,h1,fun j hj=>absurd hj (by omega)⟩,fun b hb=>by cases hb⟩⟩
  ·intro hf
   have h1: ¬E.a 2 (E.i 25).toNat=E.i 50:=eq_f.1 (fat hf 0 rfl)
   exact ⟨rfl,q12 (AgP.refl 100 E) (r:=rE12) (rE12_f hE h25 (fun h=>h1 h.1)).symm⟩
 ·intro i t ht
  have hi:i=0:=by
   have:=(List.getElem?_eq_some_iff.1 ht).1
   simp [pts12] at this;omega
  subst hi
  obtain rfl:=Option.some.inj ht
  refine ⟨h12p0ls,h12p0run,fun E0 E hE0 hE hF0 ⟨k,hI⟩=>?_⟩
  have h25:0≤E0.i 25:=of_decide_eq_true (hF0 (.le (.c 0) (.v 25),true) (by simp [ct12,idxP]))
  have h50:E0.i 50≤64:=of_decide_eq_true (hF0 (.le (.v 50) (.c 64),true) (by simp [ct12,bd]))
  have h51:0≤E0.i 50:=of_decide_eq_true (hF0 (.le (.c 0) (.v 50),true) (by simp [ct12,bd]))
  have e25:=hI.ag.i 25 (by decide);have e50:=hI.ag.i 50 (by decide);have a2:=hI.ag.a 2 (by decide);have a4:=hI.ag.a 4 (by decide);have a50:=hI.ag.a 50 (by decide)
  have h130:=hI.i130
  have hle:=hI.le
  have heq:=hI.eq
  have dL:h12p0e10.den E=E0.i 50:=by
   show E.a 2 (E.i 25).toNat=_
   rw [a2,e25,heq]
  refine ⟨facts_append (facts_append (hI.ag.facts (by decide) hF0) (by simp only [bd,facts_cons,facts_nil,le_t,d_c,d_v,and_true];omega)) (by
   simp only [facts_cons,facts_nil,and_true]
   exact eq_t.2 (by rw [show (SE.rd (.v 2) ix1).den E=h12p0e10.den E from rfl,dL];exact e50.symm)),fun x hx=>?_⟩
  unfold h12p0ls at hx
  simp only [List.mem_cons,List.not_mem_nil,or_false] at hx
  have cC: ∀(x:SE) (u:Nat),0≤x.den E→(x.den E).toNat=u→(SE.rd (.v 4) (.add (.mul (.v 25) (.c 128)) x)).den E=E0.a 4 ((E0.i 25).toNat*128+u):=fun x u h0 hx=>by
   show E.a 4 (E.i 25*128+x.den E).toNat=_
   rw [a4,e25,show (E0.i 25*128+x.den E).toNat=(E0.i 25).toNat*128+u by omega]
  have cB: ∀(x:SE) (u:Nat),(x.den E).toNat=u→(SE.rd (.v 50) x).den E=E0.a 50 u:=fun x u hx=>by
   show E.a 50 (x.den E).toNat=_
   rw [a50,hx]
  have x0:(SE.mul (.v 130) (.c 2)).den E=(k:Int)*2:=by show E.i 130*2=_;rw [h130]
  have x1:(SE.add (.mul (.v 130) (.c 2)) (.c 1)).den E=(k:Int)*2+1:=by show E.i 130*2+1=_;rw [h130]
  have r0:=cC (.mul (.v 130) (.c 2)) (k*2) (by rw [x0];omega) (by rw [x0];omega)
  have r1:=cC (.add (.mul (.v 130) (.c 2)) (.c 1)) (k*2+1) (by rw [x1];omega) (by rw [x1];omega)
  have b0:=cB (.mul (.v 130) (.c 2)) (k*2) (by rw [x0];omega)
  have b1:=cB (.add (.mul (.v 130) (.c 2)) (.c 1)) (k*2+1) (by rw [x1];omega)
  have hand:(SB.and (.eq (.rd (.v 4) (.add (.mul (.v 25) (.c 128)) (.mul (.v 130) (.c 2)))) (.rd (.v 50) (.mul (.v 130) (.c 2)))) (.eq (.rd (.v 4) (.add (.mul (.v 25) (.c 128)) (.add (.mul (.v 130) (.c 2)) (.c 1)))) (.rd (.v 50) (.add (.mul (.v 130) (.c 2)) (.c 1))))).den E=(E0.a 4 ((E0.i 25).toNat*128+k*2)==E0.a 50 (k*2)&&E0.a 4 ((E0.i 25).toNat*128+(k*2+1))==E0.a 50 (k*2+1)):=by
   show ((SE.rd (.v 4) (.add (.mul (.v 25) (.c 128)) (.mul (.v 130) (.c 2)))).den E==(SE.rd (.v 50) (.mul (.v 130) (.c 2))).den E&&(SE.rd (.v 4) (.add (.mul (.v 25) (.c 128)) (.add (.mul (.v 130) (.c 2)) (.c 1)))).den E==(SE.rd (.v 50) (.add (.mul (.v 130) (.c 2)) (.c 1))).den E)=_
   rw [r0,r1,b0,b1]
  rcases hx with rfl|rfl|rfl|rfl|rfl
  ·intro hf
   have h1:=hand.symm.trans (fat hf 0 rfl)
   have h2:E.i 130<E.i 50:=lt_t.1 (fat hf 1 rfl)
   rw [Bool.and_eq_true,beq_iff_eq,beq_iff_eq] at h1
   refine ⟨⟨_,rfl,.inr ⟨rfl,rfl⟩⟩,fun o=>⟨⟨k+1,hI.ag.put o,by show E.i 130+1=_;omega,by omega,heq,fun j hj=>?_⟩,fun b hb=>?_⟩⟩
   ·rcases Nat.lt_or_ge j (k*2) with c|c
    ·exact hI.all j c
    ·have:j=k*2∨j=k*2+1:=by omega
     rcases this with rfl|rfl
     ·exact h1.1
     ·exact h1.2
   ·cases hb
    show (E0.i 50 - (E.i 130+1)).toNat<(E0.i 50 - E.i 130).toNat
    omega
  ·intro hf
   have h1:=hand.symm.trans (fat hf 0 rfl)
   have h2:E.i 130<E.i 50:=lt_t.1 (fat hf 1 rfl)
   refine ⟨rfl,q12 hI.ag (r:=rE12) (rE12_f hE0 h25 (fun h=>?_)).symm⟩
   have g0:=h.2 (k*2) (by omega)
   have g1:=h.2 (k*2+1) (by omega)
   rw [g0,g1] at h1
   simp at h1
  ·intro hf
   have h1:E.i 50≤E.i 130:=lt_f.1 (fat hf 0 rfl)
   have h2:E.i 130<h12p0e10.den E:=lt_t.1 (fat hf 2 rfl)
   rw [dL] at h2
   omega
  ·intro hf
   have h1:h12p0e10.den E*2≤E.i 130*2+1:=lt_f.1 (fat hf 0 rfl)
   have h2:E.i 130<h12p0e10.den E:=lt_t.1 (fat hf 1 rfl)
   omega
  ·intro hf
   have h2:h12p0e10.den E≤E.i 130:=lt_f.1 (fat hf 0 rfl)
   rw [dL] at h2
   refine ⟨rfl,q12 hI.ag (r:=rE12) ((rE12_t hE0 h25).2 ⟨heq,fun j hj=>hI.all j (by omega)⟩).symm⟩
theorem prm9_ok (E:Env) (hE:E.fn=fns):PrmOk E (prm9 Try.prog) where
 bt:=by intro b hb;rw [hE];exact btR_ok b hb
 ct:=by
  intro c hc
  have:c=ct33kn∨c=ct12:=by simpa [prm9] using hc
  rw [hE]
  rcases this with rfl|rfl
  ·exact ct33kn_ok
  ·exact ct12_ok
 mix:=Checked.mixed Try.checked
 okf:=okf_call
 body:=okf_body
 mts:=by intro x hx;cases hx
 dfr:=by
  intro f hf a w
  have:f=13:=by simpa [prm9] using hf
  subst this
  exact catch_idle a w
 dfk:=by
  intro f hf
  have:f=13:=by simpa [prm9] using hf
  subst this;decide
theorem ct9_ok:CtOk Try.prog fns ct9:=by
 refine ct_of_ptsX (p:=prm9 Try.prog) (pts:=[]) (n:=3000) (c0:=enterD (prm9 Try.prog) ct9) (fun E hE=>prm9_ok E hE) rfl (by intro q hq;cases hq) Try.func9 (by kernel_rfl) (by intro t ht;cases ht) (fun _ _ _=>True) (fun _ _ _=>0) h9ls h9run ?_ (by intro i t ht;cases ht)
 intro E0 hE0 hF0
 refine ⟨fun a ha=>(by cases ha;intro q hq;cases hq),fun E H1 _ x hx=>?_⟩
 have hE:E.fn=fns:=H1.fn.trans hE0
 obtain ⟨ii,bb,aa,oo,fn⟩:=E
 have hfn:fn=fns:=hE
 subst hfn
 unfold h9ls at hx
 simp only [List.mem_cons,List.not_mem_nil,or_false] at hx
 rcases hx with rfl|rfl|rfl|rfl
 ·intro hf
  have h1:(1:Int)=0:=eq_t.1 (fat hf 0 rfl)
  omega
 ·intro hf
  refine ⟨rfl,E0,?_,fun a' ha'=>(by cases ha';intro q hq;cases hq)⟩
  simp only [List.forall_mem_cons,List.not_mem_nil,false_imp_iff,implies_true,and_true]
  refine (g12 rfl _ _ _ _ _).2 ⟨rfl,fun j hj=>?_⟩
  have hj':(j:Int)<1*2:=hj
  have:j=0∨j=1:=by omega
  rcases this with rfl|rfl<;>simp [h9e9,h9e3,h9e8,h9e4,h9e5,h9e6,h9e7,AE.den,SL.den,SE.den,SL.nth,fns,rvA]
 ·intro hf
  have h1:(64:Int)<1:=le_f.1 (fat hf 0 rfl)
  omega
 ·intro hf
  have h1:(1:Int)<0:=le_f.1 (fat hf 0 rfl)
  omega
end Go.Proofs.Ytgianhjmjiiadaa
end
section
set_option autoImplicit true
set_option relaxedAutoImplicit true
set_option linter.unusedVariables false
set_option linter.unusedSimpArgs false
set_option maxHeartbeats 4000000
namespace Go.Proofs.Ytgianhjmjiiadaa
open Go Go.Sy Go.RowKit
section
variable {E E0:Env}
def clash (F K:Fx):Bool:=(F++K).any fun q=>match dec K q.1 with|some t=>t !=q.2|none=>false
theorem clash_ok {F K:Fx} (h:clash F K=true) (hF:Facts E F) (hK:Facts E K):False:=by
 unfold clash at h
 rw [List.any_eq_true] at h
 obtain ⟨⟨b,t⟩,hm,h⟩:=h
 have h1:b.den E=t:=by rcases List.mem_append.1 hm with hm|hm
                       ·exact hF _ hm
                       ·exact hK _ hm
 cases hd:dec K b with
 |none=>rw [hd] at h;cases h
 |some u=>
  rw [hd] at h
  have h2:=dec_ok hK hd
  have h3:(u !=t)=true:=h
  have h1':b.den E=t:=h1
  rw [←h1',h2] at h3
  simp at h3
def badV (ks:List Fx):Vl→Bool
 | .dead F=>ks.all (clash F)
 | .out _ _ F=>ks.all (clash F)
 | .go _ _ _ _ F _ _=>ks.all (clash F)
 | .bad _=>false
theorem all_no {ks:List Fx} {F:Fx} (h:ks.all (clash F)=true) (hk: ∃K∈ks,Facts E K): ¬Facts E F:=fun hF=>by
 obtain ⟨K,hm,hK⟩:=hk
 exact clash_ok (List.all_eq_true.1 h K hm) hF hK
theorem badV_ok {pts:List Pt} {ct:Ct} {I:Env→Nat→Env→Prop} {μ:Env→Nat→Env→Nat} {bd:Option Nat} {ks:List Fx} (hk: ∃K∈ks,Facts E K) {x:Vl} (h:badV ks x=true):VOk pts ct I μ bd E0 E x:=by
 cases x with
 |dead F=>exact fun hF=>all_no h hk hF
 |go i si sb sa F fo k=>exact fun hF=>absurd hF (all_no h hk)
 |out a es F=>exact fun hF=>absurd hF (all_no h hk)
 |bad c=>cases h
theorem vok_all {pts:List Pt} {ct:Ct} {I:Env→Nat→Env→Prop} {μ:Env→Nat→Env→Nat} {bd:Option Nat} {ks:List Fx} (hk: ∃K∈ks,Facts E K) {ls gs:List Vl} (hg:ls.filter (fun x=>!badV ks x)=gs) (h: ∀x∈gs,VOk pts ct I μ bd E0 E x): ∀x∈ls,VOk pts ct I μ bd E0 E x:=fun x hx=>by
 cases hb:badV ks x
 ·exact h x (by rw [←hg];exact List.mem_filter.2 ⟨hx,by rw [hb];rfl⟩)
 ·exact badV_ok hk hb
def lE7 (s:Nat):SE:= .rd (col s 1) (.v 130)
def eqE7 (s:Nat) (a:AE) (n:SE):SB:= .ap 12 (.a (col s 2) (.i (.mul (.v 130) (.c 128)) (.i (lE7 s) (.a a (.i n .nil)))))
def rN7:SE:= .ap 33 (.a (.v 100) (.a (.v 101) (.i (.v 112) .nil)))
def rB7:AE:= .ap 32 (.a (.v 100) (.a (.v 101) (.i (.v 112) .nil)))
def bI7 (s:Nat):SB:= .beq (.not (.eq (gE s 0) (.c 0))) (.and (.eq (rs7 0) (.c 3)) olI)
def bW7 (s:Nat):SB:= .beq (.not (.eq (gE s 1) (.c 0))) (.and (.eq (rs7 0) (.c 0)) olI)
def alE7:SE:= .ite (.and (.eq (rs7 0) (.c 4)) (.and (.lt (.c 0) (.v 114)) (.not (.v 116)))) (.add (.v 115) (.c 25000000)) (.c 0)
def dlE7 (s:Nat):SE:=if s=2 then .mx (.c 0) (.sub (rs7 3) (.v 113)) else .c 0
def kdF (n:Int) (t:Bool):SB×Bool:=(.eq (rs7 0) (.c n),t)
def kn0 (s:Nat):Fx:=(.lt (.v 130) (.v 60),true)::(.le (.c 0) (lE7 s),true)::(.le (lE7 s) (.c 64),true)::(.le (.c 0) rN7,true)::(.le rN7 (.c 64),true)::h7 s
def knF (s:Nat):Fx:=[(asI s,true),kdF 1 true,kdF 4 false,(.eq (gE s 0) (.c 0),false),(.eq (gE s 1) (.c 0),true),(eqE7 s rB7 rN7,true),(.eq (gE s 3) (dlE7 s),true),(.eq (gE s 5) (.v 117),true),(.eq (gE s 6) (.v 118),true),(.eq (gE s 7) (.v 119),true)]
def knN (s:Nat):Fx:=[(asI s,false),(bI7 s,true),(bW7 s,true),(eqE7 s (.v 50) (.c 0),true),(.eq (gE s 3) (.c 0),true),(.eq (gE s 5) (.c 0),true),(.eq (gE s 6) (.c 0),true),(.eq (gE s 7) (.c 0),true)]
def kz (s:Nat):Fx:=[kdF 1 false,kdF 4 false,(.eq (gE s 0) (.c 0),true),(.eq (gE s 1) (.c 0),true)]
def kn (s:Nat):List Fx:=[knF s++kn0 s,(cuI s,true)::kdF 2 true::(kz s++(knN s++kn0 s)),(reI,true)::(cuI s,false)::(kz s++(knN s++kn0 s)),
 (reI,false)::(cuI s,false)::kdF 1 true::kdF 4 false::(knN s++kn0 s),(reI,false)::(cuI s,false)::kdF 1 false::kdF 4 true::(.eq (gE s 4) alE7,true)::(knN s++kn0 s),
 (reI,false)::(cuI s,false)::kdF 1 false::kdF 4 false::(knN s++kn0 s),[(.lt (.v 130) (.v 60),false)]]
theorem b2i_0 (b:Bool):(b2i b==0)=!b:=by cases b<;>rfl
theorem kn_ok {s:Nat} {t:Bool} (hE0:E0.fn=fns) (B:Bd7 s E0) (J:J7 s t E0 E): ∃K∈kn s,Facts E K:=by
 by_cases hlt:E.i 130<E0.i 60
 rotate_left
 ·refine ⟨_,List.Mem.tail _ (.tail _ (.tail _ (.tail _ (.tail _ (.tail _ (.head _)))))),facts_cons.2 ⟨lt_f.2 ?_,facts_nil.2 trivial⟩⟩
  show E.i 60≤E.i 130
  rw [J.ag.i 60 (by decide)];omega
 have i0:=J.i0
 have fn:E.fn=fns:=J.ag.fn.trans hE0
 have a5:E.a 5=E0.a 5:=J.ag.a 5 (by decide)
 have i60:E.i 60=E0.i 60:=J.ag.i 60 (by decide)
 have hi:E.i 130=((E.i 130).toNat:Int):=by omega
 have hn:(E.i 130).toNat<(E0.i 60).toNat:=by omega
 have I:=J.inv B
 have C:=cols_at B.T (by have:=B.s2;omega) hn I J.R
 have hA:=asI_den (E:=E) B.s2 t hi
 have hC:=cuI_den (E:=E) (s:=s) t hi
 have hR:=reI_den (E:=E) t hi
 have hO:=olI_den (E:=E) t hi
 rw [a5] at hA hC hR hO
 have G:=fun c=>gE_den (E:=E) fn (s:=s) hi c
 rw [a5] at G
 have L:=lE_den (E:=E) fn (s:=s) hi
 rw [a5] at L
 have r0:(rs7 0).den E=kdA (E0.a 5) (E.i 130).toNat:=by rw [←a5];exact rs7_den (E:=E) hi 0 (by omega)
 have r1:(rs7 1).den E=ecA (E0.a 5) (E.i 130).toNat:=by rw [←a5];exact rs7_den (E:=E) hi 1 (by omega)
 have r2:(rs7 2).den E=pnA (E0.a 5) (E.i 130).toNat:=by rw [←a5];exact rs7_den (E:=E) hi 2 (by omega)
 have r3:(rs7 3).den E=tmA (E0.a 5) (E.i 130).toNat:=by rw [←a5];exact rs7_den (E:=E) hi 3 (by omega)
 have hk: ∀n,(kdF n true).1.den E=(kdA (E0.a 5) (E.i 130).toNat==n):=fun n=>by
  show ((rs7 0).den E==n)=_
  rw [r0]
 have hrn:rN7.den E=(rgN (hvD (E.a 100) (E.a 101)) (E.i 112+1).toNat:Int):=by
  show E.fn.f 33 [.a (E.a 100),.a (E.a 101),.i (E.i 112)]=_
  rw [fn];rfl
 have hrb:rB7.den E=rgB (hvD (E.a 100) (E.a 101)) (E.i 112+1).toNat:=by
  funext z
  show E.fn.a 32 [.a (E.a 100),.a (E.a 101),.i (E.i 112)] z=_
  rw [fn];rfl
 have hcc:(col s 2).den E=colC (rowS s (E0.a 5)):=by
  funext z
  unfold col rowS
  by_cases c:s=2
  ·rw [if_pos c,if_pos (by omega),←a5]
   show E.fn.a 22 [.a (E.a 5)] _=_
   rw [fn];rfl
  ·rw [if_neg c,if_neg (by omega),←a5]
   show E.fn.a 25 [.a (E.a 5)] _=_
   rw [fn];rfl
 have hrl:rgN (hvD (E.a 100) (E.a 101)) (E.i 112+1).toNat≤51:=by
  have:=(rel_rg I J.R).1
  have h2:=I.n1
  have e:(spOf E t).H=hvD (E.a 100) (E.a 101):=rfl
  have e2:(spOf E t).la=E.i 112:=rfl
  rw [e,e2] at this
  omega
 have K0:Facts E (kn0 s):=by
  have h1:=B.T.kd _ hn;have h2:=B.T.ec _ hn;have h3:=B.T.pn _ hn;have h4:=B.T.tm _ hn;have h5:=C.lb
  have h6:Facts E hs7:=by
   simp only [hs7,bd,List.cons_append,List.nil_append,facts_cons,facts_nil,le_t,d_c,and_true]
   rw [r0,r1,r2,r3]
   omega
  have h7':Facts E (h7 s):=by
   unfold h7
   refine facts_app.2 ⟨h6,?_⟩
   split
   ·exact facts_nil.2 trivial
   ·rename_i c
    have k2:=fun h=>(B.T.ig _ hn h).2
    have k4:=B.T.k4 _ hn
    refine facts_cons.2 ⟨?_,facts_cons.2 ⟨?_,facts_nil.2 trivial⟩⟩
    ·exact eq_f.2 (by rw [r0];intro h;have:=k2 h;omega)
    ·exact eq_f.2 (by rw [r0];intro h;have:=k4 h;omega)
  unfold kn0
  refine facts_cons.2 ⟨lt_t.2 (by show E.i 130<E.i 60;omega),facts_cons.2 ⟨le_t.2 ?_,facts_cons.2 ⟨le_t.2 ?_,facts_cons.2 ⟨le_t.2 ?_,facts_cons.2 ⟨le_t.2 ?_,h7'⟩⟩⟩⟩⟩
  ·show 0≤(SE.rd (col s 1) (.v 130)).den E
   rw [L];omega
  ·show (SE.rd (col s 1) (.v 130)).den E≤64
   rw [L];omega
  ·rw [hrn];show (0:Int)≤_;omega
  ·rw [hrn];show _≤(64:Int);omega
 have hdl:(dlE7 s).den E=if s=2 then imx 0 (tmA (E0.a 5) (E.i 130).toNat - E.i 113) else 0:=by
  unfold dlE7
  by_cases c:s=2
  ·rw [if_pos c,if_pos c]
   show imx 0 ((rs7 3).den E - E.i 113)=_
   rw [r3]
  ·rw [if_neg c,if_neg c];rfl
 have hs:((s:Int)=2)=(s=2):=by apply propext;omega
 cases hAv:asS s (spOf E t) (kdA (E0.a 5) (E.i 130).toNat) (tmA (E0.a 5) (E.i 130).toNat) (onA (E0.a 5) (E.i 130).toNat)
 rotate_left
 ·
  rw [hAv] at hA C
  have hkd:kdA (E0.a 5) (E.i 130).toNat=1:=by
   unfold asS at hAv
   rw [Bool.and_eq_true,beq_iff_eq] at hAv
   exact hAv.1
  refine ⟨_,List.Mem.head _,facts_app.2 ⟨?_,K0⟩⟩
  unfold knF
  refine facts_cons.2 ⟨hA,facts_cons.2 ⟨?_,facts_cons.2 ⟨?_,facts_cons.2 ⟨?_,facts_cons.2 ⟨?_,facts_cons.2 ⟨?_,facts_cons.2 ⟨?_,facts_cons.2 ⟨?_,facts_cons.2 ⟨?_,facts_cons.2 ⟨?_,facts_nil.2 trivial⟩⟩⟩⟩⟩⟩⟩⟩⟩⟩
  ·exact (hk 1).trans (by rw [hkd];rfl)
  ·exact (hk 4).trans (by rw [hkd];rfl)
  ·have:=C.is'
   refine eq_f.2 ?_
   rw [G 0]
   show gcol s (E0.a 5) ((E.i 130).toNat*8)≠0
   rw [this];show b2i true≠0;decide
  ·have:=C.wr
   refine eq_t.2 ?_
   rw [G 1,this,hkd]
   show b2i (false&&_)=0
   rfl
  ·refine (g12 fn _ _ _ _ _).2 ⟨?_,fun j hj=>?_⟩
   ·show (lE7 s).den E=_
    rw [hrn];unfold lE7;rw [L,C.ln,if_pos rfl];rfl
   ·have hj':(j:Int)<(lE7 s).den E*2:=hj
    have e1:(lE7 s).den E=(rgN (hvD (E.a 100) (E.a 101)) (E.i 112+1).toNat:Int):=by unfold lE7;rw [L,C.ln,if_pos rfl];rfl
    rw [e1] at hj'
    have hm:((SE.mul (.v 130) (.c 128)).den E).toNat+j=(E.i 130).toNat*128+j:=by
     show (E.i 130*128).toNat+j=_
     omega
    rw [hm,hcc,hrb]
    exact C.rg rfl j (by show j<rgN (hvD (E.a 100) (E.a 101)) (E.i 112+1).toNat*2;omega)
  ·refine eq_t.2 ?_
   rw [G 3,C.dl,if_pos rfl,hdl]
   show (if (s:Int)=2 then imx 0 (tmA (E0.a 5) (E.i 130).toNat - E.i 113) else 0)=_
   by_cases c:s=2
   ·rw [if_pos c,if_pos (by omega)]
   ·rw [if_neg c,if_neg (by omega)]
  ·exact eq_t.2 (by rw [G 5,C.e0,if_pos rfl];rfl)
  ·exact eq_t.2 (by rw [G 6,C.e1,if_pos rfl];rfl)
  ·exact eq_t.2 (by rw [G 7,C.ce,if_pos rfl];rfl)
 rw [hAv] at hA C
 have g0:(SB.eq (gE s 0) (.c 0)).den E=!(decide (kdA (E0.a 5) (E.i 130).toNat=3)&&olS (spOf E t) (pnA (E0.a 5) (E.i 130).toNat)):=by
  show ((gE s 0).den E==0)=_
  rw [G 0]
  show (gcol s (E0.a 5) ((E.i 130).toNat*8)==0)=_
  rw [C.is',b2i_0,Bool.false_or]
 have g1:(SB.eq (gE s 1) (.c 0)).den E=!(decide (kdA (E0.a 5) (E.i 130).toNat=0)&&olS (spOf E t) (pnA (E0.a 5) (E.i 130).toNat)):=by
  show ((gE s 1).den E==0)=_
  rw [G 1,C.wr,b2i_0]
 have kb: ∀n:Int,(kdA (E0.a 5) (E.i 130).toNat==n)=decide (kdA (E0.a 5) (E.i 130).toNat=n):=fun _=>rfl
 have KN:Facts E (knN s++kn0 s):=by
  refine facts_app.2 ⟨?_,K0⟩
  unfold knN
  refine facts_cons.2 ⟨hA,facts_cons.2 ⟨?_,facts_cons.2 ⟨?_,facts_cons.2 ⟨?_,facts_cons.2 ⟨?_,facts_cons.2 ⟨?_,facts_cons.2 ⟨?_,facts_cons.2 ⟨?_,facts_nil.2 trivial⟩⟩⟩⟩⟩⟩⟩⟩
  ·show ((!(SB.eq (gE s 0) (.c 0)).den E)==((kdF 3 true).1.den E&&olI.den E))=true
   rw [g0,hk 3,hO,Bool.not_not,kb];exact beq_self_eq_true _
  ·show ((!(SB.eq (gE s 1) (.c 0)).den E)==((kdF 0 true).1.den E&&olI.den E))=true
   rw [g1,hk 0,hO,Bool.not_not,kb];exact beq_self_eq_true _
  ·refine (g12 fn _ _ _ _ _).2 ⟨?_,fun j hj=>?_⟩
   ·show (lE7 s).den E=_
    unfold lE7;rw [L,C.ln,if_neg (by decide)];rfl
   ·have hj':(j:Int)<(lE7 s).den E*2:=hj
    have e1:(lE7 s).den E=0:=by unfold lE7;rw [L,C.ln,if_neg (by decide)]
    omega
  ·exact eq_t.2 (by rw [G 3,C.dl,if_neg (by decide)];rfl)
  ·exact eq_t.2 (by rw [G 5,C.e0,if_neg (by decide)];rfl)
  ·exact eq_t.2 (by rw [G 6,C.e1,if_neg (by decide)];rfl)
  ·exact eq_t.2 (by rw [G 7,C.ce,if_neg (by decide)];rfl)
 have KZ:kdA (E0.a 5) (E.i 130).toNat=2∨(kdA (E0.a 5) (E.i 130).toNat=0∧olS (spOf E t) (pnA (E0.a 5) (E.i 130).toNat)=false)→Facts E (kz s):=fun h=>by
  unfold kz
  refine facts_cons.2 ⟨?_,facts_cons.2 ⟨?_,facts_cons.2 ⟨?_,facts_cons.2 ⟨?_,facts_nil.2 trivial⟩⟩⟩⟩
  ·refine (hk 1).trans ?_;rcases h with h|⟨h,_⟩<;>rw [h]<;>rfl
  ·refine (hk 4).trans ?_;rcases h with h|⟨h,_⟩<;>rw [h]<;>rfl
  ·rw [g0];rcases h with h|⟨h,_⟩<;>rw [h]<;>rfl
  ·rw [g1];rcases h with h|⟨h,q⟩
   ·rw [h];rfl
   ·rw [h,q];rfl
 cases hCv:cuS s (spOf E t) (kdA (E0.a 5) (E.i 130).toNat) (pnA (E0.a 5) (E.i 130).toNat)
 rotate_left
 ·rw [hCv] at hC
  have hkd:kdA (E0.a 5) (E.i 130).toNat=2:=by
   unfold cuS at hCv
   rw [Bool.and_eq_true,beq_iff_eq] at hCv
   exact hCv.1
  exact ⟨_,.tail _ (.head _),facts_cons.2 ⟨hC,facts_cons.2 ⟨(hk 2).trans (by rw [hkd];rfl),facts_app.2 ⟨KZ (.inl hkd),KN⟩⟩⟩⟩
 rw [hCv] at hC
 cases hRv:reS (spOf E t) (kdA (E0.a 5) (E.i 130).toNat) (pnA (E0.a 5) (E.i 130).toNat)
 rotate_left
 ·rw [hRv] at hR
  have hkd:kdA (E0.a 5) (E.i 130).toNat=0∧olS (spOf E t) (pnA (E0.a 5) (E.i 130).toNat)=false:=by
   unfold reS at hRv
   rw [Bool.and_eq_true,beq_iff_eq,Bool.not_eq_true'] at hRv
   exact hRv
  exact ⟨_,.tail _ (.tail _ (.head _)),facts_cons.2 ⟨hR,facts_cons.2 ⟨hC,facts_app.2 ⟨KZ (.inr hkd),KN⟩⟩⟩⟩
 rw [hRv] at hR
 by_cases k1:kdA (E0.a 5) (E.i 130).toNat=1
 ·exact ⟨_,.tail _ (.tail _ (.tail _ (.head _))),facts_cons.2 ⟨hR,facts_cons.2 ⟨hC,facts_cons.2 ⟨(hk 1).trans (by rw [k1];rfl),facts_cons.2 ⟨(hk 4).trans (by rw [k1];rfl),KN⟩⟩⟩⟩⟩
 have k1':(kdA (E0.a 5) (E.i 130).toNat==1)=false:=by rw [kb];exact decide_eq_false k1
 by_cases k4:kdA (E0.a 5) (E.i 130).toNat=4
 ·refine ⟨_,.tail _ (.tail _ (.tail _ (.tail _ (.head _)))),facts_cons.2 ⟨hR,facts_cons.2 ⟨hC,facts_cons.2 ⟨(hk 1).trans k1',facts_cons.2 ⟨(hk 4).trans (by rw [k4];rfl),facts_cons.2 ⟨?_,KN⟩⟩⟩⟩⟩⟩
  refine eq_t.2 ?_
  rw [G 4,C.al k4]
  show (if 0<E.i 114∧E.b 116=false then E.i 115+25000000 else 0)=if ((kdF 4 true).1.den E&&(decide (0<E.i 114)&&!E.b 116))=true then E.i 115+25000000 else 0
  rw [hk 4,k4]
  by_cases c:0<E.i 114
  ·rw [decide_eq_true c]
   cases E.b 116
   ·rw [if_pos ⟨c,rfl⟩];rfl
   ·rw [if_neg (fun h=>by cases h.2)];rfl
  ·rw [decide_eq_false c,if_neg (fun h=>c h.1)];rfl
 have k4':(kdA (E0.a 5) (E.i 130).toNat==4)=false:=by rw [kb];exact decide_eq_false k4
 exact ⟨_,.tail _ (.tail _ (.tail _ (.tail _ (.tail _ (.head _))))),facts_cons.2 ⟨hR,facts_cons.2 ⟨hC,facts_cons.2 ⟨(hk 1).trans k1',facts_cons.2 ⟨(hk 4).trans k4',KN⟩⟩⟩⟩⟩
end
end Go.Proofs.Ytgianhjmjiiadaa
end
section
set_option autoImplicit true
set_option relaxedAutoImplicit true
set_option linter.unusedVariables false
set_option maxRecDepth 100000
namespace Go.Proofs.Ytgianhjmjiiadaa
open Go Go.Sy Go.RowKit
def k7f0:SB×Bool:=((.le (.c 0) (.v 60)),true)
def k7f1:SB×Bool:=((.le (.v 60) (.c 60)),true)
def k7f2:SB×Bool:=((.ap 32 (.a (.v 100) .nil)),true)
def k7f3:SB×Bool:=((.le (.c (-1)) (.v 110)),true)
def k7f4:SB×Bool:=((.le (.v 110) (.c 100)),true)
def k7f5:SB×Bool:=((.le (.c 0) (.v 111)),true)
def k7f6:SB×Bool:=((.le (.v 111) (.c 100)),true)
def k7f7:SB×Bool:=((.le (.c (-1)) (.v 112)),true)
def k7f8:SB×Bool:=((.le (.v 112) (.c 100)),true)
def k7f9:SB×Bool:=((.le (.c 0) (.v 113)),true)
def k7f10:SB×Bool:=((.le (.v 113) (.c 1000000000)),true)
def k7f11:SB×Bool:=((.le (.c 0) (.v 114)),true)
def k7f12:SB×Bool:=((.le (.v 114) (.c 100)),true)
def k7f13:SB×Bool:=((.le (.c 0) (.v 115)),true)
def k7f14:SB×Bool:=((.le (.v 115) (.c 1000000000)),true)
def k7f15:SB×Bool:=((.le (.c 0) (.v 117)),true)
def k7f16:SB×Bool:=((.le (.v 117) (.c 100)),true)
def k7f17:SB×Bool:=((.le (.c 0) (.v 118)),true)
def k7f18:SB×Bool:=((.le (.v 118) (.c 100)),true)
def k7f19:SB×Bool:=((.le (.c 0) (.v 119)),true)
def k7f20:SB×Bool:=((.le (.v 119) (.c 100)),true)
def k7f21:SB×Bool:=((.le (.c 0) (.v 130)),true)
def k7f22:SB×Bool:=((.le (.v 130) (.c 60)),true)
def k7f23:SB×Bool:=((.lt (.v 130) (.v 60)),true)
def k7f24:SB×Bool:=((.le (.c 0) zc),true)
def k7f25:SB×Bool:=((.le zc (.c 4)),true)
def k7f26:SB×Bool:=((.le (.c 0) (.rd (.v 5) (.add (.mul (.v 130) (.c 6)) (.c 1)))),true)
def k7f27:SB×Bool:=((.le (.rd (.v 5) (.add (.mul (.v 130) (.c 6)) (.c 1))) (.c 3)),true)
def k7f28:SB×Bool:=((.le (.c 0) (.rd (.v 5) (.add (.mul (.v 130) (.c 6)) (.c 2)))),true)
def k7f29:SB×Bool:=((.le (.rd (.v 5) (.add (.mul (.v 130) (.c 6)) (.c 2))) (.c 99)),true)
def k7f30:SB×Bool:=((.le (.c 0) (.rd (.v 5) (.add (.mul (.v 130) (.c 6)) (.c 3)))),true)
def k7f31:SB×Bool:=((.le (.rd (.v 5) (.add (.mul (.v 130) (.c 6)) (.c 3))) (.c 1000000000)),true)
def k7f32:SB×Bool:=(ze,true)
def k7f33:SB×Bool:=((.eq zc (.c 1)),true)
def k7f34:SB×Bool:=((.eq zc (.c 4)),false)
def k7f35:SB×Bool:=((.eq zc (.c 2)),false)
def k7f36:SB×Bool:=(zf,false)
def k7f37:SB×Bool:=((.ap 11 (.a (.v 5) (.i (.v 60) (.i (.c 2) .nil)))),true)
def k7f38:SB×Bool:=(zg,true)
def k7f39:SB×Bool:=((.eq (.rd (.ap 23 (.a (.v 5) .nil)) zh) (.c 0)),true)
def k7f40:SB×Bool:=((.ap 11 (.a (.v 5) (.i (.v 60) (.i (.c 0) .nil)))),true)
def k7f41:SB×Bool:=((.ap 11 (.a (.v 5) (.i (.v 60) (.i (.c 1) .nil)))),true)
def k7f42:SB×Bool:=((.le (.c 0) zi),true)
def k7f43:SB×Bool:=((.le zi (.c 64)),true)
def k7f44:SB×Bool:=(zj,false)
def k7f45:SB×Bool:=((.eq (.rd (.ap 23 (.a (.v 5) .nil)) (.mul (.v 130) (.c 8))) (.c 0)),true)
def k7f46:SB×Bool:=(zk,false)
def k7f47:SB×Bool:=(zl,true)
def k7f48:SB×Bool:=(zl,false)
def k7f49:SB×Bool:=((.eq (.rd (.ap 20 (.a (.v 5) .nil)) zh) (.c 0)),true)
def k7f50:SB×Bool:=((.eq (.rd (.ap 23 (.a (.v 5) .nil)) zm) (.c 0)),true)
def k7f51:SB×Bool:=((.ap 12 (.a (.ap 25 (.a (.v 5) .nil)) (.i (.mul (.v 130) (.c 128)) (.i zi (.a (.v 50) (.i (.c 0) .nil)))))),true)
def k7f52:SB×Bool:=((.le (.c 0) zn),true)
def k7f53:SB×Bool:=((.eq (.rd (.ap 23 (.a (.v 5) .nil)) (.mul (.v 130) (.c 8))) (.c 0)),false)
def k7f54:SB×Bool:=((.le (.c 0) (.ap 33 (.a (.v 100) (.a (.v 101) (.i (.v 112) .nil))))),true)
def k7f55:SB×Bool:=(zf,true)
def k7f56:SB×Bool:=((.le zn (.c 64)),true)
def k7f57:SB×Bool:=((.le (.ap 33 (.a (.v 100) (.a (.v 101) (.i (.v 112) .nil)))) (.c 64)),true)
def k7f58:SB×Bool:=(zo,false)
def k7f59:SB×Bool:=((.eq (.rd (.ap 20 (.a (.v 5) .nil)) (.mul (.v 130) (.c 8))) (.c 0)),true)
def k7f60:SB×Bool:=(zj,true)
def k7f61:SB×Bool:=((.beq (.not (.eq (.rd (.ap 23 (.a (.v 5) .nil)) (.mul (.v 130) (.c 8))) (.c 0))) zp),true)
def k7f62:SB×Bool:=((.eq zu (.c 0)),true)
def k7f63:SB×Bool:=((.beq (.not (.eq (.rd (.ap 23 (.a (.v 5) .nil)) zh) (.c 0))) zw),true)
def k7f64:SB×Bool:=((.eq zc (.c 1)),false)
def k7f65:SB×Bool:=((.eq (.rd (.ap 20 (.a (.v 5) .nil)) (.mul (.v 130) (.c 8))) (.c 0)),false)
def k7f66:SB×Bool:=((.ap 12 (.a (.ap 22 (.a (.v 5) .nil)) (.i (.mul (.v 130) (.c 128)) (.i zn (.a (.v 50) (.i (.c 0) .nil)))))),true)
def k7f67:SB×Bool:=(zk,true)
def k7f68:SB×Bool:=((.eq zx (.c 0)),true)
def k7f69:SB×Bool:=(zo,true)
def k7f70:SB×Bool:=((.eq z5 (.c 0)),true)
def k7f71:SB×Bool:=((.beq (.not (.eq (.rd (.ap 20 (.a (.v 5) .nil)) (.mul (.v 130) (.c 8))) (.c 0))) zp),true)
def k7f72:SB×Bool:=((.beq (.not (.eq (.rd (.ap 20 (.a (.v 5) .nil)) zh) (.c 0))) zw),true)
def k7f73:SB×Bool:=((.ap 12 (.a (.ap 25 (.a (.v 5) .nil)) (.i (.mul (.v 130) (.c 128)) (.i zi (.a (.ap 32 (.a (.v 100) (.a (.v 101) (.i (.v 112) .nil)))) (.i (.ap 33 (.a (.v 100) (.a (.v 101) (.i (.v 112) .nil)))) .nil)))))),true)
def k7f74:SB×Bool:=((.eq z6 (.c 0)),true)
def k7f75:SB×Bool:=((.eq (.rd (.ap 23 (.a (.v 5) .nil)) zm) (.c 0)),false)
def k7f76:SB×Bool:=((.le zi (.c 64)),false)
def k7f77:SB×Bool:=((.le (.c 0) zi),false)
def k7f78:SB×Bool:=((.eq z7 (.c 0)),true)
def k7f79:SB×Bool:=((.eq zc (.c 4)),true)
def k7f80:SB×Bool:=((.eq zu (.v 117)),true)
def k7f81:SB×Bool:=((.eq (.rd (.ap 23 (.a (.v 5) .nil)) zh) (.c 0)),false)
def k7f82:SB×Bool:=((.eq z9 (.c 0)),true)
def k7f83:SB×Bool:=((.eq z9 (.c 0)),false)
def k7f84:SB×Bool:=((.eq z5 (.c 0)),false)
def k7f85:SB×Bool:=((.eq zu (.c 0)),false)
def k7f86:SB×Bool:=((.ap 12 (.a (.ap 25 (.a (.v 5) .nil)) (.i (.mul (.v 130) (.c 128)) (.i zi (.a (.v 50) (.i (.c 0) .nil)))))),false)
def k7f87:SB×Bool:=((.ap 12 (.a (.ap 22 (.a (.v 5) .nil)) (.i (.mul (.v 130) (.c 128)) (.i zn (.a (.ap 32 (.a (.v 100) (.a (.v 101) (.i (.v 112) .nil)))) (.i (.ap 33 (.a (.v 100) (.a (.v 101) (.i (.v 112) .nil)))) .nil)))))),true)
def k7f88:SB×Bool:=((.eq zx (.mx (.c 0) (.sub (.rd (.v 5) (.add (.mul (.v 130) (.c 6)) (.c 3))) (.v 113)))),true)
def k7f89:SB×Bool:=((.le zn (.c 64)),false)
def k7f90:SB×Bool:=((.le (.c 0) zn),false)
def k7f91:SB×Bool:=((.eq z5 (.v 118)),true)
def k7f92:SB×Bool:=((.eq z6 (.v 117)),true)
def k7f93:SB×Bool:=((.le (.ap 33 (.a (.v 100) (.a (.v 101) (.i (.v 112) .nil)))) (.c 64)),false)
def k7f94:SB×Bool:=((.le (.c 0) (.ap 33 (.a (.v 100) (.a (.v 101) (.i (.v 112) .nil))))),false)
def k7f95:SB×Bool:=((.eq (.rd (.ap 20 (.a (.v 5) .nil)) zh) (.c 0)),false)
def k7f96:SB×Bool:=((.eq zba (.c 0)),true)
def k7f97:SB×Bool:=((.eq zba (.c 0)),false)
def k7f98:SB×Bool:=((.eq z7 (.c 0)),false)
def k7f99:SB×Bool:=((.eq z6 (.c 0)),false)
def k7f100:SB×Bool:=((.eq zx (.c 0)),false)
def k7f101:SB×Bool:=((.ap 12 (.a (.ap 22 (.a (.v 5) .nil)) (.i (.mul (.v 130) (.c 128)) (.i zn (.a (.v 50) (.i (.c 0) .nil)))))),false)
def k7f102:SB×Bool:=((.le (.rd (.v 5) (.add (.mul (.v 130) (.c 6)) (.c 3))) (.c 1000000000)),false)
def k7f103:SB×Bool:=((.le (.c 0) (.rd (.v 5) (.add (.mul (.v 130) (.c 6)) (.c 3)))),false)
def k7f104:SB×Bool:=((.le (.rd (.v 5) (.add (.mul (.v 130) (.c 6)) (.c 2))) (.c 99)),false)
def k7f105:SB×Bool:=((.le (.c 0) (.rd (.v 5) (.add (.mul (.v 130) (.c 6)) (.c 2)))),false)
def k7f106:SB×Bool:=((.le (.rd (.v 5) (.add (.mul (.v 130) (.c 6)) (.c 1))) (.c 3)),false)
def k7f107:SB×Bool:=((.le (.c 0) (.rd (.v 5) (.add (.mul (.v 130) (.c 6)) (.c 1)))),false)
def k7f108:SB×Bool:=((.le zc (.c 4)),false)
def k7f109:SB×Bool:=((.le (.c 0) zc),false)
def k7f110:SB×Bool:=((.lt (.v 130) (.v 60)),false)
def k7f111:SB×Bool:=((.eq z7 (.v 118)),true)
def k7f112:SB×Bool:=((.eq zc (.c 2)),true)
def k7f113:SB×Bool:=((.eq z9 (.v 119)),true)
def k7f114:SB×Bool:=((.eq z9 (.v 119)),false)
def k7f115:SB×Bool:=((.eq z5 (.v 118)),false)
def k7f116:SB×Bool:=((.eq zu (.v 117)),false)
def k7f117:SB×Bool:=((.ap 12 (.a (.ap 25 (.a (.v 5) .nil)) (.i (.mul (.v 130) (.c 128)) (.i zi (.a (.ap 32 (.a (.v 100) (.a (.v 101) (.i (.v 112) .nil)))) (.i (.ap 33 (.a (.v 100) (.a (.v 101) (.i (.v 112) .nil)))) .nil)))))),false)
def k7f118:SB×Bool:=((.beq (.not (.eq (.rd (.ap 23 (.a (.v 5) .nil)) zh) (.c 0))) zw),false)
def k7f119:SB×Bool:=((.beq (.not (.eq (.rd (.ap 23 (.a (.v 5) .nil)) (.mul (.v 130) (.c 8))) (.c 0))) zp),false)
def k7f120:SB×Bool:=((.eq zbb (.c 0)),true)
def k7f121:SB×Bool:=((.eq zbb (.c 0)),false)
def k7f122:SB×Bool:=((.eq zba (.v 119)),true)
def k7f123:SB×Bool:=((.eq zba (.v 119)),false)
def k7f124:SB×Bool:=((.eq z7 (.v 118)),false)
def k7f125:SB×Bool:=((.eq z6 (.v 117)),false)
def k7f126:SB×Bool:=((.eq zx (.mx (.c 0) (.sub (.rd (.v 5) (.add (.mul (.v 130) (.c 6)) (.c 3))) (.v 113)))),false)
def k7f127:SB×Bool:=((.ap 12 (.a (.ap 22 (.a (.v 5) .nil)) (.i (.mul (.v 130) (.c 128)) (.i zn (.a (.ap 32 (.a (.v 100) (.a (.v 101) (.i (.v 112) .nil)))) (.i (.ap 33 (.a (.v 100) (.a (.v 101) (.i (.v 112) .nil)))) .nil)))))),false)
def k7f128:SB×Bool:=((.beq (.not (.eq (.rd (.ap 20 (.a (.v 5) .nil)) zh) (.c 0))) zw),false)
def k7f129:SB×Bool:=((.beq (.not (.eq (.rd (.ap 20 (.a (.v 5) .nil)) (.mul (.v 130) (.c 8))) (.c 0))) zp),false)
def k7f130:SB×Bool:=((.eq zbb (.ite (.and (.eq zc (.c 4)) (.and (.lt (.c 0) (.v 114)) (.not (.v 116)))) (.add (.v 115) (.c 25000000)) (.c 0))),true)
def k7f131:SB×Bool:=((.eq zbb (.ite (.and (.eq zc (.c 4)) (.and (.lt (.c 0) (.v 114)) (.not (.v 116)))) (.add (.v 115) (.c 25000000)) (.c 0))),false)
def k7q0:List Eqn:=[.b (.c false) (.c true),.a (.v 5) (.v 5) (.v 60) 6,.i (.v 60) (.v 60)]
def k7q16:List Eqn:=[.a (.v 5) (.v 5) (.v 60) 6,.i (.v 60) (.v 60)]
def k7t0:Fx:=[k7f2,k7f3,k7f4,k7f5,k7f6,k7f7,k7f8,k7f9,k7f10,k7f11,k7f12,k7f13,k7f14,k7f15,k7f16,k7f17,k7f18,k7f19,k7f20,k7f21,k7f22]
def k7t1:Fx:=k7f0::k7f1::k7f37::k7f38::k7t0
def k7t2:Fx:=k7f23::k7t1
def k7t3:Fx:=k7f24::k7t2
def k7t4:Fx:=k7f25::k7t3
def k7t5:Fx:=k7f26::k7t4
def k7t6:Fx:=k7f27::k7t5
def k7t7:Fx:=k7f28::k7t6
def k7t8:Fx:=k7f29::k7t7
def k7t9:Fx:=k7f30::k7t8
def k7t10:Fx:=k7f31::k7t9
def k7t11:Fx:=k7f67::k7t10
def k7t12:Fx:=k7f59::k7t11
def k7t13:Fx:=k7f65::k7t11
def k7t14:Fx:=k7f49::k7t13
def k7t15:Fx:=k7f33::k7t14
def k7t16:Fx:=k7f54::k7t15
def k7t17:Fx:=k7f57::k7t16
def k7t18:Fx:=k7f52::k7t17
def k7t19:Fx:=k7f56::k7t18
def k7t20:Fx:=k7f87::k7t19
def k7t21:Fx:=k7f88::k7t20
def k7t22:Fx:=k7f92::k7t21
def k7t23:Fx:=k7f111::k7t22
def k7t24:Fx:=k7f122::k7t23
def k7t25:Fx:=k7f123::k7t23
def k7t26:Fx:=k7f124::k7t22
def k7t27:Fx:=k7f125::k7t21
def k7t28:Fx:=k7f126::k7t20
def k7t29:Fx:=k7f127::k7t19
def k7t30:Fx:=k7f89::k7t18
def k7t31:Fx:=k7f90::k7t17
def k7t32:Fx:=k7f93::k7t16
def k7t33:Fx:=k7f94::k7t15
def k7t34:Fx:=k7f64::k7t14
def k7t35:Fx:=k7f95::k7t13
def k7t36:Fx:=k7f46::k7t10
def k7t37:Fx:=k7f69::k7t36
def k7t38:Fx:=k7f59::k7t37
def k7t39:Fx:=k7f49::k7t38
def k7t40:Fx:=k7f33::k7t39
def k7t41:Fx:=k7f52::k7t40
def k7t42:Fx:=k7f56::k7t41
def k7t43:Fx:=k7f66::k7t42
def k7t44:Fx:=k7f68::k7t43
def k7t45:Fx:=k7f74::k7t44
def k7t46:Fx:=k7f78::k7t45
def k7t47:Fx:=k7f96::k7t46
def k7t48:Fx:=k7f97::k7t46
def k7t49:Fx:=k7f98::k7t45
def k7t50:Fx:=k7f99::k7t44
def k7t51:Fx:=k7f100::k7t43
def k7t52:Fx:=k7f101::k7t42
def k7t53:Fx:=k7f89::k7t41
def k7t54:Fx:=k7f90::k7t40
def k7t55:Fx:=k7f64::k7t39
def k7t56:Fx:=k7f95::k7t38
def k7t57:Fx:=k7f65::k7t37
def k7t58:Fx:=k7f58::k7t36
def k7t59:Fx:=k7f47::k7t58
def k7t60:Fx:=k7f59::k7t59
def k7t61:Fx:=k7f49::k7t60
def k7t62:Fx:=k7f33::k7t61
def k7t63:Fx:=k7f52::k7t62
def k7t64:Fx:=k7f56::k7t63
def k7t65:Fx:=k7f66::k7t64
def k7t66:Fx:=k7f68::k7t65
def k7t67:Fx:=k7f74::k7t66
def k7t68:Fx:=k7f78::k7t67
def k7t69:Fx:=k7f96::k7t68
def k7t70:Fx:=k7f97::k7t68
def k7t71:Fx:=k7f98::k7t67
def k7t72:Fx:=k7f99::k7t66
def k7t73:Fx:=k7f100::k7t65
def k7t74:Fx:=k7f101::k7t64
def k7t75:Fx:=k7f89::k7t63
def k7t76:Fx:=k7f90::k7t62
def k7t77:Fx:=k7f64::k7t61
def k7t78:Fx:=k7f95::k7t60
def k7t79:Fx:=k7f65::k7t59
def k7t80:Fx:=k7f48::k7t58
def k7t81:Fx:=k7f71::k7t80
def k7t82:Fx:=k7f72::k7t81
def k7t83:Fx:=k7f33::k7t82
def k7t84:Fx:=k7f52::k7t83
def k7t85:Fx:=k7f56::k7t84
def k7t86:Fx:=k7f66::k7t85
def k7t87:Fx:=k7f68::k7t86
def k7t88:Fx:=k7f74::k7t87
def k7t89:Fx:=k7f78::k7t88
def k7t90:Fx:=k7f96::k7t89
def k7t91:Fx:=k7f97::k7t89
def k7t92:Fx:=k7f98::k7t88
def k7t93:Fx:=k7f99::k7t87
def k7t94:Fx:=k7f100::k7t86
def k7t95:Fx:=k7f101::k7t85
def k7t96:Fx:=k7f89::k7t84
def k7t97:Fx:=k7f90::k7t83
def k7t98:Fx:=k7f64::k7t82
def k7t99:Fx:=k7f128::k7t81
def k7t100:Fx:=k7f129::k7t80
def k7t101:Fx:=k7f102::k7t9
def k7t102:Fx:=k7f103::k7t8
def k7t103:Fx:=k7f104::k7t7
def k7t104:Fx:=k7f105::k7t6
def k7t105:Fx:=k7f106::k7t5
def k7t106:Fx:=k7f107::k7t4
def k7t107:Fx:=k7f108::k7t3
def k7t108:Fx:=k7f109::k7t2
def k7t109:Fx:=k7f110::k7t1
def k7t110:Fx:=k7f79::k7t34
def k7t111:Fx:=k7f79::k7t55
def k7t112:Fx:=k7f79::k7t77
def k7t113:Fx:=k7f79::k7t98
def k7t114:Fx:=k7f32::k7t0
def k7t115:Fx:=k7f0::k7f1::k7f40::k7t114
def k7t116:Fx:=k7f23::k7t115
def k7t117:Fx:=k7f24::k7t116
def k7t118:Fx:=k7f25::k7t117
def k7t119:Fx:=k7f26::k7t118
def k7t120:Fx:=k7f27::k7t119
def k7t121:Fx:=k7f28::k7t120
def k7t122:Fx:=k7f29::k7t121
def k7t123:Fx:=k7f30::k7t122
def k7t124:Fx:=k7f31::k7t123
def k7t125:Fx:=k7f112::k7t124
def k7t126:Fx:=k7f35::k7t124
def k7t127:Fx:=k7f79::k7t126
def k7t128:Fx:=k7f34::k7t126
def k7t129:Fx:=k7f55::k7t128
def k7t130:Fx:=k7f45::k7t129
def k7t131:Fx:=k7f53::k7t129
def k7t132:Fx:=k7f39::k7t131
def k7t133:Fx:=k7f33::k7t132
def k7t134:Fx:=k7f54::k7t133
def k7t135:Fx:=k7f57::k7t134
def k7t136:Fx:=k7f42::k7t135
def k7t137:Fx:=k7f43::k7t136
def k7t138:Fx:=k7f73::k7t137
def k7t139:Fx:=k7f50::k7t138
def k7t140:Fx:=k7f80::k7t139
def k7t141:Fx:=k7f91::k7t140
def k7t142:Fx:=k7f113::k7t141
def k7t143:Fx:=k7f114::k7t141
def k7t144:Fx:=k7f115::k7t140
def k7t145:Fx:=k7f116::k7t139
def k7t146:Fx:=k7f75::k7t138
def k7t147:Fx:=k7f117::k7t137
def k7t148:Fx:=k7f76::k7t136
def k7t149:Fx:=k7f77::k7t135
def k7t150:Fx:=k7f93::k7t134
def k7t151:Fx:=k7f94::k7t133
def k7t152:Fx:=k7f64::k7t132
def k7t153:Fx:=k7f81::k7t131
def k7t154:Fx:=k7f36::k7t128
def k7t155:Fx:=k7f60::k7t154
def k7t156:Fx:=k7f45::k7t155
def k7t157:Fx:=k7f39::k7t156
def k7t158:Fx:=k7f33::k7t157
def k7t159:Fx:=k7f42::k7t158
def k7t160:Fx:=k7f43::k7t159
def k7t161:Fx:=k7f51::k7t160
def k7t162:Fx:=k7f50::k7t161
def k7t163:Fx:=k7f62::k7t162
def k7t164:Fx:=k7f70::k7t163
def k7t165:Fx:=k7f82::k7t164
def k7t166:Fx:=k7f83::k7t164
def k7t167:Fx:=k7f84::k7t163
def k7t168:Fx:=k7f85::k7t162
def k7t169:Fx:=k7f75::k7t161
def k7t170:Fx:=k7f86::k7t160
def k7t171:Fx:=k7f76::k7t159
def k7t172:Fx:=k7f77::k7t158
def k7t173:Fx:=k7f64::k7t157
def k7t174:Fx:=k7f81::k7t156
def k7t175:Fx:=k7f53::k7t155
def k7t176:Fx:=k7f44::k7t154
def k7t177:Fx:=k7f47::k7t176
def k7t178:Fx:=k7f45::k7t177
def k7t179:Fx:=k7f39::k7t178
def k7t180:Fx:=k7f33::k7t179
def k7t181:Fx:=k7f42::k7t180
def k7t182:Fx:=k7f43::k7t181
def k7t183:Fx:=k7f51::k7t182
def k7t184:Fx:=k7f50::k7t183
def k7t185:Fx:=k7f62::k7t184
def k7t186:Fx:=k7f70::k7t185
def k7t187:Fx:=k7f82::k7t186
def k7t188:Fx:=k7f83::k7t186
def k7t189:Fx:=k7f84::k7t185
def k7t190:Fx:=k7f85::k7t184
def k7t191:Fx:=k7f75::k7t183
def k7t192:Fx:=k7f86::k7t182
def k7t193:Fx:=k7f76::k7t181
def k7t194:Fx:=k7f77::k7t180
def k7t195:Fx:=k7f64::k7t179
def k7t196:Fx:=k7f81::k7t178
def k7t197:Fx:=k7f53::k7t177
def k7t198:Fx:=k7f48::k7t176
def k7t199:Fx:=k7f61::k7t198
def k7t200:Fx:=k7f63::k7t199
def k7t201:Fx:=k7f33::k7t200
def k7t202:Fx:=k7f42::k7t201
def k7t203:Fx:=k7f43::k7t202
def k7t204:Fx:=k7f51::k7t203
def k7t205:Fx:=k7f50::k7t204
def k7t206:Fx:=k7f62::k7t205
def k7t207:Fx:=k7f70::k7t206
def k7t208:Fx:=k7f82::k7t207
def k7t209:Fx:=k7f83::k7t207
def k7t210:Fx:=k7f84::k7t206
def k7t211:Fx:=k7f85::k7t205
def k7t212:Fx:=k7f75::k7t204
def k7t213:Fx:=k7f86::k7t203
def k7t214:Fx:=k7f76::k7t202
def k7t215:Fx:=k7f77::k7t201
def k7t216:Fx:=k7f64::k7t200
def k7t217:Fx:=k7f118::k7t199
def k7t218:Fx:=k7f119::k7t198
def k7t219:Fx:=k7f102::k7t123
def k7t220:Fx:=k7f103::k7t122
def k7t221:Fx:=k7f104::k7t121
def k7t222:Fx:=k7f105::k7t120
def k7t223:Fx:=k7f106::k7t119
def k7t224:Fx:=k7f107::k7t118
def k7t225:Fx:=k7f108::k7t117
def k7t226:Fx:=k7f109::k7t116
def k7t227:Fx:=k7f110::k7t115
def k7t228:Fx:=k7f0::k7f1::k7f41::k7t114
def k7t229:Fx:=k7f23::k7t228
def k7t230:Fx:=k7f24::k7t229
def k7t231:Fx:=k7f25::k7t230
def k7t232:Fx:=k7f26::k7t231
def k7t233:Fx:=k7f27::k7t232
def k7t234:Fx:=k7f28::k7t233
def k7t235:Fx:=k7f29::k7t234
def k7t236:Fx:=k7f30::k7t235
def k7t237:Fx:=k7f31::k7t236
def k7t238:Fx:=k7f112::k7t237
def k7t239:Fx:=k7f35::k7t237
def k7t240:Fx:=k7f79::k7t239
def k7t241:Fx:=k7f34::k7t239
def k7t242:Fx:=k7f55::k7t241
def k7t243:Fx:=k7f45::k7t242
def k7t244:Fx:=k7f53::k7t242
def k7t245:Fx:=k7f39::k7t244
def k7t246:Fx:=k7f33::k7t245
def k7t247:Fx:=k7f54::k7t246
def k7t248:Fx:=k7f57::k7t247
def k7t249:Fx:=k7f42::k7t248
def k7t250:Fx:=k7f43::k7t249
def k7t251:Fx:=k7f73::k7t250
def k7t252:Fx:=k7f50::k7t251
def k7t253:Fx:=k7f80::k7t252
def k7t254:Fx:=k7f91::k7t253
def k7t255:Fx:=k7f113::k7t254
def k7t256:Fx:=k7f114::k7t254
def k7t257:Fx:=k7f115::k7t253
def k7t258:Fx:=k7f116::k7t252
def k7t259:Fx:=k7f75::k7t251
def k7t260:Fx:=k7f117::k7t250
def k7t261:Fx:=k7f76::k7t249
def k7t262:Fx:=k7f77::k7t248
def k7t263:Fx:=k7f93::k7t247
def k7t264:Fx:=k7f94::k7t246
def k7t265:Fx:=k7f64::k7t245
def k7t266:Fx:=k7f81::k7t244
def k7t267:Fx:=k7f36::k7t241
def k7t268:Fx:=k7f60::k7t267
def k7t269:Fx:=k7f45::k7t268
def k7t270:Fx:=k7f39::k7t269
def k7t271:Fx:=k7f33::k7t270
def k7t272:Fx:=k7f42::k7t271
def k7t273:Fx:=k7f43::k7t272
def k7t274:Fx:=k7f51::k7t273
def k7t275:Fx:=k7f50::k7t274
def k7t276:Fx:=k7f62::k7t275
def k7t277:Fx:=k7f70::k7t276
def k7t278:Fx:=k7f82::k7t277
def k7t279:Fx:=k7f83::k7t277
def k7t280:Fx:=k7f84::k7t276
def k7t281:Fx:=k7f85::k7t275
def k7t282:Fx:=k7f75::k7t274
def k7t283:Fx:=k7f86::k7t273
def k7t284:Fx:=k7f76::k7t272
def k7t285:Fx:=k7f77::k7t271
def k7t286:Fx:=k7f64::k7t270
def k7t287:Fx:=k7f81::k7t269
def k7t288:Fx:=k7f53::k7t268
def k7t289:Fx:=k7f44::k7t267
def k7t290:Fx:=k7f47::k7t289
def k7t291:Fx:=k7f45::k7t290
def k7t292:Fx:=k7f39::k7t291
def k7t293:Fx:=k7f33::k7t292
def k7t294:Fx:=k7f42::k7t293
def k7t295:Fx:=k7f43::k7t294
def k7t296:Fx:=k7f51::k7t295
def k7t297:Fx:=k7f50::k7t296
def k7t298:Fx:=k7f62::k7t297
def k7t299:Fx:=k7f70::k7t298
def k7t300:Fx:=k7f82::k7t299
def k7t301:Fx:=k7f83::k7t299
def k7t302:Fx:=k7f84::k7t298
def k7t303:Fx:=k7f85::k7t297
def k7t304:Fx:=k7f75::k7t296
def k7t305:Fx:=k7f86::k7t295
def k7t306:Fx:=k7f76::k7t294
def k7t307:Fx:=k7f77::k7t293
def k7t308:Fx:=k7f64::k7t292
def k7t309:Fx:=k7f81::k7t291
def k7t310:Fx:=k7f53::k7t290
def k7t311:Fx:=k7f48::k7t289
def k7t312:Fx:=k7f61::k7t311
def k7t313:Fx:=k7f63::k7t312
def k7t314:Fx:=k7f33::k7t313
def k7t315:Fx:=k7f42::k7t314
def k7t316:Fx:=k7f43::k7t315
def k7t317:Fx:=k7f51::k7t316
def k7t318:Fx:=k7f50::k7t317
def k7t319:Fx:=k7f62::k7t318
def k7t320:Fx:=k7f70::k7t319
def k7t321:Fx:=k7f82::k7t320
def k7t322:Fx:=k7f83::k7t320
def k7t323:Fx:=k7f84::k7t319
def k7t324:Fx:=k7f85::k7t318
def k7t325:Fx:=k7f75::k7t317
def k7t326:Fx:=k7f86::k7t316
def k7t327:Fx:=k7f76::k7t315
def k7t328:Fx:=k7f77::k7t314
def k7t329:Fx:=k7f64::k7t313
def k7t330:Fx:=k7f118::k7t312
def k7t331:Fx:=k7f119::k7t311
def k7t332:Fx:=k7f102::k7t236
def k7t333:Fx:=k7f103::k7t235
def k7t334:Fx:=k7f104::k7t234
def k7t335:Fx:=k7f105::k7t233
def k7t336:Fx:=k7f106::k7t232
def k7t337:Fx:=k7f107::k7t231
def k7t338:Fx:=k7f108::k7t230
def k7t339:Fx:=k7f109::k7t229
def k7t340:Fx:=k7f110::k7t228
noncomputable def h7s2aex0:Vl:= .go 0 zbc zbd zbe [k7f0,k7f1,k7f37,k7f38] (.code (.loop (loopB (prm7 Try.prog 2).P 7 6))) (loopK (prm7 Try.prog 2).P 7 6)
noncomputable def h7s2ap0x0:Vl:= .out 0 k7q0 k7t12
noncomputable def h7s2ap0x1:Vl:= .go 1 zbf zbd zbg k7t24 (.exit .normal) (.loop (loopB (prm7 Try.prog 2).P 7 6)::loopK (prm7 Try.prog 2).P 7 6)
noncomputable def h7s2ap0x2:Vl:= .out 0 k7q0 k7t25
noncomputable def h7s2ap0x3:Vl:= .out 0 k7q0 k7t26
noncomputable def h7s2ap0x4:Vl:= .out 0 k7q0 k7t27
noncomputable def h7s2ap0x5:Vl:= .out 0 k7q0 k7t28
noncomputable def h7s2ap0x6:Vl:= .out 0 k7q0 k7t29
noncomputable def h7s2ap0x7:Vl:= .dead k7t30
noncomputable def h7s2ap0x8:Vl:= .dead k7t31
noncomputable def h7s2ap0x9:Vl:= .dead k7t32
noncomputable def h7s2ap0x10:Vl:= .dead k7t33
noncomputable def h7s2ap0x11:Vl:= .go 1 zbf zbd zbg (k7f120::k7t110) (.exit .normal) (.loop (loopB (prm7 Try.prog 2).P 7 6)::loopK (prm7 Try.prog 2).P 7 6)
noncomputable def h7s2ap0x12:Vl:= .out 0 k7q0 (k7f121::k7t110)
noncomputable def h7s2ap0x13:Vl:= .go 1 zbf zbd zbg (k7f34::k7t34) (.exit .normal) (.loop (loopB (prm7 Try.prog 2).P 7 6)::loopK (prm7 Try.prog 2).P 7 6)
noncomputable def h7s2ap0x14:Vl:= .out 0 k7q0 k7t35
noncomputable def h7s2ap0x15:Vl:= .go 0 zbh [] zbi k7t47 (.exit .normal) (.loop (loopB (prm7 Try.prog 2).P 7 6)::loopK (prm7 Try.prog 2).P 7 6)
noncomputable def h7s2ap0x16:Vl:= .out 0 k7q0 k7t48
noncomputable def h7s2ap0x17:Vl:= .out 0 k7q0 k7t49
noncomputable def h7s2ap0x18:Vl:= .out 0 k7q0 k7t50
noncomputable def h7s2ap0x19:Vl:= .out 0 k7q0 k7t51
noncomputable def h7s2ap0x20:Vl:= .out 0 k7q0 k7t52
noncomputable def h7s2ap0x21:Vl:= .dead k7t53
noncomputable def h7s2ap0x22:Vl:= .dead k7t54
noncomputable def h7s2ap0x23:Vl:= .go 0 zbh [] zbi (k7f120::k7t111) (.exit .normal) (.loop (loopB (prm7 Try.prog 2).P 7 6)::loopK (prm7 Try.prog 2).P 7 6)
noncomputable def h7s2ap0x24:Vl:= .out 0 k7q0 (k7f121::k7t111)
noncomputable def h7s2ap0x25:Vl:= .go 0 zbh [] zbi (k7f34::k7t55) (.exit .normal) (.loop (loopB (prm7 Try.prog 2).P 7 6)::loopK (prm7 Try.prog 2).P 7 6)
noncomputable def h7s2ap0x26:Vl:= .out 0 k7q0 k7t56
noncomputable def h7s2ap0x27:Vl:= .out 0 k7q0 k7t57
noncomputable def h7s2ap0x28:Vl:= .go 0 zbj zbk zbl k7t69 (.exit .normal) (.loop (loopB (prm7 Try.prog 2).P 7 6)::loopK (prm7 Try.prog 2).P 7 6)
noncomputable def h7s2ap0x29:Vl:= .out 0 k7q0 k7t70
noncomputable def h7s2ap0x30:Vl:= .out 0 k7q0 k7t71
noncomputable def h7s2ap0x31:Vl:= .out 0 k7q0 k7t72
noncomputable def h7s2ap0x32:Vl:= .out 0 k7q0 k7t73
noncomputable def h7s2ap0x33:Vl:= .out 0 k7q0 k7t74
noncomputable def h7s2ap0x34:Vl:= .dead k7t75
noncomputable def h7s2ap0x35:Vl:= .dead k7t76
noncomputable def h7s2ap0x36:Vl:= .go 0 zbj zbk zbl (k7f120::k7t112) (.exit .normal) (.loop (loopB (prm7 Try.prog 2).P 7 6)::loopK (prm7 Try.prog 2).P 7 6)
noncomputable def h7s2ap0x37:Vl:= .out 0 k7q0 (k7f121::k7t112)
noncomputable def h7s2ap0x38:Vl:= .go 0 zbj zbk zbl (k7f34::k7t77) (.exit .normal) (.loop (loopB (prm7 Try.prog 2).P 7 6)::loopK (prm7 Try.prog 2).P 7 6)
noncomputable def h7s2ap0x39:Vl:= .out 0 k7q0 k7t78
noncomputable def h7s2ap0x40:Vl:= .out 0 k7q0 k7t79
noncomputable def h7s2ap0x41:Vl:= .go 0 zbm [] [] k7t90 (.exit .normal) (.loop (loopB (prm7 Try.prog 2).P 7 6)::loopK (prm7 Try.prog 2).P 7 6)
noncomputable def h7s2ap0x42:Vl:= .out 0 k7q0 k7t91
noncomputable def h7s2ap0x43:Vl:= .out 0 k7q0 k7t92
noncomputable def h7s2ap0x44:Vl:= .out 0 k7q0 k7t93
noncomputable def h7s2ap0x45:Vl:= .out 0 k7q0 k7t94
noncomputable def h7s2ap0x46:Vl:= .out 0 k7q0 k7t95
noncomputable def h7s2ap0x47:Vl:= .dead k7t96
noncomputable def h7s2ap0x48:Vl:= .dead k7t97
noncomputable def h7s2ap0x49:Vl:= .go 0 zbm [] [] (k7f130::k7t113) (.exit .normal) (.loop (loopB (prm7 Try.prog 2).P 7 6)::loopK (prm7 Try.prog 2).P 7 6)
noncomputable def h7s2ap0x50:Vl:= .out 0 k7q0 (k7f131::k7t113)
noncomputable def h7s2ap0x51:Vl:= .go 0 zbm [] [] (k7f34::k7t98) (.exit .normal) (.loop (loopB (prm7 Try.prog 2).P 7 6)::loopK (prm7 Try.prog 2).P 7 6)
noncomputable def h7s2ap0x52:Vl:= .out 0 k7q0 k7t99
noncomputable def h7s2ap0x53:Vl:= .out 0 k7q0 k7t100
noncomputable def h7s2ap0x54:Vl:= .dead k7t101
noncomputable def h7s2ap0x55:Vl:= .dead k7t102
noncomputable def h7s2ap0x56:Vl:= .dead k7t103
noncomputable def h7s2ap0x57:Vl:= .dead k7t104
noncomputable def h7s2ap0x58:Vl:= .dead k7t105
noncomputable def h7s2ap0x59:Vl:= .dead k7t106
noncomputable def h7s2ap0x60:Vl:= .dead k7t107
noncomputable def h7s2ap0x61:Vl:= .dead k7t108
noncomputable def h7s2ap0x62:Vl:= .out 0 k7q16 k7t109
noncomputable def h7s2ap1x0:Vl:= .out 0 k7q0 k7t12
noncomputable def h7s2ap1x1:Vl:= .go 1 zbf zbd zbg k7t24 (.exit .normal) (.loop (loopB (prm7 Try.prog 2).P 7 6)::loopK (prm7 Try.prog 2).P 7 6)
noncomputable def h7s2ap1x2:Vl:= .out 0 k7q0 k7t25
noncomputable def h7s2ap1x3:Vl:= .out 0 k7q0 k7t26
noncomputable def h7s2ap1x4:Vl:= .out 0 k7q0 k7t27
noncomputable def h7s2ap1x5:Vl:= .out 0 k7q0 k7t28
noncomputable def h7s2ap1x6:Vl:= .out 0 k7q0 k7t29
noncomputable def h7s2ap1x7:Vl:= .dead k7t30
noncomputable def h7s2ap1x8:Vl:= .dead k7t31
noncomputable def h7s2ap1x9:Vl:= .dead k7t32
noncomputable def h7s2ap1x10:Vl:= .dead k7t33
noncomputable def h7s2ap1x11:Vl:= .go 1 zbf zbd zbg (k7f120::k7t110) (.exit .normal) (.loop (loopB (prm7 Try.prog 2).P 7 6)::loopK (prm7 Try.prog 2).P 7 6)
noncomputable def h7s2ap1x12:Vl:= .out 0 k7q0 (k7f121::k7t110)
noncomputable def h7s2ap1x13:Vl:= .go 1 zbf zbd zbg (k7f34::k7t34) (.exit .normal) (.loop (loopB (prm7 Try.prog 2).P 7 6)::loopK (prm7 Try.prog 2).P 7 6)
noncomputable def h7s2ap1x14:Vl:= .out 0 k7q0 k7t35
noncomputable def h7s2ap1x15:Vl:= .go 1 zbh [] zbi k7t47 (.exit .normal) (.loop (loopB (prm7 Try.prog 2).P 7 6)::loopK (prm7 Try.prog 2).P 7 6)
noncomputable def h7s2ap1x16:Vl:= .out 0 k7q0 k7t48
noncomputable def h7s2ap1x17:Vl:= .out 0 k7q0 k7t49
noncomputable def h7s2ap1x18:Vl:= .out 0 k7q0 k7t50
noncomputable def h7s2ap1x19:Vl:= .out 0 k7q0 k7t51
noncomputable def h7s2ap1x20:Vl:= .out 0 k7q0 k7t52
noncomputable def h7s2ap1x21:Vl:= .dead k7t53
noncomputable def h7s2ap1x22:Vl:= .dead k7t54
noncomputable def h7s2ap1x23:Vl:= .go 1 zbh [] zbi (k7f120::k7t111) (.exit .normal) (.loop (loopB (prm7 Try.prog 2).P 7 6)::loopK (prm7 Try.prog 2).P 7 6)
noncomputable def h7s2ap1x24:Vl:= .out 0 k7q0 (k7f121::k7t111)
noncomputable def h7s2ap1x25:Vl:= .go 1 zbh [] zbi (k7f34::k7t55) (.exit .normal) (.loop (loopB (prm7 Try.prog 2).P 7 6)::loopK (prm7 Try.prog 2).P 7 6)
noncomputable def h7s2ap1x26:Vl:= .out 0 k7q0 k7t56
noncomputable def h7s2ap1x27:Vl:= .out 0 k7q0 k7t57
noncomputable def h7s2ap1x28:Vl:= .go 1 zbj zbn zbl k7t69 (.exit .normal) (.loop (loopB (prm7 Try.prog 2).P 7 6)::loopK (prm7 Try.prog 2).P 7 6)
noncomputable def h7s2ap1x29:Vl:= .out 0 k7q0 k7t70
noncomputable def h7s2ap1x30:Vl:= .out 0 k7q0 k7t71
noncomputable def h7s2ap1x31:Vl:= .out 0 k7q0 k7t72
noncomputable def h7s2ap1x32:Vl:= .out 0 k7q0 k7t73
noncomputable def h7s2ap1x33:Vl:= .out 0 k7q0 k7t74
noncomputable def h7s2ap1x34:Vl:= .dead k7t75
noncomputable def h7s2ap1x35:Vl:= .dead k7t76
noncomputable def h7s2ap1x36:Vl:= .go 1 zbj zbn zbl (k7f120::k7t112) (.exit .normal) (.loop (loopB (prm7 Try.prog 2).P 7 6)::loopK (prm7 Try.prog 2).P 7 6)
noncomputable def h7s2ap1x37:Vl:= .out 0 k7q0 (k7f121::k7t112)
noncomputable def h7s2ap1x38:Vl:= .go 1 zbj zbn zbl (k7f34::k7t77) (.exit .normal) (.loop (loopB (prm7 Try.prog 2).P 7 6)::loopK (prm7 Try.prog 2).P 7 6)
noncomputable def h7s2ap1x39:Vl:= .out 0 k7q0 k7t78
noncomputable def h7s2ap1x40:Vl:= .out 0 k7q0 k7t79
noncomputable def h7s2ap1x41:Vl:= .go 1 zbm [] [] k7t90 (.exit .normal) (.loop (loopB (prm7 Try.prog 2).P 7 6)::loopK (prm7 Try.prog 2).P 7 6)
noncomputable def h7s2ap1x42:Vl:= .out 0 k7q0 k7t91
noncomputable def h7s2ap1x43:Vl:= .out 0 k7q0 k7t92
noncomputable def h7s2ap1x44:Vl:= .out 0 k7q0 k7t93
noncomputable def h7s2ap1x45:Vl:= .out 0 k7q0 k7t94
noncomputable def h7s2ap1x46:Vl:= .out 0 k7q0 k7t95
noncomputable def h7s2ap1x47:Vl:= .dead k7t96
noncomputable def h7s2ap1x48:Vl:= .dead k7t97
noncomputable def h7s2ap1x49:Vl:= .go 1 zbm [] [] (k7f130::k7t113) (.exit .normal) (.loop (loopB (prm7 Try.prog 2).P 7 6)::loopK (prm7 Try.prog 2).P 7 6)
noncomputable def h7s2ap1x50:Vl:= .out 0 k7q0 (k7f131::k7t113)
noncomputable def h7s2ap1x51:Vl:= .go 1 zbm [] [] (k7f34::k7t98) (.exit .normal) (.loop (loopB (prm7 Try.prog 2).P 7 6)::loopK (prm7 Try.prog 2).P 7 6)
noncomputable def h7s2ap1x52:Vl:= .out 0 k7q0 k7t99
noncomputable def h7s2ap1x53:Vl:= .out 0 k7q0 k7t100
noncomputable def h7s2ap1x54:Vl:= .dead k7t101
noncomputable def h7s2ap1x55:Vl:= .dead k7t102
noncomputable def h7s2ap1x56:Vl:= .dead k7t103
noncomputable def h7s2ap1x57:Vl:= .dead k7t104
noncomputable def h7s2ap1x58:Vl:= .dead k7t105
noncomputable def h7s2ap1x59:Vl:= .dead k7t106
noncomputable def h7s2ap1x60:Vl:= .dead k7t107
noncomputable def h7s2ap1x61:Vl:= .dead k7t108
noncomputable def h7s2ap1x62:Vl:= .out 0 k7q16 k7t109
noncomputable def h7s0aex0:Vl:= .go 0 zbc zbd zbe [k7f0,k7f1,k7f40,k7f32] (.code (.loop (loopB (prm7 Try.prog 0).P 7 6))) (loopK (prm7 Try.prog 0).P 7 6)
noncomputable def h7s0ap0x0:Vl:= .dead k7t125
noncomputable def h7s0ap0x1:Vl:= .dead k7t127
noncomputable def h7s0ap0x2:Vl:= .out 0 k7q0 k7t130
noncomputable def h7s0ap0x3:Vl:= .go 1 zbf zbd zbg k7t142 (.exit .normal) (.loop (loopB (prm7 Try.prog 0).P 7 6)::loopK (prm7 Try.prog 0).P 7 6)
noncomputable def h7s0ap0x4:Vl:= .out 0 k7q0 k7t143
noncomputable def h7s0ap0x5:Vl:= .out 0 k7q0 k7t144
noncomputable def h7s0ap0x6:Vl:= .out 0 k7q0 k7t145
noncomputable def h7s0ap0x7:Vl:= .out 0 k7q0 k7t146
noncomputable def h7s0ap0x8:Vl:= .out 0 k7q0 k7t147
noncomputable def h7s0ap0x9:Vl:= .dead k7t148
noncomputable def h7s0ap0x10:Vl:= .dead k7t149
noncomputable def h7s0ap0x11:Vl:= .dead k7t150
noncomputable def h7s0ap0x12:Vl:= .dead k7t151
noncomputable def h7s0ap0x13:Vl:= .go 1 zbf zbd zbg k7t152 (.exit .normal) (.loop (loopB (prm7 Try.prog 0).P 7 6)::loopK (prm7 Try.prog 0).P 7 6)
noncomputable def h7s0ap0x14:Vl:= .out 0 k7q0 k7t153
noncomputable def h7s0ap0x15:Vl:= .go 0 zbh [] zbi k7t165 (.exit .normal) (.loop (loopB (prm7 Try.prog 0).P 7 6)::loopK (prm7 Try.prog 0).P 7 6)
noncomputable def h7s0ap0x16:Vl:= .out 0 k7q0 k7t166
noncomputable def h7s0ap0x17:Vl:= .out 0 k7q0 k7t167
noncomputable def h7s0ap0x18:Vl:= .out 0 k7q0 k7t168
noncomputable def h7s0ap0x19:Vl:= .out 0 k7q0 k7t169
noncomputable def h7s0ap0x20:Vl:= .out 0 k7q0 k7t170
noncomputable def h7s0ap0x21:Vl:= .dead k7t171
noncomputable def h7s0ap0x22:Vl:= .dead k7t172
noncomputable def h7s0ap0x23:Vl:= .go 0 zbh [] zbi k7t173 (.exit .normal) (.loop (loopB (prm7 Try.prog 0).P 7 6)::loopK (prm7 Try.prog 0).P 7 6)
noncomputable def h7s0ap0x24:Vl:= .out 0 k7q0 k7t174
noncomputable def h7s0ap0x25:Vl:= .out 0 k7q0 k7t175
noncomputable def h7s0ap0x26:Vl:= .go 0 zbj zbk zbl k7t187 (.exit .normal) (.loop (loopB (prm7 Try.prog 0).P 7 6)::loopK (prm7 Try.prog 0).P 7 6)
noncomputable def h7s0ap0x27:Vl:= .out 0 k7q0 k7t188
noncomputable def h7s0ap0x28:Vl:= .out 0 k7q0 k7t189
noncomputable def h7s0ap0x29:Vl:= .out 0 k7q0 k7t190
noncomputable def h7s0ap0x30:Vl:= .out 0 k7q0 k7t191
noncomputable def h7s0ap0x31:Vl:= .out 0 k7q0 k7t192
noncomputable def h7s0ap0x32:Vl:= .dead k7t193
noncomputable def h7s0ap0x33:Vl:= .dead k7t194
noncomputable def h7s0ap0x34:Vl:= .go 0 zbj zbk zbl k7t195 (.exit .normal) (.loop (loopB (prm7 Try.prog 0).P 7 6)::loopK (prm7 Try.prog 0).P 7 6)
noncomputable def h7s0ap0x35:Vl:= .out 0 k7q0 k7t196
noncomputable def h7s0ap0x36:Vl:= .out 0 k7q0 k7t197
noncomputable def h7s0ap0x37:Vl:= .go 0 zbm [] [] k7t208 (.exit .normal) (.loop (loopB (prm7 Try.prog 0).P 7 6)::loopK (prm7 Try.prog 0).P 7 6)
noncomputable def h7s0ap0x38:Vl:= .out 0 k7q0 k7t209
noncomputable def h7s0ap0x39:Vl:= .out 0 k7q0 k7t210
noncomputable def h7s0ap0x40:Vl:= .out 0 k7q0 k7t211
noncomputable def h7s0ap0x41:Vl:= .out 0 k7q0 k7t212
noncomputable def h7s0ap0x42:Vl:= .out 0 k7q0 k7t213
noncomputable def h7s0ap0x43:Vl:= .dead k7t214
noncomputable def h7s0ap0x44:Vl:= .dead k7t215
noncomputable def h7s0ap0x45:Vl:= .go 0 zbm [] [] k7t216 (.exit .normal) (.loop (loopB (prm7 Try.prog 0).P 7 6)::loopK (prm7 Try.prog 0).P 7 6)
noncomputable def h7s0ap0x46:Vl:= .out 0 k7q0 k7t217
noncomputable def h7s0ap0x47:Vl:= .out 0 k7q0 k7t218
noncomputable def h7s0ap0x48:Vl:= .dead k7t219
noncomputable def h7s0ap0x49:Vl:= .dead k7t220
noncomputable def h7s0ap0x50:Vl:= .dead k7t221
noncomputable def h7s0ap0x51:Vl:= .dead k7t222
noncomputable def h7s0ap0x52:Vl:= .dead k7t223
noncomputable def h7s0ap0x53:Vl:= .dead k7t224
noncomputable def h7s0ap0x54:Vl:= .dead k7t225
noncomputable def h7s0ap0x55:Vl:= .dead k7t226
noncomputable def h7s0ap0x56:Vl:= .out 0 k7q16 k7t227
noncomputable def h7s0ap1x0:Vl:= .dead k7t125
noncomputable def h7s0ap1x1:Vl:= .dead k7t127
noncomputable def h7s0ap1x2:Vl:= .out 0 k7q0 k7t130
noncomputable def h7s0ap1x3:Vl:= .go 1 zbf zbd zbg k7t142 (.exit .normal) (.loop (loopB (prm7 Try.prog 0).P 7 6)::loopK (prm7 Try.prog 0).P 7 6)
noncomputable def h7s0ap1x4:Vl:= .out 0 k7q0 k7t143
noncomputable def h7s0ap1x5:Vl:= .out 0 k7q0 k7t144
noncomputable def h7s0ap1x6:Vl:= .out 0 k7q0 k7t145
noncomputable def h7s0ap1x7:Vl:= .out 0 k7q0 k7t146
noncomputable def h7s0ap1x8:Vl:= .out 0 k7q0 k7t147
noncomputable def h7s0ap1x9:Vl:= .dead k7t148
noncomputable def h7s0ap1x10:Vl:= .dead k7t149
noncomputable def h7s0ap1x11:Vl:= .dead k7t150
noncomputable def h7s0ap1x12:Vl:= .dead k7t151
noncomputable def h7s0ap1x13:Vl:= .go 1 zbf zbd zbg k7t152 (.exit .normal) (.loop (loopB (prm7 Try.prog 0).P 7 6)::loopK (prm7 Try.prog 0).P 7 6)
noncomputable def h7s0ap1x14:Vl:= .out 0 k7q0 k7t153
noncomputable def h7s0ap1x15:Vl:= .go 1 zbh [] zbi k7t165 (.exit .normal) (.loop (loopB (prm7 Try.prog 0).P 7 6)::loopK (prm7 Try.prog 0).P 7 6)
noncomputable def h7s0ap1x16:Vl:= .out 0 k7q0 k7t166
noncomputable def h7s0ap1x17:Vl:= .out 0 k7q0 k7t167
noncomputable def h7s0ap1x18:Vl:= .out 0 k7q0 k7t168
noncomputable def h7s0ap1x19:Vl:= .out 0 k7q0 k7t169
noncomputable def h7s0ap1x20:Vl:= .out 0 k7q0 k7t170
noncomputable def h7s0ap1x21:Vl:= .dead k7t171
noncomputable def h7s0ap1x22:Vl:= .dead k7t172
noncomputable def h7s0ap1x23:Vl:= .go 1 zbh [] zbi k7t173 (.exit .normal) (.loop (loopB (prm7 Try.prog 0).P 7 6)::loopK (prm7 Try.prog 0).P 7 6)
noncomputable def h7s0ap1x24:Vl:= .out 0 k7q0 k7t174
noncomputable def h7s0ap1x25:Vl:= .out 0 k7q0 k7t175
noncomputable def h7s0ap1x26:Vl:= .go 1 zbj zbn zbl k7t187 (.exit .normal) (.loop (loopB (prm7 Try.prog 0).P 7 6)::loopK (prm7 Try.prog 0).P 7 6)
noncomputable def h7s0ap1x27:Vl:= .out 0 k7q0 k7t188
noncomputable def h7s0ap1x28:Vl:= .out 0 k7q0 k7t189
noncomputable def h7s0ap1x29:Vl:= .out 0 k7q0 k7t190
noncomputable def h7s0ap1x30:Vl:= .out 0 k7q0 k7t191
noncomputable def h7s0ap1x31:Vl:= .out 0 k7q0 k7t192
noncomputable def h7s0ap1x32:Vl:= .dead k7t193
noncomputable def h7s0ap1x33:Vl:= .dead k7t194
noncomputable def h7s0ap1x34:Vl:= .go 1 zbj zbn zbl k7t195 (.exit .normal) (.loop (loopB (prm7 Try.prog 0).P 7 6)::loopK (prm7 Try.prog 0).P 7 6)
noncomputable def h7s0ap1x35:Vl:= .out 0 k7q0 k7t196
noncomputable def h7s0ap1x36:Vl:= .out 0 k7q0 k7t197
noncomputable def h7s0ap1x37:Vl:= .go 1 zbm [] [] k7t208 (.exit .normal) (.loop (loopB (prm7 Try.prog 0).P 7 6)::loopK (prm7 Try.prog 0).P 7 6)
noncomputable def h7s0ap1x38:Vl:= .out 0 k7q0 k7t209
noncomputable def h7s0ap1x39:Vl:= .out 0 k7q0 k7t210
noncomputable def h7s0ap1x40:Vl:= .out 0 k7q0 k7t211
noncomputable def h7s0ap1x41:Vl:= .out 0 k7q0 k7t212
noncomputable def h7s0ap1x42:Vl:= .out 0 k7q0 k7t213
noncomputable def h7s0ap1x43:Vl:= .dead k7t214
noncomputable def h7s0ap1x44:Vl:= .dead k7t215
noncomputable def h7s0ap1x45:Vl:= .go 1 zbm [] [] k7t216 (.exit .normal) (.loop (loopB (prm7 Try.prog 0).P 7 6)::loopK (prm7 Try.prog 0).P 7 6)
noncomputable def h7s0ap1x46:Vl:= .out 0 k7q0 k7t217
noncomputable def h7s0ap1x47:Vl:= .out 0 k7q0 k7t218
noncomputable def h7s0ap1x48:Vl:= .dead k7t219
noncomputable def h7s0ap1x49:Vl:= .dead k7t220
noncomputable def h7s0ap1x50:Vl:= .dead k7t221
noncomputable def h7s0ap1x51:Vl:= .dead k7t222
noncomputable def h7s0ap1x52:Vl:= .dead k7t223
noncomputable def h7s0ap1x53:Vl:= .dead k7t224
noncomputable def h7s0ap1x54:Vl:= .dead k7t225
noncomputable def h7s0ap1x55:Vl:= .dead k7t226
noncomputable def h7s0ap1x56:Vl:= .out 0 k7q16 k7t227
noncomputable def h7s1aex0:Vl:= .go 0 zbc zbd zbe [k7f0,k7f1,k7f41,k7f32] (.code (.loop (loopB (prm7 Try.prog 1).P 7 6))) (loopK (prm7 Try.prog 1).P 7 6)
noncomputable def h7s1ap0x0:Vl:= .dead k7t238
noncomputable def h7s1ap0x1:Vl:= .dead k7t240
noncomputable def h7s1ap0x2:Vl:= .out 0 k7q0 k7t243
noncomputable def h7s1ap0x3:Vl:= .go 1 zbf zbd zbg k7t255 (.exit .normal) (.loop (loopB (prm7 Try.prog 1).P 7 6)::loopK (prm7 Try.prog 1).P 7 6)
noncomputable def h7s1ap0x4:Vl:= .out 0 k7q0 k7t256
noncomputable def h7s1ap0x5:Vl:= .out 0 k7q0 k7t257
noncomputable def h7s1ap0x6:Vl:= .out 0 k7q0 k7t258
noncomputable def h7s1ap0x7:Vl:= .out 0 k7q0 k7t259
noncomputable def h7s1ap0x8:Vl:= .out 0 k7q0 k7t260
noncomputable def h7s1ap0x9:Vl:= .dead k7t261
noncomputable def h7s1ap0x10:Vl:= .dead k7t262
noncomputable def h7s1ap0x11:Vl:= .dead k7t263
noncomputable def h7s1ap0x12:Vl:= .dead k7t264
noncomputable def h7s1ap0x13:Vl:= .go 1 zbf zbd zbg k7t265 (.exit .normal) (.loop (loopB (prm7 Try.prog 1).P 7 6)::loopK (prm7 Try.prog 1).P 7 6)
noncomputable def h7s1ap0x14:Vl:= .out 0 k7q0 k7t266
noncomputable def h7s1ap0x15:Vl:= .go 0 zbh [] zbi k7t278 (.exit .normal) (.loop (loopB (prm7 Try.prog 1).P 7 6)::loopK (prm7 Try.prog 1).P 7 6)
noncomputable def h7s1ap0x16:Vl:= .out 0 k7q0 k7t279
noncomputable def h7s1ap0x17:Vl:= .out 0 k7q0 k7t280
noncomputable def h7s1ap0x18:Vl:= .out 0 k7q0 k7t281
noncomputable def h7s1ap0x19:Vl:= .out 0 k7q0 k7t282
noncomputable def h7s1ap0x20:Vl:= .out 0 k7q0 k7t283
noncomputable def h7s1ap0x21:Vl:= .dead k7t284
noncomputable def h7s1ap0x22:Vl:= .dead k7t285
noncomputable def h7s1ap0x23:Vl:= .go 0 zbh [] zbi k7t286 (.exit .normal) (.loop (loopB (prm7 Try.prog 1).P 7 6)::loopK (prm7 Try.prog 1).P 7 6)
noncomputable def h7s1ap0x24:Vl:= .out 0 k7q0 k7t287
noncomputable def h7s1ap0x25:Vl:= .out 0 k7q0 k7t288
noncomputable def h7s1ap0x26:Vl:= .go 0 zbj zbk zbl k7t300 (.exit .normal) (.loop (loopB (prm7 Try.prog 1).P 7 6)::loopK (prm7 Try.prog 1).P 7 6)
noncomputable def h7s1ap0x27:Vl:= .out 0 k7q0 k7t301
noncomputable def h7s1ap0x28:Vl:= .out 0 k7q0 k7t302
noncomputable def h7s1ap0x29:Vl:= .out 0 k7q0 k7t303
noncomputable def h7s1ap0x30:Vl:= .out 0 k7q0 k7t304
noncomputable def h7s1ap0x31:Vl:= .out 0 k7q0 k7t305
noncomputable def h7s1ap0x32:Vl:= .dead k7t306
noncomputable def h7s1ap0x33:Vl:= .dead k7t307
noncomputable def h7s1ap0x34:Vl:= .go 0 zbj zbk zbl k7t308 (.exit .normal) (.loop (loopB (prm7 Try.prog 1).P 7 6)::loopK (prm7 Try.prog 1).P 7 6)
noncomputable def h7s1ap0x35:Vl:= .out 0 k7q0 k7t309
noncomputable def h7s1ap0x36:Vl:= .out 0 k7q0 k7t310
noncomputable def h7s1ap0x37:Vl:= .go 0 zbm [] [] k7t321 (.exit .normal) (.loop (loopB (prm7 Try.prog 1).P 7 6)::loopK (prm7 Try.prog 1).P 7 6)
noncomputable def h7s1ap0x38:Vl:= .out 0 k7q0 k7t322
noncomputable def h7s1ap0x39:Vl:= .out 0 k7q0 k7t323
noncomputable def h7s1ap0x40:Vl:= .out 0 k7q0 k7t324
noncomputable def h7s1ap0x41:Vl:= .out 0 k7q0 k7t325
noncomputable def h7s1ap0x42:Vl:= .out 0 k7q0 k7t326
noncomputable def h7s1ap0x43:Vl:= .dead k7t327
noncomputable def h7s1ap0x44:Vl:= .dead k7t328
noncomputable def h7s1ap0x45:Vl:= .go 0 zbm [] [] k7t329 (.exit .normal) (.loop (loopB (prm7 Try.prog 1).P 7 6)::loopK (prm7 Try.prog 1).P 7 6)
noncomputable def h7s1ap0x46:Vl:= .out 0 k7q0 k7t330
noncomputable def h7s1ap0x47:Vl:= .out 0 k7q0 k7t331
noncomputable def h7s1ap0x48:Vl:= .dead k7t332
noncomputable def h7s1ap0x49:Vl:= .dead k7t333
noncomputable def h7s1ap0x50:Vl:= .dead k7t334
noncomputable def h7s1ap0x51:Vl:= .dead k7t335
noncomputable def h7s1ap0x52:Vl:= .dead k7t336
noncomputable def h7s1ap0x53:Vl:= .dead k7t337
noncomputable def h7s1ap0x54:Vl:= .dead k7t338
noncomputable def h7s1ap0x55:Vl:= .dead k7t339
noncomputable def h7s1ap0x56:Vl:= .out 0 k7q16 k7t340
noncomputable def h7s1ap1x0:Vl:= .dead k7t238
noncomputable def h7s1ap1x1:Vl:= .dead k7t240
noncomputable def h7s1ap1x2:Vl:= .out 0 k7q0 k7t243
noncomputable def h7s1ap1x3:Vl:= .go 1 zbf zbd zbg k7t255 (.exit .normal) (.loop (loopB (prm7 Try.prog 1).P 7 6)::loopK (prm7 Try.prog 1).P 7 6)
noncomputable def h7s1ap1x4:Vl:= .out 0 k7q0 k7t256
noncomputable def h7s1ap1x5:Vl:= .out 0 k7q0 k7t257
noncomputable def h7s1ap1x6:Vl:= .out 0 k7q0 k7t258
noncomputable def h7s1ap1x7:Vl:= .out 0 k7q0 k7t259
noncomputable def h7s1ap1x8:Vl:= .out 0 k7q0 k7t260
noncomputable def h7s1ap1x9:Vl:= .dead k7t261
noncomputable def h7s1ap1x10:Vl:= .dead k7t262
noncomputable def h7s1ap1x11:Vl:= .dead k7t263
noncomputable def h7s1ap1x12:Vl:= .dead k7t264
noncomputable def h7s1ap1x13:Vl:= .go 1 zbf zbd zbg k7t265 (.exit .normal) (.loop (loopB (prm7 Try.prog 1).P 7 6)::loopK (prm7 Try.prog 1).P 7 6)
noncomputable def h7s1ap1x14:Vl:= .out 0 k7q0 k7t266
noncomputable def h7s1ap1x15:Vl:= .go 1 zbh [] zbi k7t278 (.exit .normal) (.loop (loopB (prm7 Try.prog 1).P 7 6)::loopK (prm7 Try.prog 1).P 7 6)
noncomputable def h7s1ap1x16:Vl:= .out 0 k7q0 k7t279
noncomputable def h7s1ap1x17:Vl:= .out 0 k7q0 k7t280
noncomputable def h7s1ap1x18:Vl:= .out 0 k7q0 k7t281
noncomputable def h7s1ap1x19:Vl:= .out 0 k7q0 k7t282
noncomputable def h7s1ap1x20:Vl:= .out 0 k7q0 k7t283
noncomputable def h7s1ap1x21:Vl:= .dead k7t284
noncomputable def h7s1ap1x22:Vl:= .dead k7t285
noncomputable def h7s1ap1x23:Vl:= .go 1 zbh [] zbi k7t286 (.exit .normal) (.loop (loopB (prm7 Try.prog 1).P 7 6)::loopK (prm7 Try.prog 1).P 7 6)
noncomputable def h7s1ap1x24:Vl:= .out 0 k7q0 k7t287
noncomputable def h7s1ap1x25:Vl:= .out 0 k7q0 k7t288
noncomputable def h7s1ap1x26:Vl:= .go 1 zbj zbn zbl k7t300 (.exit .normal) (.loop (loopB (prm7 Try.prog 1).P 7 6)::loopK (prm7 Try.prog 1).P 7 6)
noncomputable def h7s1ap1x27:Vl:= .out 0 k7q0 k7t301
noncomputable def h7s1ap1x28:Vl:= .out 0 k7q0 k7t302
noncomputable def h7s1ap1x29:Vl:= .out 0 k7q0 k7t303
noncomputable def h7s1ap1x30:Vl:= .out 0 k7q0 k7t304
noncomputable def h7s1ap1x31:Vl:= .out 0 k7q0 k7t305
noncomputable def h7s1ap1x32:Vl:= .dead k7t306
noncomputable def h7s1ap1x33:Vl:= .dead k7t307
noncomputable def h7s1ap1x34:Vl:= .go 1 zbj zbn zbl k7t308 (.exit .normal) (.loop (loopB (prm7 Try.prog 1).P 7 6)::loopK (prm7 Try.prog 1).P 7 6)
noncomputable def h7s1ap1x35:Vl:= .out 0 k7q0 k7t309
noncomputable def h7s1ap1x36:Vl:= .out 0 k7q0 k7t310
noncomputable def h7s1ap1x37:Vl:= .go 1 zbm [] [] k7t321 (.exit .normal) (.loop (loopB (prm7 Try.prog 1).P 7 6)::loopK (prm7 Try.prog 1).P 7 6)
noncomputable def h7s1ap1x38:Vl:= .out 0 k7q0 k7t322
noncomputable def h7s1ap1x39:Vl:= .out 0 k7q0 k7t323
noncomputable def h7s1ap1x40:Vl:= .out 0 k7q0 k7t324
noncomputable def h7s1ap1x41:Vl:= .out 0 k7q0 k7t325
noncomputable def h7s1ap1x42:Vl:= .out 0 k7q0 k7t326
noncomputable def h7s1ap1x43:Vl:= .dead k7t327
noncomputable def h7s1ap1x44:Vl:= .dead k7t328
noncomputable def h7s1ap1x45:Vl:= .go 1 zbm [] [] k7t329 (.exit .normal) (.loop (loopB (prm7 Try.prog 1).P 7 6)::loopK (prm7 Try.prog 1).P 7 6)
noncomputable def h7s1ap1x46:Vl:= .out 0 k7q0 k7t330
noncomputable def h7s1ap1x47:Vl:= .out 0 k7q0 k7t331
noncomputable def h7s1ap1x48:Vl:= .dead k7t332
noncomputable def h7s1ap1x49:Vl:= .dead k7t333
noncomputable def h7s1ap1x50:Vl:= .dead k7t334
noncomputable def h7s1ap1x51:Vl:= .dead k7t335
noncomputable def h7s1ap1x52:Vl:= .dead k7t336
noncomputable def h7s1ap1x53:Vl:= .dead k7t337
noncomputable def h7s1ap1x54:Vl:= .dead k7t338
noncomputable def h7s1ap1x55:Vl:= .dead k7t339
noncomputable def h7s1ap1x56:Vl:= .out 0 k7q16 k7t340
noncomputable def h7s2aels:List Vl:=[h7s2aex0]
noncomputable def h7s2ap0ls:List Vl:=[h7s2ap0x0,h7s2ap0x1,h7s2ap0x2,h7s2ap0x3,h7s2ap0x4,h7s2ap0x5,h7s2ap0x6,h7s2ap0x7,h7s2ap0x8,h7s2ap0x9,h7s2ap0x10,h7s2ap0x11,h7s2ap0x12,h7s2ap0x13,h7s2ap0x14,h7s2ap0x15,h7s2ap0x16,h7s2ap0x17,h7s2ap0x18,h7s2ap0x19,h7s2ap0x20,h7s2ap0x21,h7s2ap0x22,h7s2ap0x23,h7s2ap0x24,h7s2ap0x25,h7s2ap0x26,h7s2ap0x27,h7s2ap0x28,h7s2ap0x29,h7s2ap0x30,h7s2ap0x31,h7s2ap0x32,h7s2ap0x33,h7s2ap0x34,h7s2ap0x35,h7s2ap0x36,h7s2ap0x37,h7s2ap0x38,h7s2ap0x39,h7s2ap0x40,h7s2ap0x41,h7s2ap0x42,h7s2ap0x43,h7s2ap0x44,h7s2ap0x45,h7s2ap0x46,h7s2ap0x47,h7s2ap0x48,h7s2ap0x49,h7s2ap0x50,h7s2ap0x51,h7s2ap0x52,h7s2ap0x53,h7s2ap0x54,h7s2ap0x55,h7s2ap0x56,h7s2ap0x57,h7s2ap0x58,h7s2ap0x59,h7s2ap0x60,h7s2ap0x61,h7s2ap0x62]
noncomputable def h7s2ap1ls:List Vl:=[h7s2ap1x0,h7s2ap1x1,h7s2ap1x2,h7s2ap1x3,h7s2ap1x4,h7s2ap1x5,h7s2ap1x6,h7s2ap1x7,h7s2ap1x8,h7s2ap1x9,h7s2ap1x10,h7s2ap1x11,h7s2ap1x12,h7s2ap1x13,h7s2ap1x14,h7s2ap1x15,h7s2ap1x16,h7s2ap1x17,h7s2ap1x18,h7s2ap1x19,h7s2ap1x20,h7s2ap1x21,h7s2ap1x22,h7s2ap1x23,h7s2ap1x24,h7s2ap1x25,h7s2ap1x26,h7s2ap1x27,h7s2ap1x28,h7s2ap1x29,h7s2ap1x30,h7s2ap1x31,h7s2ap1x32,h7s2ap1x33,h7s2ap1x34,h7s2ap1x35,h7s2ap1x36,h7s2ap1x37,h7s2ap1x38,h7s2ap1x39,h7s2ap1x40,h7s2ap1x41,h7s2ap1x42,h7s2ap1x43,h7s2ap1x44,h7s2ap1x45,h7s2ap1x46,h7s2ap1x47,h7s2ap1x48,h7s2ap1x49,h7s2ap1x50,h7s2ap1x51,h7s2ap1x52,h7s2ap1x53,h7s2ap1x54,h7s2ap1x55,h7s2ap1x56,h7s2ap1x57,h7s2ap1x58,h7s2ap1x59,h7s2ap1x60,h7s2ap1x61,h7s2ap1x62]
noncomputable def h7s0aels:List Vl:=[h7s0aex0]
noncomputable def h7s0ap0ls:List Vl:=[h7s0ap0x0,h7s0ap0x1,h7s0ap0x2,h7s0ap0x3,h7s0ap0x4,h7s0ap0x5,h7s0ap0x6,h7s0ap0x7,h7s0ap0x8,h7s0ap0x9,h7s0ap0x10,h7s0ap0x11,h7s0ap0x12,h7s0ap0x13,h7s0ap0x14,h7s0ap0x15,h7s0ap0x16,h7s0ap0x17,h7s0ap0x18,h7s0ap0x19,h7s0ap0x20,h7s0ap0x21,h7s0ap0x22,h7s0ap0x23,h7s0ap0x24,h7s0ap0x25,h7s0ap0x26,h7s0ap0x27,h7s0ap0x28,h7s0ap0x29,h7s0ap0x30,h7s0ap0x31,h7s0ap0x32,h7s0ap0x33,h7s0ap0x34,h7s0ap0x35,h7s0ap0x36,h7s0ap0x37,h7s0ap0x38,h7s0ap0x39,h7s0ap0x40,h7s0ap0x41,h7s0ap0x42,h7s0ap0x43,h7s0ap0x44,h7s0ap0x45,h7s0ap0x46,h7s0ap0x47,h7s0ap0x48,h7s0ap0x49,h7s0ap0x50,h7s0ap0x51,h7s0ap0x52,h7s0ap0x53,h7s0ap0x54,h7s0ap0x55,h7s0ap0x56]
noncomputable def h7s0ap1ls:List Vl:=[h7s0ap1x0,h7s0ap1x1,h7s0ap1x2,h7s0ap1x3,h7s0ap1x4,h7s0ap1x5,h7s0ap1x6,h7s0ap1x7,h7s0ap1x8,h7s0ap1x9,h7s0ap1x10,h7s0ap1x11,h7s0ap1x12,h7s0ap1x13,h7s0ap1x14,h7s0ap1x15,h7s0ap1x16,h7s0ap1x17,h7s0ap1x18,h7s0ap1x19,h7s0ap1x20,h7s0ap1x21,h7s0ap1x22,h7s0ap1x23,h7s0ap1x24,h7s0ap1x25,h7s0ap1x26,h7s0ap1x27,h7s0ap1x28,h7s0ap1x29,h7s0ap1x30,h7s0ap1x31,h7s0ap1x32,h7s0ap1x33,h7s0ap1x34,h7s0ap1x35,h7s0ap1x36,h7s0ap1x37,h7s0ap1x38,h7s0ap1x39,h7s0ap1x40,h7s0ap1x41,h7s0ap1x42,h7s0ap1x43,h7s0ap1x44,h7s0ap1x45,h7s0ap1x46,h7s0ap1x47,h7s0ap1x48,h7s0ap1x49,h7s0ap1x50,h7s0ap1x51,h7s0ap1x52,h7s0ap1x53,h7s0ap1x54,h7s0ap1x55,h7s0ap1x56]
noncomputable def h7s1aels:List Vl:=[h7s1aex0]
noncomputable def h7s1ap0ls:List Vl:=[h7s1ap0x0,h7s1ap0x1,h7s1ap0x2,h7s1ap0x3,h7s1ap0x4,h7s1ap0x5,h7s1ap0x6,h7s1ap0x7,h7s1ap0x8,h7s1ap0x9,h7s1ap0x10,h7s1ap0x11,h7s1ap0x12,h7s1ap0x13,h7s1ap0x14,h7s1ap0x15,h7s1ap0x16,h7s1ap0x17,h7s1ap0x18,h7s1ap0x19,h7s1ap0x20,h7s1ap0x21,h7s1ap0x22,h7s1ap0x23,h7s1ap0x24,h7s1ap0x25,h7s1ap0x26,h7s1ap0x27,h7s1ap0x28,h7s1ap0x29,h7s1ap0x30,h7s1ap0x31,h7s1ap0x32,h7s1ap0x33,h7s1ap0x34,h7s1ap0x35,h7s1ap0x36,h7s1ap0x37,h7s1ap0x38,h7s1ap0x39,h7s1ap0x40,h7s1ap0x41,h7s1ap0x42,h7s1ap0x43,h7s1ap0x44,h7s1ap0x45,h7s1ap0x46,h7s1ap0x47,h7s1ap0x48,h7s1ap0x49,h7s1ap0x50,h7s1ap0x51,h7s1ap0x52,h7s1ap0x53,h7s1ap0x54,h7s1ap0x55,h7s1ap0x56]
noncomputable def h7s1ap1ls:List Vl:=[h7s1ap1x0,h7s1ap1x1,h7s1ap1x2,h7s1ap1x3,h7s1ap1x4,h7s1ap1x5,h7s1ap1x6,h7s1ap1x7,h7s1ap1x8,h7s1ap1x9,h7s1ap1x10,h7s1ap1x11,h7s1ap1x12,h7s1ap1x13,h7s1ap1x14,h7s1ap1x15,h7s1ap1x16,h7s1ap1x17,h7s1ap1x18,h7s1ap1x19,h7s1ap1x20,h7s1ap1x21,h7s1ap1x22,h7s1ap1x23,h7s1ap1x24,h7s1ap1x25,h7s1ap1x26,h7s1ap1x27,h7s1ap1x28,h7s1ap1x29,h7s1ap1x30,h7s1ap1x31,h7s1ap1x32,h7s1ap1x33,h7s1ap1x34,h7s1ap1x35,h7s1ap1x36,h7s1ap1x37,h7s1ap1x38,h7s1ap1x39,h7s1ap1x40,h7s1ap1x41,h7s1ap1x42,h7s1ap1x43,h7s1ap1x44,h7s1ap1x45,h7s1ap1x46,h7s1ap1x47,h7s1ap1x48,h7s1ap1x49,h7s1ap1x50,h7s1ap1x51,h7s1ap1x52,h7s1ap1x53,h7s1ap1x54,h7s1ap1x55,h7s1ap1x56]
theorem h7s2aerun:(run (prm7 Try.prog 2) 900 (enterD (prm7 Try.prog 2) (ct7 2 true))).map (vOf (prm7 Try.prog 2) (ct7 2 true) (pts7 Try.prog 2 true))=h7s2aels:=by kernel_rfl
theorem h7s2ap0run:(run (prm7 Try.prog 2) 900 (ptD (pts7 Try.prog 2 true) 0 7)).map (vOf (prm7 Try.prog 2) (ct7 2 true) (pts7 Try.prog 2 true))=h7s2ap0ls:=by kernel_rfl
theorem h7s2ap1run:(run (prm7 Try.prog 2) 900 (ptD (pts7 Try.prog 2 true) 1 7)).map (vOf (prm7 Try.prog 2) (ct7 2 true) (pts7 Try.prog 2 true))=h7s2ap1ls:=by kernel_rfl
theorem h7s0aerun:(run (prm7 Try.prog 0) 900 (enterD (prm7 Try.prog 0) (ct7 0 true))).map (vOf (prm7 Try.prog 0) (ct7 0 true) (pts7 Try.prog 0 true))=h7s0aels:=by kernel_rfl
theorem h7s0ap0run:(run (prm7 Try.prog 0) 900 (ptD (pts7 Try.prog 0 true) 0 7)).map (vOf (prm7 Try.prog 0) (ct7 0 true) (pts7 Try.prog 0 true))=h7s0ap0ls:=by kernel_rfl
theorem h7s0ap1run:(run (prm7 Try.prog 0) 900 (ptD (pts7 Try.prog 0 true) 1 7)).map (vOf (prm7 Try.prog 0) (ct7 0 true) (pts7 Try.prog 0 true))=h7s0ap1ls:=by kernel_rfl
theorem h7s1aerun:(run (prm7 Try.prog 1) 900 (enterD (prm7 Try.prog 1) (ct7 1 true))).map (vOf (prm7 Try.prog 1) (ct7 1 true) (pts7 Try.prog 1 true))=h7s1aels:=by kernel_rfl
theorem h7s1ap0run:(run (prm7 Try.prog 1) 900 (ptD (pts7 Try.prog 1 true) 0 7)).map (vOf (prm7 Try.prog 1) (ct7 1 true) (pts7 Try.prog 1 true))=h7s1ap0ls:=by kernel_rfl
theorem h7s1ap1run:(run (prm7 Try.prog 1) 900 (ptD (pts7 Try.prog 1 true) 1 7)).map (vOf (prm7 Try.prog 1) (ct7 1 true) (pts7 Try.prog 1 true))=h7s1ap1ls:=by kernel_rfl
end Go.Proofs.Ytgianhjmjiiadaa
end
section
set_option autoImplicit true
set_option relaxedAutoImplicit true
set_option linter.unusedVariables false
namespace Go.Proofs.Ytgianhjmjiiadaa
open Go Go.Sy
end Go.Proofs.Ytgianhjmjiiadaa
end
