/- GetAckFrame keeps its contracts. -/
import Derived.Test.YtgianhjmjiiadaaQmO
import Derived.Test.YtgianhjmjiiadaaQmE
import Derived.Test.YtgianhjmjiiadaaSyNs
import Derived.Test.YtgianhjmjiiadaaQmAc
import Derived.KernelRfl
section
set_option autoImplicit true
set_option relaxedAutoImplicit true
set_option linter.unusedVariables false
set_option linter.unusedSimpArgs false
namespace Go.Proofs.Ytgianhjmjiiadaa
open Go Go.Sy Go.RowKit Go.Shelf
section
set_option maxRecDepth 100000 in
theorem getack_no (m o:Nat) (w:World) (c6:w.cell? ⟨m,o+6,none⟩=some (.bool false)):Calls Try.prog 33 #[.pointer (some ⟨m,o,none⟩)] w fun e w'=>e= .returned (.pointer none)∧w'=w:=by
 go_enter Try.func33,Try.ntmps33
 go_wp2
 go_ret
 exact ⟨rfl,rfl⟩
theorem flatR_map (f:Nat→Int×Int): ∀k,flatR ((List.range k).map f)=(List.range (k*2)).map fun j=> .int .i64 (if j % 2=0 then (f (j/2)).1 else (f (j/2)).2)
 |0=>rfl
 |k+1=>by
  rw [List.range_succ,List.map_append,List.map_cons,List.map_nil,flatR_snoc,flatR_map f k,show (k+1)*2=k*2+1+1 by omega,List.range_succ,List.range_succ]
  simp only [List.map_append,List.map_cons,List.map_nil,List.append_assoc,List.cons_append,List.nil_append]
  rw [if_pos (by omega),if_neg (by omega),show k*2/2=k by omega,show (k*2+1)/2=k by omega]
theorem downL_eq (A:Nat→Int) (k:Nat):downL A k=(List.range k).map fun i=>pr2 A (k - 1 - i):=by
 unfold downL
 apply List.ext_getElem?
 intro i
 rcases Nat.lt_or_ge i k with h|h
 ·rw [List.getElem?_map,List.getElem?_map,List.getElem?_reverse (by simpa using h),List.length_range,List.getElem?_range (by omega),List.getElem?_range h];rfl
 ·rw [List.getElem?_eq_none (by simpa using h),List.getElem?_eq_none (by simpa using h)]
theorem flatR_down (A:Nat→Int) (k:Nat):flatR (downL A k)=(List.range (k*2)).map fun j=> .int .i64 (rvA A k j):=by
 rw [downL_eq,flatR_map]
 apply List.map_congr_left
 intro j _
 unfold rvA pr2
 rcases Nat.mod_two_eq_zero_or_one j with h|h
 ·rw [if_pos h,h];rfl
 ·rw [if_neg (by omega),h]
theorem HOk.add2 {E:Env} {β:Nat→Bk} {h:List SBlk} {w w':World} (hw:HOk E β h w) (hb:h.all (SBlk.bnd h.length)=true) {s1 s2:SBlk} {bk1 bk2:Bk} (hos:w'.os=w.os) (htp:w'.tape=w.tape) (hop:w'.output=w.output) (hsz:w.heap.size≤w'.heap.size)
 (hsame: ∀c,c<w.heap.size→w'.heap[c]?=w.heap[c]?) (n1: ∀x,s1.at E bk1 x→x<w'.heap.size∧w.heap.size≤x) (n2: ∀x,s2.at E bk2 x→x<w'.heap.size∧w.heap.size≤x) (hd: ∀x,s1.at E bk1 x→s2.at E bk2 x→False)
 (k1:s1.ok E (upB (upB β h.length bk1) (h.length+1) bk2) bk1 w') (k2:s2.ok E (upB (upB β h.length bk1) (h.length+1) bk2) bk2 w'):
 HOk E (upB (upB β h.length bk1) (h.length+1) bk2) (h++[s1,s2]) w'∧Ext E h β w E (h++[s1,s2]) (upB (upB β h.length bk1) (h.length+1) bk2) w':=by
 obtain ⟨β',hβ'⟩: ∃b,b=upB (upB β h.length bk1) (h.length+1) bk2:=⟨_,rfl⟩
 rw [←hβ'] at k1 k2⊢
 have hag: ∀i,i<h.length→β' i=β i:=fun i hi=>by rw [hβ',upB_ne (by omega),upB_ne (by omega)]
 have b1:β' h.length=bk1:=by rw [hβ',upB_ne (by omega),upB_self]
 have b2:β' (h.length+1)=bk2:=by rw [hβ',upB_self]
 have get: ∀i s,(h++[s1,s2])[i]?=some s→(i<h.length∧h[i]?=some s∧β' i=β i)∨(i=h.length∧s=s1∧β' i=bk1)∨(i=h.length+1∧s=s2∧β' i=bk2):=fun i s hs=>by
  rcases Nat.lt_or_ge i h.length with h1|h1
  ·rw [List.getElem?_append_left h1] at hs;exact .inl ⟨h1,hs,hag i h1⟩
  ·rw [List.getElem?_append_right h1] at hs
   have hl:=(List.getElem?_eq_some_iff.1 hs).1
   simp at hl
   rcases (by omega:i=h.length∨i=h.length+1) with h2|h2
   ·subst h2;simp at hs;exact .inr (.inl ⟨rfl,hs.symm,b1⟩)
   ·subst h2;simp at hs;exact .inr (.inr ⟨rfl,hs.symm,b2⟩)
 refine ⟨⟨fun i j s t x hi hj hx hy=>?_,fun i s x hi hx=>?_,fun i s hi=>?_⟩,⟨by simp,hag,fun i s' hi hs hwr=>?_,fun i s' x hs hx=>?_,hsz,fun b hb' _=>hsame b hb',hos,htp,hop⟩⟩
 ·rcases get i s hi with ⟨p1,p2,p3⟩|⟨rfl,rfl,p3⟩|⟨rfl,rfl,p3⟩<;>rcases get j t hj with ⟨q1,q2,q3⟩|⟨rfl,rfl,q3⟩|⟨rfl,rfl,q3⟩<;>rw [p3] at hx<;>rw [q3] at hy
  ·exact hw.dis i j s t x p2 q2 hx hy
  ·have:=hw.lt i s x p2 hx;have:=(n1 x hy).2;omega
  ·have:=hw.lt i s x p2 hx;have:=(n2 x hy).2;omega
  ·have:=hw.lt j t x q2 hy;have:=(n1 x hx).2;omega
  ·exact (hd x hx hy).elim
  ·have:=hw.lt j t x q2 hy;have:=(n2 x hx).2;omega
  ·exact (hd x hy hx).elim
 ·rcases get i s hi with ⟨p1,p2,p3⟩|⟨rfl,rfl,p3⟩|⟨rfl,rfl,p3⟩<;>rw [p3] at hx
  ·exact Nat.lt_of_lt_of_le (hw.lt i s x p2 hx) hsz
  ·exact (n1 x hx).1
  ·exact (n2 x hx).1
 ·rcases get i s hi with ⟨p1,p2,p3⟩|⟨rfl,rfl,p3⟩|⟨rfl,rfl,p3⟩<;>rw [p3]
  ·refine SBlk.ok_frame (fun x hx=>hsame x (hw.lt i s x p2 hx)) ((SBlk.ok_agree hag s ?_ (β i) w).2 (hw.ok i s p2))
   exact List.all_eq_true.1 hb s (List.mem_of_getElem? p2)
  ·exact k1
  ·exact k2
 ·rw [List.getElem?_append_left hi] at hs;exact ⟨s',hs,hwr⟩
 ·rcases get i s' hs with ⟨p1,p2,p3⟩|⟨rfl,rfl,p3⟩|⟨rfl,rfl,p3⟩<;>rw [p3] at hx
  ·exact .inr ⟨i,s',p2,hx,.inr rfl⟩
  ·exact .inl (n1 x hx).2
  ·exact .inl (n2 x hx).2
theorem ok67 {E:Env} {β:Nat→Bk} {w:World} {G C n:Nat} {A:Nat→Int} {cs:List Value} {a:AE} {N:SE} (hn:(N.den E).toNat=n) (ha:a.den E=rvA A n) (h:w.ownsRow 0 67 2 (.slice (some ⟨G,0,none⟩) n C) n (flatR (downL A n))):
 SBlk.ok E β { a:=G,z:=false,n:=n,c:=C,o:=0 } w (rw67 a N):=by
 refine ⟨rfl,0,rfl,?_⟩
 rw [hn,Nat.add_zero]
 change w.ownsRow 0 67 2 (.slice (some ⟨G,0,none⟩) n C) n _
 have e:rowCells E β (fun _=> .nilIface) a [.int .i64,.int .i64] n []=flatR (downL A n):=by
  rw [iv_cells,flatR_down,ha]
 rw [e];exact h
theorem pre33 {E:Env} {F:Fx} (hF:Facts E (newF++F)): ∃n:Nat,E.i 0=n∧n≤61∧(E.b 0=true→1≤n):=by
 have h:Facts E newF:=fun q hq=>hF q (List.mem_append_left _ hq)
 have a:0≤E.i 0:=of_decide_eq_true (h (.le (.c 0) (.v 0),true) (by simp [newF,bd]))
 have b:E.i 0≤61:=of_decide_eq_true (h (.le (.v 0) (.c 61),true) (by simp [newF,bd]))
 have c:=h (orB (.not (.v 0)) (.le (.c 1) (.v 0)),true) (by simp [newF])
 refine ⟨(E.i 0).toNat,by omega,by omega,fun hb=>?_⟩
 have c':(!((!(!E.b 0))&&!(decide ((1:Int)≤E.i 0))))=true:=c
 rw [hb] at c'
 simp at c'
 omega
theorem rv_den {E:Env} (hE:E.fn=fns) {n:Nat} (hn:E.i 0=n):rvE.den E=rvA (E.a 0) n:=by
 simp only [rvE,AE.den,SL.den,SE.den,hE]
 show rvA (fun j=>E.a 0 j) (E.i 0).toNat=_
 rw [hn];rfl
theorem world_wset {w:World} {m:Nat} {o:Obj} (h:w.heap[m]?=some o):wset w m o=w:=by
 have hm:=Array.getElem?_eq_some_iff.1 h
 obtain ⟨hl,he⟩:=hm
 unfold wset
 have:w.heap.setIfInBounds m o=w.heap:=by
  apply Array.ext_getElem?
  intro i
  rw [Array.getElem?_setIfInBounds]
  by_cases hi:m=i
  ·subst hi;rw [if_pos rfl,if_pos hl,h]
  ·rw [if_neg hi]
 rw [this]
set_option maxHeartbeats 2000000 in
theorem ct33n_ok:CtOk Try.prog fns ct33n:=by
 intro E β w hE _ hw hF
 obtain ⟨n,hn,hn61,hn1⟩:=pre33 (F:=[]) (by rw [List.append_nil];exact hF)
 have en:((SE.v 0).den E).toNat=n:=by simp only [SE.den];omega
 refine ⟨fun a ha=>?_,?_⟩
 ·simp only [ct33n,altSel] at ha
  split at ha<;>(obtain rfl:=Option.some.inj ha;intro q hq;cases hq)
 obtain ⟨ho,hm⟩:=hw.ok 0 _ rfl
 obtain ⟨m,hme⟩: ∃m,(β 0).a=m:=⟨_,rfl⟩
 rw [hme] at hm
 obtain ⟨csM,hcs⟩: ∃cs,cs=(SV.denL E β [.ptr 2 Off.z,.ptr 3 Off.z,.int .u64 (.v 31),.int .u64 (.v 32),.int .u64 (.v 33),.own 1,.int .i64 (.v 6),laN,.bool (.v 0),.int .i64 (.v 34),.int .i64 (.v 35),.int .i64 (.v 36),.bool (.v 1),.int .i64 (.v 37),.int .i64 (.v 38),.int .i64 (.v 39)]).toArray:=⟨_,rfl⟩
 have hm':w.heap[m]?=some (.cells csM 88 (0,0)):=by rw [hcs];exact hm
 have cell: ∀j,w.cell? ⟨m,j,none⟩=csM[j]?:=fun j=>by simp [World.cell?,hm']
 have hargs:(SV.denL E β ct33n.args).toArray= #[.pointer (some ⟨m,2,none⟩)]:=by
  simp only [ct33n,trk,SV.denL,SV.den,Off.den,SE.den,hme,ho];rfl
 rw [hargs]
 have hmw:m<w.heap.size:=(Array.getElem?_eq_some_iff.1 hm').1
 by_cases hb:E.b 0=true
 ·have hn1:=hn1 hb
  obtain ⟨hz0,ho0,hn0,hnc,hcm,cur,hg,hcsz,hx⟩:=iv_of (hw.ok 1 _ rfl) (by rw [en];omega)
  rw [en] at hn0 hx
  obtain ⟨g,hge⟩: ∃g,(β 1).a=g:=⟨_,rfl⟩
  rw [hge] at hg
  have hgw:g<w.heap.size:=(Array.getElem?_eq_some_iff.1 hg).1
  have hv1:(β 1).v= .slice (some ⟨g,0,none⟩) n (β 1).c:=by simp [Bk.v,hz0,hge,ho0,hn0]
  refine (callsIn_wide.1 (getack_nil 3 (by omega) m 2 g (β 1).c n (E.a 0) (E.i 31) (E.i 32) (E.i 33) hn1 (by omega) w csM 88 hm' hmw hgw (fun j=>by simp [World.frozen?,hm']) (by rw [cell,hcs];rfl) (by rw [cell,hcs];rfl) (by rw [cell,hcs];rfl) (by rw [cell,hcs,←hv1];rfl) (by rw [cell,hcs];rfl) (by rw [cell,hcs,←hb];rfl)
   (fun j hj=>by simp only [World.cell?,hg];have:cur[j]?=some (.int .i64 (E.a 0 j)):=hx j hj;simpa using this))).mono ?_
  rintro e w' ⟨v',rfl,hG⟩
  obtain ⟨G,C,rfl⟩: ∃G C,v'= .slice (some ⟨G,0,none⟩) n C:=by
   rcases hG.row.2 with ⟨_,h0⟩|⟨G,C,_,h,_⟩
   ·omega
   ·exact ⟨G,C,h⟩
  have hGat:w.heap.size≤G:=by
   rcases hG.at_ G rfl with h|h
   ·simp [Value.ownBlock] at h
   ·exact h
  obtain ⟨curG,hcurG⟩:=own_cells hG.row rfl
  have hGw:G<w'.heap.size:=(Array.getElem?_eq_some_iff.1 hcurG).1
  have hKw:w.heap.size+1<w'.heap.size:=(Array.getElem?_eq_some_iff.1 hG.kb).1
  have hGK:G≠w.heap.size+1:=fun h=>by rw [h,hG.kb] at hcurG;simp at hcurG
  have hmw':m<w'.heap.size:=Nat.lt_of_lt_of_le hmw hG.size
  have hwM: ∀c,c≠m→(wset w' m (.cells csM 88 (0,0))).heap[c]?=w'.heap[c]?:=fun c hc=>wset_other hc
  have hsz:(wset w' m (.cells csM 88 (0,0))).heap.size=w'.heap.size:=by simp [wset]
  obtain ⟨k1,k2⟩:=HOk.add2 (w':=wset w' m (.cells csM 88 (0,0))) (s1:=rw67 rvE (.v 0)) (s2:=frB 4 (.c 0) (.v 31) (.v 32) (.v 33)) (bk1:={ a:=G,z:=false,n:=n,c:=C,o:=0 }) (bk2:={ a:=w.heap.size+1 }) hw (by decide) hG.os hG.tape hG.output (by rw [hsz];exact hG.size)
   (fun c hc=>by
     by_cases h:c=m
     ·subst h;rw [wset_same hmw',hm']
     ·rw [hwM c h];exact hG.same c hc h (by omega) (by simp [Value.ownBlock]))
   (fun x hx=>by
     have:x=G:=SBlk.at_eq hx rfl
     subst this;rw [hsz];exact ⟨hGw,hGat⟩)
   (fun x hx=>by
     have:x=w.heap.size+1:=SBlk.at_eq hx rfl
     subst this;rw [hsz];exact ⟨hKw,by omega⟩)
   (fun x h1 h2=>by
     have e1:x=G:=SBlk.at_eq h1 rfl
     have e2:x=w.heap.size+1:=SBlk.at_eq h2 rfl
     omega)
   (ok67 (A:=E.a 0) (cs:=[]) en (rv_den hE hn) ⟨hG.row.1,by
     rcases hG.row.2 with ⟨_,h0⟩|⟨G',C',cu,h,a1,a2,a3⟩
     ·omega
     ·simp only [Value.slice.injEq,Option.some.injEq,Addr.mk.injEq] at h
      obtain ⟨⟨rfl,-,-⟩,-,rfl⟩:=h
      exact .inr ⟨_,_,cu,rfl,a1,by rw [hwM _ (by omega)];exact a2,a3⟩⟩)
   ⟨rfl,by
     show (wset w' m (.cells csM 88 (0,0))).heap[w.heap.size+1]?=_
     rw [hwM _ (by omega)];exact hG.kb⟩
  obtain ⟨k3,k4⟩:=HOk.set (b:=0) (S:=88) (l':=[.ptr 2 Off.z,.ptr 3 Off.z,.int .u64 (.v 31),.int .u64 (.v 32),.int .u64 (.v 33),.own 1,.int .i64 (.v 6),.ptr 5 Off.z,.bool (.c false),.int .i64 (.v 34),.int .i64 (.v 35),.int .i64 (.v 36),.bool (.v 1),.int .i64 (.v 37),.int .i64 (.v 38),.int .i64 (.v 39)]) k1 rfl
  have ea:(upB (upB β 4 { a:=G,z:=false,n:=n,c:=C,o:=0 }) 5 { a:=w.heap.size+1 } 0)=β 0:=by rw [upB_ne (by decide),upB_ne (by decide)]
  have hW:wset (wset w' m (.cells csM 88 (0,0))) ((upB (upB β 4 { a:=G,z:=false,n:=n,c:=C,o:=0 }) 5 { a:=w.heap.size+1 } 0).a) (.cells (SV.denL E (upB (upB β 4 { a:=G,z:=false,n:=n,c:=C,o:=0 }) 5 { a:=w.heap.size+1 }) [.ptr 2 Off.z,.ptr 3 Off.z,.int .u64 (.v 31),.int .u64 (.v 32),.int .u64 (.v 33),.own 1,.int .i64 (.v 6),.ptr 5 Off.z,.bool (.c false),.int .i64 (.v 34),.int .i64 (.v 35),.int .i64 (.v 36),.bool (.v 1),.int .i64 (.v 37),.int .i64 (.v 38),.int .i64 (.v 39)]).toArray 88 (0,0))=w':=by
   rw [ea,hme,wset_wset]
   refine Eq.trans ?_ (world_wset hG.mb)
   congr 2
   rw [hcs];rfl
  have k5:HOk E (upB (upB β 4 { a:=G,z:=false,n:=n,c:=C,o:=0 }) 5 { a:=w.heap.size+1 }) ct33n.alts[1].post w':=by rw [←hW];exact k3
  have k6:Ext E ct33n.heap β w E ct33n.alts[1].post (upB (upB β 4 { a:=G,z:=false,n:=n,c:=C,o:=0 }) 5 { a:=w.heap.size+1 }) w':=by rw [←hW];exact k2.trans k4
  refine ctPost0 (c:=ct33n) (a:=ct33n.alts[1]) (β':=upB (upB β 4 { a:=G,z:=false,n:=n,c:=C,o:=0 }) 5 { a:=w.heap.size+1 }) ?_ rfl rfl ?_ k5 k6
  ·simp only [ct33n,altSel,SB.den,hb,Bool.not_true,Bool.false_eq_true,if_false,if_true];rfl
  ·simp only [ct33n,List.getElem_cons_succ,List.getElem_cons_zero,SV.den,upB_self];rfl
 ·have hb':E.b 0=false:=by simpa using hb
  refine (getack_no m 2 w (by rw [cell,hcs,←hb'];rfl)).mono ?_
  rintro e w' ⟨rfl,rfl⟩
  refine ext_same E _ β w' _ ct33n rfl (a:=ct33n.alts[0]) ?_ rfl rfl rfl rfl hw
  simp only [ct33n,altSel,SB.den,hb',Bool.not_false,if_true,List.getElem_cons_zero]
end
section
theorem rw67_of {E:Env} {β:Nat→Bk} {w:World} {bk:Bk} {a:AE} {n:SE} (h:SBlk.ok E β bk w (rw67 a n)) (hn:1≤(n.den E).toNat):
 bk.z=false∧bk.o=0∧bk.n=(n.den E).toNat∧bk.n≤bk.c∧bk.c≤maxLen∧ ∃cur,w.heap[bk.a]?=some (.cells cur 67 (0,0))∧cur.size=bk.c*2∧ ∀x,x<(n.den E).toNat*2→cur[x]?=some (.int .i64 (a.den E x)):=by
 obtain ⟨ho,m,hm,hown⟩:=h
 have hm0:m=0:=by
  have:(0:Nat)=m*2:=hm
  omega
 subst hm0
 rw [Nat.add_zero] at hown
 change w.ownsRow 0 67 2 bk.v (n.den E).toNat _ at hown
 rw [iv_cells] at hown
 rcases hown.2 with ⟨_,h0⟩|⟨g,cap,cur,hv,_,hg,hc,hcm,hcs,hx⟩
 ·omega
 ·unfold Bk.v at hv
  split at hv
  ·cases hv
  ·rename_i hz
   simp only [Value.slice.injEq,Option.some.injEq,Addr.mk.injEq] at hv
   obtain ⟨⟨rfl,-,-⟩,h1,rfl⟩:=hv
   refine ⟨by simpa using hz,ho,h1,by omega,hcm,cur,hg,hcs,fun x hx'=>?_⟩
   have e:(cur.toList.take ((n.den E).toNat*2))[x]?=cur[x]?:=by
    rw [List.getElem?_take,if_pos hx'];simp
   rw [←e,hx,List.getElem?_map,List.getElem?_range hx'];rfl
theorem wset4 {w:World} {K m:Nat} {a b c d:Obj} (hK:w.heap[K]?=some c) (hm:w.heap[m]?=some d) (hne:K≠m):wset (wset (wset (wset w K a) m b) K c) m d=w:=by
 have hl:=(Array.getElem?_eq_some_iff.1 hK).1
 have hl2:=(Array.getElem?_eq_some_iff.1 hm).1
 have e: ∀(w1:World),w1={ w with heap:=w1.heap }→w1.heap=w.heap→w1=w:=fun w1 h1 h2=>by rw [h1,h2]
 refine e _ rfl ?_
 apply Array.ext_getElem?
 intro i
 by_cases h1:i=m
 ·subst h1;rw [wset_same (by simp [wset];exact hl2),hm]
 ·rw [wset_other h1]
  by_cases h2:i=K
  ·subst h2;rw [wset_same (by simp [wset];exact hl),hK]
  ·rw [wset_other h2,wset_other h1,wset_other h2]
set_option maxHeartbeats 2000000 in
theorem ct33t_ok:CtOk Try.prog fns ct33t:=by
 intro E β w hE _ hw hF
 obtain ⟨n,hn,hn61,hn1⟩:=pre33 (F:=bd (.v 40) 1 61) hF
 have en:((SE.v 0).den E).toNat=n:=by simp only [SE.den];omega
 have f1:1≤E.i 40:=of_decide_eq_true (hF (.le (.c 1) (.v 40),true) (by simp [ct33t,newF,bd]))
 have f2:E.i 40≤61:=of_decide_eq_true (hF (.le (.v 40) (.c 61),true) (by simp [ct33t,newF,bd]))
 refine ⟨fun a ha=>?_,?_⟩
 ·simp only [ct33t,altSel] at ha
  split at ha<;>(obtain rfl:=Option.some.inj ha;intro q hq;cases hq)
 obtain ⟨ho,hm⟩:=hw.ok 0 _ rfl
 obtain ⟨ho4,hK⟩:=hw.ok 4 _ rfl
 obtain ⟨hz5,ho5,hn5,hnc5,hcm5,cur5,hg5,hcs5,hx5⟩:=rw67_of (hw.ok 5 _ rfl) (by simp only [SE.den];omega)
 have e40:((SE.v 40).den E).toNat=(E.i 40).toNat:=by simp only [SE.den]
 obtain ⟨mm,hmm⟩: ∃mm,(E.i 40).toNat=mm:=⟨_,rfl⟩
 rw [e40,hmm] at hn5 hx5
 obtain ⟨m,hme⟩: ∃m,(β 0).a=m:=⟨_,rfl⟩
 obtain ⟨K,hKe⟩: ∃m,(β 4).a=m:=⟨_,rfl⟩
 obtain ⟨rb,hre⟩: ∃m,(β 5).a=m:=⟨_,rfl⟩
 rw [hme] at hm;rw [hKe] at hK;rw [hre] at hg5
 obtain ⟨csM,hcs⟩: ∃cs,cs=(SV.denL E β [.ptr 2 Off.z,.ptr 3 Off.z,.int .u64 (.v 31),.int .u64 (.v 32),.int .u64 (.v 33),.own 1,.int .i64 (.v 6),laT,.bool (.v 0),.int .i64 (.v 34),.int .i64 (.v 35),.int .i64 (.v 36),.bool (.v 1),.int .i64 (.v 37),.int .i64 (.v 38),.int .i64 (.v 39)]).toArray:=⟨_,rfl⟩
 have hm':w.heap[m]?=some (.cells csM 88 (0,0)):=by rw [hcs];exact hm
 have hv5:(β 5).v= .slice (some ⟨rb,0,none⟩) mm (β 5).c:=by simp [Bk.v,hz5,hre,ho5,hn5]
 have hK':w.heap[K]?=some (.cells #[.slice (some ⟨rb,0,none⟩) mm (β 5).c,.int .i64 (E.i 41),.int .u64 (E.i 42),.int .u64 (E.i 43),.int .u64 (E.i 44)] 65 (0,0)):=by rw [←hv5];exact hK
 have cell: ∀j,w.cell? ⟨m,j,none⟩=csM[j]?:=fun j=>by simp [World.cell?,hm']
 have hargs:(SV.denL E β ct33t.args).toArray= #[.pointer (some ⟨m,2,none⟩)]:=by
  simp only [ct33t,trk,SV.denL,SV.den,Off.den,SE.den,hme,ho];rfl
 rw [hargs]
 have hmw:m<w.heap.size:=(Array.getElem?_eq_some_iff.1 hm').1
 have hKw:K<w.heap.size:=(Array.getElem?_eq_some_iff.1 hK').1
 have hrw:rb<w.heap.size:=(Array.getElem?_eq_some_iff.1 hg5).1
 have hKm:K≠m:=fun h=>by rw [h,hm'] at hK';simp at hK'
 have hrK:rb≠K:=fun h=>by rw [h,hK'] at hg5;simp at hg5
 have hrm:rb≠m:=fun h=>by rw [h,hm'] at hg5;simp at hg5
 by_cases hb:E.b 0=true
 ·have hn1:=hn1 hb
  obtain ⟨hz0,ho0,hn0,hnc,hcm,cur,hg,hcsz,hx⟩:=iv_of (hw.ok 1 _ rfl) (by rw [en];omega)
  rw [en] at hn0 hx
  obtain ⟨g,hge⟩: ∃g,(β 1).a=g:=⟨_,rfl⟩
  rw [hge] at hg
  have hgw:g<w.heap.size:=(Array.getElem?_eq_some_iff.1 hg).1
  have hKg:K≠g:=fun h=>by rw [h,hg] at hK';simp at hK'
  have hrg:rb≠g:=fun h=>by rw [h,hg] at hg5;simp at hg5
  have hv1:(β 1).v= .slice (some ⟨g,0,none⟩) n (β 1).c:=by simp [Bk.v,hz0,hge,ho0,hn0]
  refine (callsIn_wide.1 (getack_some 3 (by omega) m 2 g (β 1).c n (E.a 0) (E.i 31) (E.i 32) (E.i 33) hn1 (by omega) K rb mm (β 5).c cur5 (E.a 2) (E.i 41) (E.i 42) (E.i 43) (E.i 44) w hKm hKg hrK hrm hrg hK' hg5 (by omega) (by omega) hcm5 hcs5
   (fun j hj=>by simp only [World.cell?,hg5];have:cur5[j]?=some (.int .i64 (E.a 2 j)):=hx5 j hj;simpa using this)
   csM 88 hm' hmw hgw (fun j=>by simp [World.frozen?,hm']) (by rw [cell,hcs];rfl) (by rw [cell,hcs];rfl) (by rw [cell,hcs];rfl) (by rw [cell,hcs,←hv1];rfl) (by
    rw [cell,hcs]
    show some (Value.pointer (some ⟨(β 4).a,(β 4).o+Off.den E Off.z,none⟩))=_
    rw [ho4,hKe];rfl) (by rw [cell,hcs,←hb];rfl)
   (fun j hj=>by simp only [World.cell?,hg];have:cur[j]?=some (.int .i64 (E.a 0 j)):=hx j hj;simpa using this))).mono ?_
  rintro e w' ⟨v',rfl,hG⟩
  obtain ⟨G,C,rfl⟩: ∃G C,v'= .slice (some ⟨G,0,none⟩) n C:=by
   rcases hG.row.2 with ⟨_,h0⟩|⟨G,C,_,h,_⟩
   ·omega
   ·exact ⟨G,C,h⟩
  have hGat:G=rb∨w.heap.size≤G:=by
   rcases hG.at_ G rfl with h|h
   ·left;simpa [Value.ownBlock] using h.symm
   ·exact .inr h
  obtain ⟨curG,hcurG⟩:=own_cells hG.row rfl
  have hGw:G<w'.heap.size:=(Array.getElem?_eq_some_iff.1 hcurG).1
  have hGK:G≠K:=fun h=>by rw [h,hG.kb] at hcurG;simp at hcurG
  have hGm:G≠m:=fun h=>by rw [h,hG.mb] at hcurG;simp at hcurG
  have hmw':m<w'.heap.size:=Nat.lt_of_lt_of_le hmw hG.size
  have hKw':K<w'.heap.size:=Nat.lt_of_lt_of_le hKw hG.size
  obtain ⟨oK,hoK⟩: ∃o:Obj,o= .cells #[.slice (some ⟨rb,0,none⟩) mm (β 5).c,.int .i64 (E.i 41),.int .u64 (E.i 42),.int .u64 (E.i 43),.int .u64 (E.i 44)] 65 (0,0):=⟨_,rfl⟩
  obtain ⟨wM,hwMe⟩: ∃x,x=wset (wset w' K oK) m (.cells csM 88 (0,0)):=⟨_,rfl⟩
  have hwM: ∀c,c≠m→c≠K→wM.heap[c]?=w'.heap[c]?:=fun c h1 h2=>by rw [hwMe,wset_other h1,wset_other h2]
  have hsz:wM.heap.size=w'.heap.size:=by simp [hwMe,wset]
  have hwm:wM.heap[m]?=w.heap[m]?:=by rw [hwMe,wset_same (by simp [wset];exact hmw'),hm']
  have hwK:wM.heap[K]?=w.heap[K]?:=by rw [hwMe,wset_other hKm,wset_same hKw',hoK,hK']
  have hat5: ∀x,(rw67 (.v 2) (.v 40)).at E (β 5) x↔x=rb:=fun x=>⟨fun h=>(SBlk.at_eq h rfl).trans hre,fun h=>by rw [h,←hre];exact SBlk.at_of hz5 rfl⟩
  obtain ⟨k1,k2⟩:=HOk.absorb (E:=E) (E2:=E) (β:=β) (h:=ct33t.heap) (w:=w) (w':=wM) (bk:={ a:=G,z:=false,n:=n,c:=C,o:=0 }) (s1:=rw67 rvE (.v 0)) hw (by decide) [5] (AgE.refl 500 E) (by decide) (by rw [hwMe];exact hG.os) (by rw [hwMe];exact hG.tape) (by rw [hwMe];exact hG.output) (by rw [hsz];exact hG.size)
   (fun k hk hn'=>by
     have hkr:k≠rb:=fun h=>hn' 5 _ rfl rfl ((hat5 k).2 h)
     by_cases h1:k=m
     ·rw [h1];exact hwm
     ·by_cases h2:k=K
      ·rw [h2];exact hwK
      ·rw [hwM k h1 h2];exact hG.same k hk h1 h2 (by simp [Value.ownBlock];omega))
   (fun j s' hj hs x hx=>by
     have:j=5:=by simpa using hj
     subst this;cases hs;exact hz5)
   (fun x hx=>by
     have:x=G:=SBlk.at_eq hx rfl
     subst this;rw [hsz]
     refine ⟨hGw,?_⟩
     rcases hGat with h|h
     ·exact .inr ⟨5,_,rfl,rfl,(hat5 _).2 h⟩
     ·exact .inl h)
   (ok67 (A:=E.a 0) (cs:=[]) en (rv_den hE hn) ⟨hG.row.1,by
     rcases hG.row.2 with ⟨_,h0⟩|⟨G',C',cu,h,a1,a2,a3⟩
     ·omega
     ·simp only [Value.slice.injEq,Option.some.injEq,Addr.mk.injEq] at h
      obtain ⟨⟨rfl,-,-⟩,-,rfl⟩:=h
      exact .inr ⟨_,_,cu,rfl,a1,by rw [hwM _ hGm hGK];exact a2,a3⟩⟩)
  obtain ⟨k3,k4⟩:=HOk.set (b:=4) (S:=65) (l':=[.own 6,.int .i64 (.c 0),.int .u64 (.v 31),.int .u64 (.v 32),.int .u64 (.v 33)]) k1 rfl
  obtain ⟨k5,k6⟩:=HOk.set (b:=0) (S:=88) (l':=[.ptr 2 Off.z,.ptr 3 Off.z,.int .u64 (.v 31),.int .u64 (.v 32),.int .u64 (.v 33),.own 1,.int .i64 (.v 6),laT,.bool (.c false),.int .i64 (.v 34),.int .i64 (.v 35),.int .i64 (.v 36),.bool (.v 1),.int .i64 (.v 37),.int .i64 (.v 38),.int .i64 (.v 39)]) k3 rfl
  have hW:wset (wset wM (upB β 6 { a:=G,z:=false,n:=n,c:=C,o:=0 } 4).a (.cells (SV.denL E (upB β 6 { a:=G,z:=false,n:=n,c:=C,o:=0 }) [.own 6,.int .i64 (.c 0),.int .u64 (.v 31),.int .u64 (.v 32),.int .u64 (.v 33)]).toArray 65 (0,0))) (upB β 6 { a:=G,z:=false,n:=n,c:=C,o:=0 } 0).a (.cells (SV.denL E (upB β 6 { a:=G,z:=false,n:=n,c:=C,o:=0 }) [.ptr 2 Off.z,.ptr 3 Off.z,.int .u64 (.v 31),.int .u64 (.v 32),.int .u64 (.v 33),.own 1,.int .i64 (.v 6),laT,.bool (.c false),.int .i64 (.v 34),.int .i64 (.v 35),.int .i64 (.v 36),.bool (.v 1),.int .i64 (.v 37),.int .i64 (.v 38),.int .i64 (.v 39)]).toArray 88 (0,0))=w':=by
   rw [upB_ne (by decide:(4:Nat)≠6),upB_ne (by decide:(0:Nat)≠6),hme,hKe,hwMe]
   refine Eq.trans ?_ (wset4 (a:=oK) (b:= .cells csM 88 (0,0)) hG.kb hG.mb hKm)
   congr 2
   rw [hcs]
   show _=((SV.denL E β [.ptr 2 Off.z,.ptr 3 Off.z,.int .u64 (.v 31),.int .u64 (.v 32),.int .u64 (.v 33),.own 1,.int .i64 (.v 6),laT,.bool (.v 0),.int .i64 (.v 34),.int .i64 (.v 35),.int .i64 (.v 36),.bool (.v 1),.int .i64 (.v 37),.int .i64 (.v 38),.int .i64 (.v 39)]).toArray.setIfInBounds 7 (.pointer (some ⟨K,0,none⟩))).setIfInBounds 8 (.bool false)
   have e4:Value.pointer (some ⟨K,0,none⟩)=(SV.ptr 4 Off.z).den E β:=by
    show _=Value.pointer (some ⟨(β 4).a,(β 4).o+Off.den E Off.z,none⟩)
    rw [ho4,hKe];rfl
   rw [e4];rfl
  have k7:HOk E (upB β 6 { a:=G,z:=false,n:=n,c:=C,o:=0 }) ct33t.alts[1].post w':=by rw [←hW];exact k5
  have k8:Ext E ct33t.heap β w E ct33t.alts[1].post (upB β 6 { a:=G,z:=false,n:=n,c:=C,o:=0 }) w':=by rw [←hW];exact (k2.trans k4).trans k6
  refine ctPost0 (c:=ct33t) (a:=ct33t.alts[1]) (β':=upB β 6 { a:=G,z:=false,n:=n,c:=C,o:=0 }) ?_ rfl rfl ?_ k7 k8
  ·simp only [ct33t,altSel,SB.den,hb,Bool.not_true,Bool.false_eq_true,if_false,if_true];rfl
  ·simp only [ct33t,List.getElem_cons_succ,List.getElem_cons_zero,SV.den,Off.den,Off.z,SE.den]
   rw [upB_ne (by decide:(4:Nat)≠6),ho4,hKe];rfl
 ·have hb':E.b 0=false:=by simpa using hb
  refine (getack_no m 2 w (by rw [cell,hcs,←hb'];rfl)).mono ?_
  rintro e w' ⟨rfl,rfl⟩
  refine ext_same E _ β w' _ ct33t rfl (a:=ct33t.alts[0]) ?_ rfl rfl rfl rfl hw
  simp only [ct33t,altSel,SB.den,hb',Bool.not_false,if_true,List.getElem_cons_zero]
end
end Go.Proofs.Ytgianhjmjiiadaa
end
section
set_option autoImplicit true
set_option relaxedAutoImplicit true
set_option linter.unusedVariables false
set_option linter.unusedSimpArgs false
set_option maxRecDepth 100000
namespace Go.Proofs.Ytgianhjmjiiadaa
open Go Go.Sy Go.RowKit
section
variable {E0 E E':Env} {i:Nat}
theorem catch_idle (a:Value) (w:World):CallsD Try.prog 13 #[a] .returning w fun e u w'=>(∃v,e= .returned v)∧u= .returning∧w'=w:=by
 refine callsD_of_wpS Try.func13 rfl fun c₀ cs hu=>?_
 apply wpS_seq
 apply wpS_region
 simp [wpOpsS,go_sem,recoverD,hu,Try.ntmps13,Exit.thenS]
 refine wpS_cond (t:=false) (by simp [Act.eval,Array.replicate]) ?_
 simp only [Bool.false_eq_true,if_false]
 refine wpS_of_wp (wp_skip ?_)
 cases c₀
 simp_all [bodyPostS,results,Try.results13]
theorem info_of {T:TypeId} {c S b:Nat} (h:(Try.prog.info? T).map (fun i=>(i.zero.map (·.cells.size),i.size,i.bytes))=some (some c,S,b)): ∃i z,Try.prog.info? T=some i∧i.zero=some z∧z.cells.size=c∧i.size=S∧i.bytes=b:=by
 cases hq:Try.prog.info? T with
 |none=>rw [hq] at h;cases h
 |some i0=>
  rw [hq] at h
  simp only [Option.map_some,Option.some.injEq,Prod.mk.injEq] at h
  obtain ⟨h1,h2,h3⟩:=h
  cases hz:i0.zero with
  |none=>rw [hz] at h1;cases h1
  |some z0=>rw [hz] at h1;exact ⟨i0,z0,rfl,hz,by simpa using h1,h2,h3⟩
theorem rokq:RecOk fns 1000 1 rq where
 p n A B L K C a v w:=Iff.rfl
 ft n A B L K C a v x:=Iff.rfl
 cat C b a:=rfl
 good:=by decide
theorem i35:(Try.prog.info? 35).map (fun i=>(i.zero.map (·.cells.size),i.size,i.bytes))=some (some 8,8,72):=by kernel_rfl
theorem t29:Try.prog.underlying 29=some (.slice 35):=by kernel_rfl
theorem prm19_ok (E:Env) (hE:E.fn=fns):PrmOk E (prm19 Try.prog):=prm_ok E hE (by intro c hc;cases hc) (by intro b hb;cases hb)
noncomputable def ofE (k:Bool) (E:Env):St:=
 { c0:=E.i 131,c1:=E.i 132,ce:=E.i 133,db:=E.i 106,lt:=E.i 134,lo:=E.i 135,ig:=E.i 136,ct:=E.i 137,al:=E.i 138,lw:=E.i 139,nw:=E.b 100,qd:=E.b 101,k,n:=(E.i 100).toNat,m:=cond k (E.i 140).toNat 0,A:=E.a 100,B:=cond k (E.a 102) (fun _=>0) }
def rcvB (k:Bool) (s:St) (p e t:Int) (z:Bool) (lw:Int):St:=
 let ec:Int:=if (e==1)=true then 2 else if (e==2)=true then 3 else if (e==3)=true then 4 else 1
 let lo:Int:=if decide (s.lo≤p)=true then p else s.lo
 let nm:Bool:=decide (1≤lo)&&decide (hm (addA s.A s.n p) (addN s.A s.n p) (lo - 1) s.db≠ -1∧s.B 1≤hm (addA s.A s.n p) (addN s.A s.n p) (lo - 1) s.db∧s.B 1 - 1<hm (addA s.A s.n p) (addN s.A s.n p) (lo - 1) s.db)
 let sq:Bool:=cond k (!(!s.qd&&!(!z&&!(!msD s p&&(!decide (2≤s.ct+1)&&(!nm&&!(ec==4))))))) (!(!s.qd&&!(!z&&!(!decide (2≤s.ct+1)&&!(ec==4)))))
 { s with
   c0:=if (ec==3)=true then s.c0+1 else s.c0
   c1:=if (ec==2)=true then s.c1+1 else s.c1
   ce:=if (ec==4)=true then s.ce+1 else s.ce
   nw:=!(!s.nw&&z)
   lt:=if decide (s.lo≤p)=true then t else s.lt
   lo
   qd:=sq
   ct:=if (!z)=true then s.ct+1 else s.ct
   al:=if (!z)=true then (if sq=true then (if s.qd=true then s.al else 0) else t+25000000) else s.al
   lw
   n:=addN s.A s.n p
   A:=addA s.A s.n p }
theorem rcv_b {s:St} {p e t:Int} {z el:Bool} {lw:Int} (hz:el=!z) (hl:(if s.lw= -1∨p<s.lw then p else s.lw)=lw):rcv s p e t el=rcvB s.k s p e t z lw:=by
 subst hz
 have h1:ecnI e=(if (e==1)=true then 2 else if (e==2)=true then 3 else if (e==3)=true then 4 else 1):=by
  unfold ecnI;simp only [beq_iff_eq]
 have h2:grt s.lo p=if decide (s.lo≤p)=true then p else s.lo:=by unfold grt;simp only [decide_eq_true_eq]
 have h3:sqD s p e (!z)=cond s.k (!(!s.qd&&!(!z&&!(!msD s p&&(!decide (2≤s.ct+1)&&(!nmD s p&&!(ecnI e==4))))))) (!(!s.qd&&!(!z&&!(!decide (2≤s.ct+1)&&!(ecnI e==4))))):=by
  have h4:decide (ecnI e=4)=(ecnI e==4):=rfl
  unfold sqD
  rw [h4]
  cases s.k<;>cases s.qd<;>cases z<;>cases msD s p<;>cases decide (2≤s.ct+1)<;>cases nmD s p<;>cases (ecnI e==4)<;>rfl
 unfold rcv rcvB
 simp only [h3,h2,hl]
 unfold nmD
 simp only [h2]
 rw [←h1]
 congr 1
 ·simp only [beq_iff_eq]
 ·simp only [beq_iff_eq]
 ·simp only [beq_iff_eq]
 ·simp only [decide_eq_true_eq]
 ·cases s.nw<;>cases z<;>rfl
structure R8 (E0 E:Env) (i:Nat):Prop where
 ag:AgP 100 E0 E
 i110:E.i 110=i
 le:i≤(E0.i 60).toNat
 A: ∀t,t<i*8→E.a 120 t=colA (E0.a 5) t
 L: ∀t,t<i→E.a 122 t=colL (E0.a 5) t
 C: ∀k,k<i→ ∀u,u<(colL (E0.a 5) k).toNat*2→E.a 124 (k*128+u)=colC (E0.a 5) (k*128+u)
theorem R8.up (h:R8 E0 E i) (H:AgE 1000 E E'):R8 E0 E' i where
 ag:=h.ag.trans (by omega) H.p
 i110:=by rw [H.i 110 (by decide)];exact h.i110
 le:=h.le
 A:=by rw [H.a 120 (by decide)];exact h.A
 L:=by rw [H.a 122 (by decide)];exact h.L
 C:=by rw [H.a 124 (by decide)];exact h.C
theorem ofE_up (H:AgE 1000 E E') (k:Bool):ofE k E'=ofE k E:=by
 unfold ofE
 rw [H.i 131 (by decide),H.i 132 (by decide),H.i 133 (by decide),H.i 106 (by decide),H.i 134 (by decide),H.i 135 (by decide),H.i 136 (by decide),H.i 137 (by decide),H.i 138 (by decide),H.i 139 (by decide),H.b 100 (by decide),H.b 101 (by decide),H.i 100 (by decide),H.i 140 (by decide),H.a 100 (by decide),H.a 102 (by decide)]
theorem tlE {a m:Nat} {e:SE} {l:SL} (he:(e.den E).toNat=m) (t:Nat):(AE.tl (.v a) e l).den E t=if t<m then E.a a t else l.nth E (t - m):=by
 simp only [AE.den,he]
theorem catE (hE:E.fn=fns) {b:SE} {R:AE} {m:Nat} (h0:(b.den E).toNat=m) (t:Nat):(AE.ap 1 (.a (.v 124) (.i b (.a R .nil)))).den E t=if t<m then E.a 124 t else R.den E (t - m):=by
 simp only [AE.den,SL.den,hE]
 show (if t<(b.den E).toNat then _ else _)=_
 rw [h0]
theorem R8.next (h:R8 E0 E i) (hlt:i<(E0.i 60).toNat) (hag:AgP 100 E0 E') (h110:E'.i 110=E.i 110+1) {lA lL R:Nat→Int}
 (cA: ∀t,E'.a 120 t=if t<i*8 then E.a 120 t else lA (t - i*8)) (hA: ∀c,c<8→lA c=cellA (E0.a 5) i c)
 (cL: ∀t,E'.a 122 t=if t<i then E.a 122 t else lL (t - i)) (hL:lL 0=colL (E0.a 5) i)
 (cC: ∀t,E'.a 124 t=if t<i*128 then E.a 124 t else R (t - i*128)) (hR: ∀u,u<(colL (E0.a 5) i).toNat*2→R u=colC (E0.a 5) (i*128+u)) (hb: ∀k,k≤i→(colL (E0.a 5) k).toNat*2≤128):R8 E0 E' (i+1) where
 ag:=hag
 i110:=by rw [h110,h.i110];omega
 le:=hlt
 A t ht:=by
   rw [cA]
   split
   ·rename_i h1;exact h.A t h1
   ·rename_i h1
    rw [hA _ (by omega)]
    unfold colA
    rw [show t/8=i by omega,show t % 8=t - i*8 by omega]
 L t ht:=by
   rw [cL]
   split
   ·rename_i h1;exact h.L t h1
   ·rename_i h1
    have:t=i:=by omega
    subst this
    rw [Nat.sub_self];exact hL
 C k hk u hu:=by
   have:=hb k (by omega)
   rw [cC]
   split
   ·rename_i h1;exact h.C k (by omega) u hu
   ·rename_i h1
    have:k=i:=by omega
    subst this
    rw [show k*128+u - k*128=u by omega];exact hR u hu
structure Say (S:Nat→Int) (i:Nat) (f w:Bool) (d a x y z:Int):Prop where
 f:isC S i=f
 w:wrC S i=w
 d:dlC S i=d
 a:atC S i=a
 x:cnC S i (sAt S i).c0=x
 y:cnC S i (sAt S i).c1=y
 z:cnC S i (sAt S i).ce=z
theorem Say.nth {S:Nat→Int} {f w:SB} {q d a x y z:SE} (h:Say S i (f.den E) (w.den E) (d.den E) (a.den E) (x.den E) (y.den E) (z.den E)) (hq:q.den E=0): ∀c,c<8→(SL.b f (.b w (.i q (.i d (.i a (.i x (.i y (.i z .nil)))))))).nth E c=cellA S i c:=by
 intro c hc
 have:c=0∨c=1∨c=2∨c=3∨c=4∨c=5∨c=6∨c=7:=by omega
 rcases this with rfl|rfl|rfl|rfl|rfl|rfl|rfl|rfl
 ·show b2i (f.den E)=b2i (isC S i);rw [h.f]
 ·show b2i (w.den E)=b2i (wrC S i);rw [h.w]
 ·exact hq
 ·exact h.d.symm
 ·exact h.a.symm
 ·exact h.x.symm
 ·exact h.y.symm
 ·exact h.z.symm
theorem frA_f {S:Nat→Int} (h:kdA S i≠1):frA S i=false:=by unfold frA;rw [decide_eq_false h];rfl
theorem frA_n {S:Nat→Int} (h:asks (sAt S i) (tmA S i) (onA S i)=false):frA S i=false:=by unfold frA;rw [h,Bool.and_false]
theorem frA_t {S:Nat→Int} (hk:kdA S i=1) (h:asks (sAt S i) (tmA S i) (onA S i)=true):frA S i=true:=by unfold frA;rw [h,decide_eq_true hk];rfl
theorem colL_f {S:Nat→Int} (h:frA S i=false):colL S i=0:=by unfold colL;rw [h];rfl
theorem say_old {S:Nat→Int} (hk:kdA S i=0) (ho:isOld (sAt S i) (pnA S i)=true):Say S i false true 0 0 0 0 0:=by
 have hf:=frA_f (S:=S) (i:=i) (by omega)
 refine ⟨?_,?_,?_,?_,?_,?_,?_⟩<;>simp [isC,wrC,dlC,atC,cnC,hf,hk,ho]
theorem say_new {S:Nat→Int} (hk:kdA S i=0) (ho:isOld (sAt S i) (pnA S i)=false):Say S i false false 0 0 0 0 0:=by
 have hf:=frA_f (S:=S) (i:=i) (by omega)
 refine ⟨?_,?_,?_,?_,?_,?_,?_⟩<;>simp [isC,wrC,dlC,atC,cnC,hf,hk,ho]
theorem say_non {S:Nat→Int} (hk:kdA S i=1) (ho:asks (sAt S i) (tmA S i) (onA S i)=false):Say S i false false 0 0 0 0 0:=by
 have hf:=frA_n ho
 refine ⟨?_,?_,?_,?_,?_,?_,?_⟩<;>simp [isC,wrC,dlC,atC,cnC,hf,hk]
theorem say_cut {S:Nat→Int} (hk:kdA S i=2):Say S i false false 0 0 0 0 0:=by
 have hf:=frA_f (S:=S) (i:=i) (by omega)
 refine ⟨?_,?_,?_,?_,?_,?_,?_⟩<;>simp [isC,wrC,dlC,atC,cnC,hf,hk]
theorem say_dup {S:Nat→Int} (hk:kdA S i=3):Say S i (isOld (sAt S i) (pnA S i)) false 0 0 0 0 0:=by
 have hf:=frA_f (S:=S) (i:=i) (by omega)
 refine ⟨?_,?_,?_,?_,?_,?_,?_⟩<;>simp [isC,wrC,dlC,atC,cnC,hf,hk]
theorem say_al {S:Nat→Int} (hk:kdA S i=4):Say S i false false 0 (sAt S i).al 0 0 0:=by
 have hf:=frA_f (S:=S) (i:=i) (by omega)
 refine ⟨?_,?_,?_,?_,?_,?_,?_⟩<;>simp [isC,wrC,dlC,atC,cnC,hf,hk]
theorem say_fr {S:Nat→Int} (hf:frA S i=true):Say S i true false (dlC S i) 0 (sAt S i).c0 (sAt S i).c1 (sAt S i).ce:=by
 have hk:kdA S i=1:=by unfold frA at hf;rw [Bool.and_eq_true,decide_eq_true_eq] at hf;exact hf.1
 refine ⟨?_,?_,rfl,?_,?_,?_,?_⟩<;>simp [isC,wrC,dlC,atC,cnC,hf,hk]
theorem st_old {S:Nat→Int} (hk:kdA S i=0) (ho:isOld (sAt S i) (pnA S i)=true):sAt S (i+1)=sAt S i:=by simp only [sAt,stp,if_pos hk,ho,if_true]
theorem st_new {S:Nat→Int} (hk:kdA S i=0) (ho:isOld (sAt S i) (pnA S i)=false):sAt S (i+1)=rcv (sAt S i) (pnA S i) (ecA S i) (tmA S i) (elA S i):=by simp only [sAt,stp,if_pos hk,ho,Bool.false_eq_true,if_false]
theorem st_non {S:Nat→Int} (hk:kdA S i=1) (ho:asks (sAt S i) (tmA S i) (onA S i)=false):sAt S (i+1)=sAt S i:=by
 simp only [sAt,stp,ho,Bool.false_eq_true,if_false,hk,show¬ (1:Int)=0 by omega,if_true]
theorem st_fr {S:Nat→Int} (hk:kdA S i=1) (ho:asks (sAt S i) (tmA S i) (onA S i)=true):sAt S (i+1)=fram (sAt S i):=by
 simp only [sAt,stp,ho,hk,show¬ (1:Int)=0 by omega,if_true,if_false]
theorem st_cut {S:Nat→Int} (hk:kdA S i=2):sAt S (i+1)=cutS (sAt S i) (pnA S i):=by
 simp only [sAt,stp,hk,show¬ (2:Int)=0 by omega,show¬ (2:Int)=1 by omega,if_true,if_false]
theorem st_else {S:Nat→Int} (h0:kdA S i≠0) (h1:kdA S i≠1) (h2:kdA S i≠2):sAt S (i+1)=sAt S i:=by
 simp only [sAt,stp,if_neg h0,if_neg h1,if_neg h2]
def St.setA (s:St) (A:Nat→Int):St:=⟨s.c0,s.c1,s.ce,s.db,s.lt,s.lo,s.ig,s.ct,s.al,s.lw,s.nw,s.qd,s.k,s.n,s.m,A,s.B⟩
structure S8 (E:Env) (k:Bool) (s:St):Prop where
 e:s=(ofE k E).setA s.A
 a:s.n≠0→s.A=E.a 100
 n0:0≤E.i 100
 m0:k=true→0≤E.i 140
theorem S8.up {k:Bool} {s:St} (h:S8 E k s) (H:AgE 1000 E E'):S8 E' k s:=⟨by rw [ofE_up H k];exact h.e,fun hn=>by rw [H.a 100 (by decide)];exact h.a hn,by rw [H.i 100 (by decide)];exact h.n0,fun hk=>by rw [H.i 140 (by decide)];exact h.m0 hk⟩
theorem S8.full {k:Bool} {s:St} (h:S8 E k s) (hn:s.n≠0):s=ofE k E:=
 h.e.trans (by rw [h.a hn];rfl)
theorem S8.of {k:Bool} {s:St} (h:s=ofE k E) (n0:0≤E.i 100) (m0:k=true→0≤E.i 140):S8 E k s:=⟨by subst h;rfl,fun _=>by subst h;rfl,n0,m0⟩
theorem S8.inv {k:Bool} {s:St} {top:Int} {j:Nat} (h:S8 E k s) (hI:Inv s j top):Inv (ofE k E) j top:=by
 by_cases hn:s.n=0
 ·have hM: ∀(A:Nat→Int) x,¬Mem A 0 x:=by rintro A x ⟨q,hq,_⟩;exact Nat.not_lt_zero _ hq
  have h2:=h.e
  have hz:(ofE k E).n=0:=by rw [←hn];exact (congrArg St.n h2).symm
  have g: ∀{α:Type} (f:St→α),(∀(s:St) (B:Nat→Int),f (s.setA B)=f s)→f s=f (ofE k E):=fun f hf=>by
   exact (congrArg f h2).trans (hf _ _)
  have e1:=g St.c0 (fun _ _=>rfl);have e2:=g St.c1 (fun _ _=>rfl);have e3:=g St.ce (fun _ _=>rfl);have e4:=g St.db (fun _ _=>rfl)
  have e5:=g St.lt (fun _ _=>rfl);have e6:=g St.lo (fun _ _=>rfl);have e7:=g St.ig (fun _ _=>rfl);have e8:=g St.ct (fun _ _=>rfl)
  have e9:=g St.al (fun _ _=>rfl);have e10:=g St.lw (fun _ _=>rfl);have e11:=g St.nw (fun _ _=>rfl);have e12:=g St.k (fun _ _=>rfl)
  have e13:=g St.m (fun _ _=>rfl);have e14:=g St.B (fun _ _=>rfl)
  obtain ⟨i1,i2,i3,i4,i5,i6,i9,i10,i11,i12,i13,i14,i15,i16,i17,i18,i19,i20,i21,i22⟩:=hI
  rw [hn] at i2 i3 i4
  refine ⟨⟨fun q hq=>?_,fun q q' _ hq=>?_,fun q hq=>?_,fun q hq=>?_⟩,fun x hx=>?_,?_,fun ht=>?_,i5,i6,by omega,?_,?_,?_,?_,?_,?_,?_,?_,?_,?_,?_,?_,?_⟩
  ·omega
  ·omega
  ·omega
  ·omega
  ·rw [hz] at hx;exact absurd hx (hM _ _)
  ·rw [hz,←e11,←e7,←e6];exact i3
  ·exact absurd (i4 ht).2 (hM _ _)
  ·rw [←e11];intro hw;have:=i10 hw;omega
  ·rw [←e12,←e13,←e14];exact i11
  ·rw [←e4];exact i12
  ·rw [←e4,←e7];exact i13
  ·rw [←e7];exact i14
  ·rw [←e1];exact i15
  ·rw [←e2];exact i16
  ·rw [←e3];exact i17
  ·rw [←e8];exact i18
  ·rw [←e5];exact i19
  ·rw [←e9];exact i20
  ·rw [←e10];exact i21
  ·rw [←e7];exact i22
 ·rw [←h.full hn];exact hI
structure In8 (E0 E:Env) (i q:Nat):Prop where
 lt:i<(E0.i 60).toNat
 fr:frA (E0.a 5) i=true
 d:E.i 151=dlC (E0.a 5) i
 i150:E.i 150=q
 qm:(q:Int)≤E.i 140
 X: ∀t,t<q*2→E.a 103 t=E.a 102 t
theorem In8.up {q:Nat} (h:In8 E0 E i q) (H:AgE 1000 E E'):In8 E0 E' i q:=⟨h.lt,h.fr,by rw [H.i 151 (by decide)];exact h.d,by rw [H.i 150 (by decide)];exact h.i150,by rw [H.i 140 (by decide)];exact h.qm,by rw [H.a 103 (by decide),H.a 102 (by decide)];exact h.X⟩
def I8 (E0:Env) (j:Nat) (E:Env):Prop:=
 (j=0∧ ∃i,R8 E0 E i∧S8 E false (sAt (E0.a 5) i))∨(j=1∧ ∃i,R8 E0 E i∧S8 E true (sAt (E0.a 5) i))∨(j=2∧ ∃i q,R8 E0 E i∧S8 E true (sAt (E0.a 5) (i+1))∧In8 E0 E i q)
theorem I8.mk0 (hR:R8 E0 E i) (hS:S8 E false (sAt (E0.a 5) i)):I8 E0 0 E:= .inl ⟨rfl,i,hR,hS⟩
theorem I8.mk1 (hR:R8 E0 E i) (hS:S8 E true (sAt (E0.a 5) i)):I8 E0 1 E:= .inr (.inl ⟨rfl,i,hR,hS⟩)
theorem I8.mk2 {q:Nat} (hR:R8 E0 E i) (hS:S8 E true (sAt (E0.a 5) (i+1))) (hI:In8 E0 E i q):I8 E0 2 E:= .inr (.inr ⟨rfl,i,q,hR,hS,hI⟩)
def mu8 (E0:Env) (j:Nat) (E:Env):Nat:=(E0.i 60 - E.i 110).toNat*200+(if j=2 then (E.i 140 - E.i 150).toNat else 100)
structure P8 (E0:Env):Prop where
 n0:0≤E0.i 60
 n1:E0.i 60≤63
 S:SOk (E0.a 5) (E0.i 60).toNat
theorem pre8 (hE:E.fn=fns) (hF:Facts E ct8.pre):P8 E:=by
 have hF':Facts E [((.le (.c 0) (.v 60)),true),((.le (.v 60) (.c 63)),true),sokF]:=hF
 simp only [sokF,facts_cons,facts_nil,le_t,d_c,d_v,and_true] at hF'
 obtain ⟨a1,a2,a3⟩:=hF'
 refine ⟨a1,a2,?_⟩
 have e':E.fn.g 10 [.a ((AE.v 5).den E),.i (E.i 60)]=true:=a3
 rw [hE] at e'
 have e2: @decide (SOk ((AE.v 5).den E) (E.i 60).toNat) (Classical.propDecidable _)=true:=e'
 exact @of_decide_eq_true _ (Classical.propDecidable _) e2
theorem pf_of (hE:E.fn=fns) (hF0:Facts E0 ct8.pre) (hR:R8 E0 E i) {k:Bool} {top:Int} {j:Nat} (hj:j≤63) (h:Inv (ofE k E) j top) (n0:0≤E.i 100):Facts E pf8:=by
 have hi:=hR.i110
 have hle:=hR.le
 have P:=hF0
 have a1:0≤E0.i 60:=of_decide_eq_true (hF0 (.le (.c 0) (.v 60),true) (by simp [ct8,bd]))
 have a2:E0.i 60≤63:=of_decide_eq_true (hF0 (.le (.v 60) (.c 63),true) (by simp [ct8,bd]))
 have h1:(E.i 100).toNat≤51:=h.n1
 have h2:E.i 106≤E.i 136:=h.db
 have h3: -1≤E.i 106:=h.db0
 have h4:E.i 136≤max 0 top:=h.ig
 have h5:=h.t1
 have h6:=h.t0
 have h7:0≤E.i 131∧E.i 131≤j:=h.c0
 have h8:0≤E.i 132∧E.i 132≤j:=h.c1
 have h9:0≤E.i 133∧E.i 133≤j:=h.ce
 have h10:0≤E.i 134∧E.i 134≤1000000000000000:=h.lt
 have h11:0≤E.i 137∧E.i 137≤j:=h.ct
 have h12:0≤E.i 138∧E.i 138≤2000000000000000:=h.al
 have h13: -1≤E.i 139∧E.i 139≤400:=h.lw
 have h14:0≤E.i 135∧E.i 135≤400∧0≤E.i 136:=by
  have e1:=h.e;have e2:=h.t;have e3:0≤E.i 136:=h.ig0
  have g1:(ofE k E).lo=E.i 135:=rfl
  have g2:(ofE k E).ig=E.i 136:=rfl
  rw [g1,g2] at e1;rw [g1] at e2
  rcases Int.lt_or_le top 0 with c|c
  ·have:=e1 (by omega);omega
  ·have:=e2 c
   have:=h.db
   omega
 have h15:E.b 100=true→1≤(E.i 100).toNat:=h.nw
 have hrg:Rg (E.a 100) (E.i 100).toNat:=h.rg
 have hor:(orB (.not (.v 100)) (.le (.c 1) (.v 100))).den E=true:=by
  show (!(!(!E.b 100)&&!decide (1≤E.i 100)))=true
  cases hb:E.b 100
  ·rfl
  ·have:=h15 hb
   rw [decide_eq_true (show 1≤E.i 100 by omega)];rfl
 have hrgF:=of_rg hE (.v 100) (.v 100) (by
  show Rg ((AE.v 100).den E) (E.i 100).toNat
  rw [show (AE.v 100).den E=E.a 100 from by funext t;simp only [AE.den]];exact hrg)
 refine facts_append (facts_append (facts_append (facts_append (facts_append (facts_append (facts_append (facts_append (facts_append (facts_append (facts_append (facts_append (facts_append (hR.ag.facts (by decide) hF0) ?_) ?_) ?_) ?_) ?_) ?_) ?_) ?_) ?_) ?_) ?_) ?_) ?_
 all_goals first
  |(simp only [bd,facts_cons,facts_nil,le_t,d_c,d_v,and_true];omega)
  |skip
 intro q hq
 simp only [List.mem_cons,List.not_mem_nil,or_false] at hq
 rcases hq with rfl|rfl|rfl
 ·exact hrgF
 ·exact decide_eq_true h2
 ·exact hor
theorem rd_of8 (hE:E.fn=fns) {top:Int} {j:Nat} (h:Inv (ofE true E) j top) (m0:0≤E.i 140):Facts E rdF8:=by
 obtain ⟨a,b,c⟩:=h.k rfl
 have a':1≤(E.i 140).toNat:=a
 have b':(E.i 140).toNat≤51:=b
 have c':RgD (E.a 102) (E.i 140).toNat:=c
 refine facts_append (by simp only [bd,facts_cons,facts_nil,le_t,d_c,d_v,and_true];omega) ?_
 intro q hq
 simp only [List.mem_cons,List.not_mem_nil,or_false] at hq
 subst hq
 show E.fn.g 2 [.a ((AE.v 102).den E),.i (E.i 140)]=true
 rw [hE,show (AE.v 102).den E=E.a 102 from by funext t;simp only [AE.den]]
 show @decide (RgD (E.a 102) (E.i 140).toNat) (Classical.propDecidable _)=true
 exact @decide_eq_true _ (Classical.propDecidable _) c'
theorem sAt_k {S:Nat→Int} {n:Nat} (hS:SOk S n) (hn:n≤63) {j:Nat} (hj:j≤n):(colL S j).toNat*2≤128:=by
 unfold colL
 have:=(inv_at hS hn j hj).n1
 split
 ·omega
 ·simp
theorem addA_0 (A A':Nat→Int) (p:Int):addA A 0 p=addA A' 0 p:=by
 funext j
 show ins2 A 0 0 p p j=ins2 A' 0 0 p p j
 unfold ins2
 simp only [Nat.zero_mul,Nat.not_lt_zero,if_false]
 by_cases h1:j=0
 ·simp [h1]
 ·by_cases h2:j=0+1
  ·simp [h2]
  ·rw [if_neg h1,if_neg h1,if_neg h2,if_neg h2,if_neg (by omega),if_neg (by omega)]
theorem rcv_A {s:St} {A':Nat→Int} (hn:s.n=0) (p e t:Int) (el:Bool):rcv (s.setA A') p e t el=rcv s p e t el:=by
 have h1:addA A' s.n p=addA s.A s.n p:=by rw [hn];exact addA_0 _ _ _
 have h2:addN A' s.n p=addN s.A s.n p:=by rw [hn];rfl
 have h3:nmD (s.setA A') p=nmD s p:=by
  show (decide (1≤grt s.lo p)&&decide (hm (addA A' s.n p) (addN A' s.n p) (grt s.lo p - 1) s.db≠ -1∧s.B 1≤hm (addA A' s.n p) (addN A' s.n p) (grt s.lo p - 1) s.db∧s.B 1 - 1<hm (addA A' s.n p) (addN A' s.n p) (grt s.lo p - 1) s.db))=_
  rw [h1,h2];rfl
 have h4:sqD (s.setA A') p e el=sqD s p e el:=by
  show (s.qd||(el&&((s.k&&msD s p)||(decide (2≤s.ct+1)||((s.k&&nmD (s.setA A') p)||decide (ecnI e=4))))))=_
  rw [h3];rfl
 unfold rcv
 rw [h4]
 show St.mk _ _ _ _ _ _ _ _ _ _ _ _ _ (addN A' s.n p) _ (addA A' s.n p) _=_
 rw [h1,h2]
 rfl
theorem memD_0 (A:Nat→Int) (p:Int):memD A 0 p=false:=by
 cases h:memD A 0 p with
 |false=>rfl
 |true=>obtain ⟨q,hq,_⟩:=memD_iff.1 h;exact absurd hq (Nat.not_lt_zero _)
theorem S8.rcv {k:Bool} {s:St} (h:S8 E k s) (p e t:Int) (el:Bool):rcv s p e t el=Ytgianhjmjiiadaa.rcv (ofE k E) p e t el:=by
 by_cases hn:s.n=0
 ·have h1:=h.e
  have h2:(ofE k E).n=0:=by rw [←hn];exact (congrArg St.n h1).symm
  rw [h1];exact rcv_A h2 p e t el
 ·rw [←h.full hn]
theorem S8.old {k:Bool} {s:St} (h:S8 E k s) (p:Int):isOld s p=(decide (p<E.i 106)||memD (E.a 100) (E.i 100).toNat p):=by
 by_cases hn:s.n=0
 ·have h1:=h.e
  have h2:(ofE k E).n=0:=by rw [←hn];exact (congrArg St.n h1).symm
  have h3:(E.i 100).toNat=0:=h2
  have h4:s.db=E.i 106:=congrArg St.db h1
  unfold isOld
  rw [hn,h3,h4,memD_0,memD_0]
 ·rw [h.full hn];rfl
theorem S8.asks {k:Bool} {s:St} (h:S8 E k s) (t:Int) (on:Bool):asks s t on=(E.b 100&&!(on&&(!E.b 101&&(decide (E.i 138=0)||decide (t<E.i 138))))):=by
 rw [h.e];rfl
structure Cx (E0 E:Env) (i:Nat) (k:Bool) (b:Nat):Prop where
 h0:E0.fn=fns
 hE:E.fn=fns
 F0:Facts E0 ct8.pre
 P:P8 E0
 R:R8 E0 E i
 S:S8 E k (sAt (E0.a 5) i)
 I:Inv (ofE k E) i (topA (E0.a 5) i)
 b:b=(E0.i 60 - E.i 110).toNat*200+100
def rsE (c:Int):SE:= .rd (.v 5) (.add (.mul (.v 110) (.c 6)) (.c c))
def rs0:SE:= .rd (.v 5) (.mul (.v 110) (.c 6))
section
variable {k:Bool} {b:Nat}
theorem Cx.at0 (c:Cx E0 E i k b):rs0.den E=kdA (E0.a 5) i:=by
 show E.a 5 (E.i 110*6).toNat=E0.a 5 (i*6)
 rw [c.R.ag.a 5 (by decide),c.R.i110,show ((i:Int)*6).toNat=i*6 by omega]
theorem Cx.at' (c:Cx E0 E i k b) (j:Nat):(rsE j).den E=E0.a 5 (i*6+j):=by
 show E.a 5 (E.i 110*6+(j:Int)).toNat=_
 rw [c.R.ag.a 5 (by decide),c.R.i110,show ((i:Int)*6+(j:Int)).toNat=i*6+j by omega]
theorem Cx.ec (c:Cx E0 E i k b):(rsE 1).den E=ecA (E0.a 5) i:=c.at' 1
theorem Cx.pn (c:Cx E0 E i k b):(rsE 2).den E=pnA (E0.a 5) i:=c.at' 2
theorem Cx.tm (c:Cx E0 E i k b):(rsE 3).den E=tmA (E0.a 5) i:=c.at' 3
theorem Cx.el (c:Cx E0 E i k b):elA (E0.a 5) i=!(SB.eq (rsE 4) (.c 0)).den E:=by
 show (!(E0.a 5 (i*6+4)==0))=!((rsE 4).den E==0)
 rw [show (rsE 4).den E=_ from c.at' 4]
theorem Cx.on (c:Cx E0 E i k b):onA (E0.a 5) i=!(SB.eq (rsE 5) (.c 0)).den E:=by
 show (!(E0.a 5 (i*6+5)==0))=!((rsE 5).den E==0)
 rw [show (rsE 5).den E=_ from c.at' 5]
theorem Cx.lt (c:Cx E0 E i k b) (h:(SB.lt (.v 110) (.v 60)).den E=true):i<(E0.i 60).toNat:=by
 have h1:E.i 110<E.i 60:=lt_t.1 h
 have h2:=c.R.ag.i 60 (by decide)
 have h3:=c.R.i110
 omega
theorem Cx.kd (c:Cx E0 E i k b) {n:Int} (h:(SB.eq rs0 (.c n)).den E=true):kdA (E0.a 5) i=n:=by
 rw [←c.at0];exact eq_t.1 h
theorem Cx.nk (c:Cx E0 E i k b) {n:Int} (h:(SB.eq rs0 (.c n)).den E=false):kdA (E0.a 5) i≠n:=by
 rw [←c.at0];exact eq_f.1 h
def memS:SB:= .ap 6 (.a (.v 100) (.i (.v 100) (.i (rsE 2) .nil)))
theorem memS_den (hE:E.fn=fns):memS.den E=memD (E.a 100) (E.i 100).toNat ((rsE 2).den E):=by
 obtain ⟨ii,bb,aa,oo,fn⟩:=E
 have:fn=fns:=hE
 subst this;rfl
theorem Cx.old (c:Cx E0 E i k b):isOld (sAt (E0.a 5) i) (pnA (E0.a 5) i)=((SB.lt (rsE 2) (.v 106)).den E||memS.den E):=by
 rw [c.S.old,memS_den c.hE,←c.pn];rfl
theorem Cx.old1 (c:Cx E0 E i k b) (h:(SB.lt (rsE 2) (.v 106)).den E=true):isOld (sAt (E0.a 5) i) (pnA (E0.a 5) i)=true:=by rw [c.old,h];rfl
theorem Cx.old2 (c:Cx E0 E i k b) (h:memS.den E=true):isOld (sAt (E0.a 5) i) (pnA (E0.a 5) i)=true:=by rw [c.old,h,Bool.or_true]
theorem Cx.old3 (c:Cx E0 E i k b) (h1:(SB.lt (rsE 2) (.v 106)).den E=false):isOld (sAt (E0.a 5) i) (pnA (E0.a 5) i)=memS.den E:=by rw [c.old,h1];rfl
theorem Cx.asks (c:Cx E0 E i k b):asks (sAt (E0.a 5) i) (tmA (E0.a 5) i) (onA (E0.a 5) i)=((SB.v 100).den E&&!(!(SB.eq (rsE 5) (.c 0)).den E&&(!(SB.v 101).den E&&((SB.eq (.v 138) (.c 0)).den E||(SB.lt (rsE 3) (.v 138)).den E)))):=by
 rw [c.S.asks,c.on,←c.tm];rfl
theorem Cx.cb (c:Cx E0 E i k b): ∀j,j≤i→(colL (E0.a 5) j).toNat*2≤128:=fun j hj=>sAt_k c.P.S (by have:=c.P.n1;omega) (Nat.le_trans hj c.R.le)
theorem Cx.dead1 (c:Cx E0 E i k b) (h:(SB.and (.v 100) (.not (.le (.c 1) (.v 100)))).den E=true):False:=by
 have h':(E.b 100&&!decide (1≤E.i 100))=true:=h
 rw [Bool.and_eq_true] at h'
 have h1:1≤(E.i 100).toNat:=c.I.nw h'.1
 rw [decide_eq_true (show 1≤E.i 100 by omega)] at h'
 exact absurd h'.2 (by decide)
theorem Cx.dead2 (c:Cx E0 E i k b) (h1:(SB.lt (rsE 2) (.v 106)).den E=true) (h2:(SB.le (rsE 2) (.v 136)).den E=false):False:=by
 have h1:(rsE 2).den E<E.i 106:=lt_t.1 h1
 have h2:E.i 136<(rsE 2).den E:=le_f.1 h2
 have h3:E.i 106≤E.i 136:=c.I.db
 omega
theorem Cx.fin (c:Cx E0 E i k b) (hlt:i<(E0.i 60).toNat) {E':Env} (f w:SB) (d a x y z l:SE) (Q:AE) (hag:AgP 100 E0 E') (h110:E'.i 110=E.i 110+1)
 (h120:E'.a 120=(AE.tl (.v 120) (.mul (.v 110) (.c 8)) (.b f (.b w (.i (.c 0) (.i d (.i a (.i x (.i y (.i z .nil))))))))).den E)
 (hsay:Say (E0.a 5) i (f.den E) (w.den E) (d.den E) (a.den E) (x.den E) (y.den E) (z.den E))
 (h122:E'.a 122=(AE.tl (.v 122) (.v 110) (.i l .nil)).den E) (hl:l.den E=colL (E0.a 5) i)
 (h124:E'.a 124=(AE.ap 1 (.a (.v 124) (.i (.mul (.v 110) (.c 128)) (.a Q .nil)))).den E) (hQ: ∀u,u<(colL (E0.a 5) i).toNat*2→Q.den E u=colC (E0.a 5) (i*128+u)):R8 E0 E' (i+1):=by
 have h8:((SE.mul (.v 110) (.c 8)).den E).toNat=i*8:=by
  show (E.i 110*8).toNat=_
  rw [c.R.i110];omega
 have h1:((SE.v 110).den E).toNat=i:=by
  show (E.i 110).toNat=_
  rw [c.R.i110];omega
 have h128:((SE.mul (.v 110) (.c 128)).den E).toNat=i*128:=by
  show (E.i 110*128).toNat=_
  rw [c.R.i110];omega
 exact c.R.next hlt hag h110 (fun t=>by rw [h120];exact tlE h8 t) (hsay.nth rfl) (fun t=>by rw [h122];exact tlE h1 t) hl (fun t=>by rw [h124];exact catE c.hE h128 t) hQ c.cb
theorem Cx.mu (c:Cx E0 E i k b) (hlt:i<(E0.i 60).toNat) {E':Env} (h110:E'.i 110=E.i 110+1) {j:Nat} (hj:j<2):mu8 E0 j E'<b:=by
 rw [c.b]
 unfold mu8
 rw [if_neg (by omega),h110,c.R.i110]
 omega
end
end
end Go.Proofs.Ytgianhjmjiiadaa
end
section
set_option autoImplicit true
set_option relaxedAutoImplicit true
set_option linter.unusedVariables false
set_option linter.unusedSimpArgs false
set_option maxRecDepth 100000
set_option maxHeartbeats 4000000
namespace Go.Proofs.Ytgianhjmjiiadaa
open Go Go.Sy Go.RowKit
noncomputable def h37ae0:SE:= .sub (.v 12) (.c 1)
noncomputable def h37ax0:Vl:= .go 0 [(120,h37ae0)] [] [] [((.le (.c (-1)) (.v 10)),true),((.le (.v 10) (.c 100)),true),((.le (.c 0) (.v 11)),true),((.le (.v 11) (.c 100)),true),((.le (.c (-1)) (.v 12)),true),((.le (.v 12) (.c 100)),true)] (.code (.loop (loopB (prm37 Try.prog).P 37 2))) (loopK (prm37 Try.prog).P 37 2)
noncomputable def h37als:List Vl:=[h37ax0]
noncomputable def h37p0e0:SE:= .sub (.v 120) (.c 1)
noncomputable def h37p0e1:SE:= .rd (.v 0) (.v 120)
noncomputable def h37p0e2:SE:= .rd (.v 1) (.v 120)
noncomputable def h37p0x0:Vl:= .go 0 [(120,h37p0e0)] [] [] [((.and (.not (.eq h37p0e1 (.c 0))) (.not (.eq h37p0e2 (.c 0)))),true),((.le (.c 0) (.v 120)),true),((.lt (.v 10) (.v 120)),true),((.le (.v 11) (.v 120)),true),((.le (.c (-1)) (.v 10)),true),((.le (.v 10) (.c 100)),true),((.le (.c 0) (.v 11)),true),((.le (.v 11) (.c 100)),true),((.le (.c (-1)) (.v 12)),true),((.le (.v 12) (.c 100)),true),((.le (.c (-2)) (.v 120)),true),((.le (.v 120) (.c 100)),true)] (.exit .normal) (.loop (loopB (prm37 Try.prog).P 37 2)::loopK (prm37 Try.prog).P 37 2)
noncomputable def h37p0x1:Vl:= .out 0 [.b (.c true) (.ap 31 (.a (.v 0) (.a (.v 1) (.i (.v 10) (.i (.v 11) (.i (.v 12) .nil)))))),.i (.v 10) (.v 10),.i (.v 11) (.v 11),.i (.v 12) (.v 12),.p 7 (.a (.v 0) (.a (.v 1) .nil)) (.a (.v 0) (.a (.v 1) .nil))] [((.and (.not (.eq h37p0e1 (.c 0))) (.not (.eq h37p0e2 (.c 0)))),false),((.le (.c 0) (.v 120)),true),((.lt (.v 10) (.v 120)),true),((.le (.v 11) (.v 120)),true),((.le (.c (-1)) (.v 10)),true),((.le (.v 10) (.c 100)),true),((.le (.c 0) (.v 11)),true),((.le (.v 11) (.c 100)),true),((.le (.c (-1)) (.v 12)),true),((.le (.v 12) (.c 100)),true),((.le (.c (-2)) (.v 120)),true),((.le (.v 120) (.c 100)),true)]
noncomputable def h37p0x2:Vl:= .dead [((.le (.c 0) (.v 120)),false),((.lt (.v 10) (.v 120)),true),((.le (.v 11) (.v 120)),true),((.le (.c (-1)) (.v 10)),true),((.le (.v 10) (.c 100)),true),((.le (.c 0) (.v 11)),true),((.le (.v 11) (.c 100)),true),((.le (.c (-1)) (.v 12)),true),((.le (.v 12) (.c 100)),true),((.le (.c (-2)) (.v 120)),true),((.le (.v 120) (.c 100)),true)]
noncomputable def h37p0x3:Vl:= .out 0 [.b (.c false) (.ap 31 (.a (.v 0) (.a (.v 1) (.i (.v 10) (.i (.v 11) (.i (.v 12) .nil)))))),.i (.v 10) (.v 10),.i (.v 11) (.v 11),.i (.v 12) (.v 12),.p 7 (.a (.v 0) (.a (.v 1) .nil)) (.a (.v 0) (.a (.v 1) .nil))] [((.lt (.v 10) (.v 120)),false),((.le (.v 11) (.v 120)),true),((.le (.c (-1)) (.v 10)),true),((.le (.v 10) (.c 100)),true),((.le (.c 0) (.v 11)),true),((.le (.v 11) (.c 100)),true),((.le (.c (-1)) (.v 12)),true),((.le (.v 12) (.c 100)),true),((.le (.c (-2)) (.v 120)),true),((.le (.v 120) (.c 100)),true)]
noncomputable def h37p0x4:Vl:= .out 0 [.b (.c false) (.ap 31 (.a (.v 0) (.a (.v 1) (.i (.v 10) (.i (.v 11) (.i (.v 12) .nil)))))),.i (.v 10) (.v 10),.i (.v 11) (.v 11),.i (.v 12) (.v 12),.p 7 (.a (.v 0) (.a (.v 1) .nil)) (.a (.v 0) (.a (.v 1) .nil))] [((.le (.v 11) (.v 120)),false),((.le (.c (-1)) (.v 10)),true),((.le (.v 10) (.c 100)),true),((.le (.c 0) (.v 11)),true),((.le (.v 11) (.c 100)),true),((.le (.c (-1)) (.v 12)),true),((.le (.v 12) (.c 100)),true),((.le (.c (-2)) (.v 120)),true),((.le (.v 120) (.c 100)),true)]
noncomputable def h37p0ls:List Vl:=[h37p0x0,h37p0x1,h37p0x2,h37p0x3,h37p0x4]
theorem h37p0run:(run (prm37 Try.prog) 900 (ptD (pts37 Try.prog) 0 37)).map (vOf (prm37 Try.prog) ct37 (pts37 Try.prog))=h37p0ls:=by kernel_rfl
noncomputable def h26ax0:Vl:= .go 0 [(121,(.c 0)),(120,(.v 12))] [] [] [((.le (.c (-1)) (.v 12)),true),((.le (.v 12) (.c 100)),true)] (.code (.loop (loopB (prm26 Try.prog).P 26 3))) (loopK (prm26 Try.prog).P 26 3)
noncomputable def h26als:List Vl:=[h26ax0]
noncomputable def h26p0e0:SE:= .sub (.v 120) (.c 1)
noncomputable def h26p0e1:SE:= .sub (.v 121) (.c 1)
noncomputable def h26p0e2:SE:= .mul h26p0e1 (.c 2)
noncomputable def h26p0e3:AE:= .up (.v 120) h26p0e2 (.v 120)
noncomputable def h26p0e4:SE:= .rd (.v 120) h26p0e2
noncomputable def h26p0e5:SE:= .add (.v 120) (.c 1)
noncomputable def h26p0e6:SE:= .rd (.v 0) (.v 120)
noncomputable def h26p0e7:SE:= .rd (.v 1) (.v 120)
noncomputable def h26p0e8:SE:= .add (.v 121) (.c 1)
noncomputable def h26p0e9:SE:= .mul (.v 121) (.c 2)
noncomputable def h26p0e10:AE:= .tl (.v 120) h26p0e9 (.i (.v 120) (.i (.v 120) .nil))
noncomputable def h26p0e11:AE:= .ap 32 (.a (.v 0) (.a (.v 1) (.i (.v 12) .nil)))
noncomputable def h26p0e12:SE:= .ap 33 (.a (.v 0) (.a (.v 1) (.i (.v 12) .nil)))
noncomputable def h26p0x0:Vl:= .go 0 [(120,h26p0e0)] [] [(120,h26p0e3)] [((.eq h26p0e4 h26p0e5),true),((.lt h26p0e1 (.v 121)),true),((.lt (.c 0) (.v 121)),true),((.and (.not (.eq h26p0e6 (.c 0))) (.not (.eq h26p0e7 (.c 0)))),true),((.le (.c 0) (.v 120)),true),((.le (.c (-1)) (.v 12)),true),((.le (.v 12) (.c 100)),true),((.le (.c (-1)) (.v 120)),true),((.le (.v 120) (.c 100)),true),((.le (.c 0) (.v 121)),true),((.le (.v 121) (.c 101)),true)] (.exit .normal) (.loop (loopB (prm26 Try.prog).P 26 3)::loopK (prm26 Try.prog).P 26 3)
noncomputable def h26p0x1:Vl:= .go 0 [(121,h26p0e8),(120,h26p0e0)] [] [(120,h26p0e10)] [((.eq h26p0e4 h26p0e5),false),((.lt h26p0e1 (.v 121)),true),((.lt (.c 0) (.v 121)),true),((.and (.not (.eq h26p0e6 (.c 0))) (.not (.eq h26p0e7 (.c 0)))),true),((.le (.c 0) (.v 120)),true),((.le (.c (-1)) (.v 12)),true),((.le (.v 12) (.c 100)),true),((.le (.c (-1)) (.v 120)),true),((.le (.v 120) (.c 100)),true),((.le (.c 0) (.v 121)),true),((.le (.v 121) (.c 101)),true)] (.exit .normal) (.loop (loopB (prm26 Try.prog).P 26 3)::loopK (prm26 Try.prog).P 26 3)
noncomputable def h26p0x2:Vl:= .dead [((.lt h26p0e1 (.v 121)),false),((.lt (.c 0) (.v 121)),true),((.and (.not (.eq h26p0e6 (.c 0))) (.not (.eq h26p0e7 (.c 0)))),true),((.le (.c 0) (.v 120)),true),((.le (.c (-1)) (.v 12)),true),((.le (.v 12) (.c 100)),true),((.le (.c (-1)) (.v 120)),true),((.le (.v 120) (.c 100)),true),((.le (.c 0) (.v 121)),true),((.le (.v 121) (.c 101)),true)]
noncomputable def h26p0x3:Vl:= .go 0 [(121,h26p0e8),(120,h26p0e0)] [] [(120,h26p0e10)] [((.lt (.c 0) (.v 121)),false),((.and (.not (.eq h26p0e6 (.c 0))) (.not (.eq h26p0e7 (.c 0)))),true),((.le (.c 0) (.v 120)),true),((.le (.c (-1)) (.v 12)),true),((.le (.v 12) (.c 100)),true),((.le (.c (-1)) (.v 120)),true),((.le (.v 120) (.c 100)),true),((.le (.c 0) (.v 121)),true),((.le (.v 121) (.c 101)),true)] (.exit .normal) (.loop (loopB (prm26 Try.prog).P 26 3)::loopK (prm26 Try.prog).P 26 3)
noncomputable def h26p0x4:Vl:= .go 0 [(120,h26p0e0)] [] [] [((.and (.not (.eq h26p0e6 (.c 0))) (.not (.eq h26p0e7 (.c 0)))),false),((.le (.c 0) (.v 120)),true),((.le (.c (-1)) (.v 12)),true),((.le (.v 12) (.c 100)),true),((.le (.c (-1)) (.v 120)),true),((.le (.v 120) (.c 100)),true),((.le (.c 0) (.v 121)),true),((.le (.v 121) (.c 101)),true)] (.exit .normal) (.loop (loopB (prm26 Try.prog).P 26 3)::loopK (prm26 Try.prog).P 26 3)
noncomputable def h26p0x5:Vl:= .out 0 [.i (.v 10) (.v 10),.i (.v 11) (.v 11),.i (.v 12) (.v 12),.p 7 (.a (.v 0) (.a (.v 1) .nil)) (.a (.v 0) (.a (.v 1) .nil)),.a (.v 120) h26p0e11 h26p0e12 2,.i (.v 121) h26p0e12] [((.le (.c 0) (.v 120)),false),((.le (.c (-1)) (.v 12)),true),((.le (.v 12) (.c 100)),true),((.le (.c (-1)) (.v 120)),true),((.le (.v 120) (.c 100)),true),((.le (.c 0) (.v 121)),true),((.le (.v 121) (.c 101)),true)]
noncomputable def h26p0ls:List Vl:=[h26p0x0,h26p0x1,h26p0x2,h26p0x3,h26p0x4,h26p0x5]
theorem h26p0run:(run (prm26 Try.prog) 900 (ptD (pts26 Try.prog) 0 26)).map (vOf (prm26 Try.prog) ct26 (pts26 Try.prog))=h26p0ls:=by kernel_rfl
theorem mok7:MapB fns 7 .i64 0 where
 p A B a v w:=Iff.rfl
 ft l a v x:=Iff.rfl
theorem rok8:RngB fns 8 .i64 0 30 where
 p A B L it cur a v w:=Iff.rfl
 ft A B L it cur a v x:=Iff.rfl
 g L:=by classical exact decide_eq_true_iff
theorem t70:Try.prog.underlying 70=some (.map 2 4):=by kernel_rfl
theorem t2:Try.prog.underlying 2=some (.int .i64):=by kernel_rfl
theorem u36:Try.prog.underlying 36=some (.array 2 2):=by kernel_rfl
theorem z4: ∀w,(zeroValue 4).run Try.prog w= .ok (.bool false) w:=zero_run (by kernel_rfl)
theorem z2s:sizeT Try.prog 2=some 1:=by kernel_rfl
theorem btM_ok: ∀b∈btM,BtOk Try.prog fns b:=by
 intro b hb
 simp only [btM,List.mem_cons,List.not_mem_nil,or_false] at hb
 rcases hb with rfl|rfl
 ·exact btGet_ok mok7 t70 t2 z4
 ·exact btArIx_ok (by omega) u36 z2s
theorem prm37_ok (E:Env) (hE:E.fn=fns):PrmOk E (prm37 Try.prog):=prm_ok E hE (by intro c hc;cases hc) btM_ok
theorem prm26_ok (E:Env) (hE:E.fn=fns):PrmOk E (prm26 Try.prog):=prm_ok E hE (by intro c hc;cases hc) btM_ok
def hvE (x:SE):SB:= .and (.not (.eq (.rd (.v 0) x) (.c 0))) (.not (.eq (.rd (.v 1) x) (.c 0)))
theorem hvE_den {E:Env} {x:SE} {z:Nat} (hx:(x.den E).toNat=z):(hvE x).den E=hvD (E.a 0) (E.a 1) z:=by
 show (!(E.a 0 (x.den E).toNat==0)&&!(E.a 1 (x.den E).toNat==0))=_
 rw [hx];rfl
theorem gap_t {m:Nat→Bool} {gr be la:Int}:gapD m gr be la=true↔ ∃z:Nat,be≤z∧gr<z∧(z:Int)<la∧m z=false:=by
 unfold gapD;exact @decide_eq_true_iff _ (Classical.propDecidable _)
theorem gap_f {m:Nat→Bool} {gr be la:Int} (h: ∀z:Nat,be≤z→gr<z→(z:Int)<la→m z=true):gapD m gr be la=false:=by
 cases hc:gapD m gr be la with
 |false=>rfl
 |true=>
  obtain ⟨z,h1,h2,h3,h4⟩:=gap_t.1 hc
  rw [h z h1 h2 h3] at h4;cases h4
theorem gapE_den {E:Env} (hE:E.fn=fns):(gapE (.v 0) (.v 1) (.v 10) (.v 11) (.v 12)).den E=gapD (hvD (E.a 0) (E.a 1)) (E.i 10) (E.i 11) (E.i 12):=by
 obtain ⟨ii,bb,aa,oo,fn⟩:=E
 have:fn=fns:=hE
 subst this;rfl
def eqsO:List Eqn:=[.i (.v 10) (.v 10),.i (.v 11) (.v 11),.i (.v 12) (.v 12),.p 7 (.a (.v 0) (.a (.v 1) .nil)) (.a (.v 0) (.a (.v 1) .nil))]
theorem eqsO_ok {E0 E:Env} (H:AgP 100 E0 E): ∀q∈eqsO,q.ok E E0:=by
 unfold eqsO
 simp only [List.forall_mem_cons,List.not_mem_nil,false_imp_iff,implies_true,and_true]
 exact ⟨Eqn.i_ag H _ rfl,Eqn.i_ag H _ rfl,Eqn.i_ag H _ rfl,Eqn.p_ag H _ _ rfl⟩
structure I37 (E0 E:Env):Prop where
 ag:AgP 100 E0 E
 lt:E.i 120<E0.i 12
 lo: -2≤E.i 120
 all: ∀z:Nat,E0.i 11≤z→E0.i 10<z→E.i 120<z→(z:Int)<E0.i 12→hvD (E0.a 0) (E0.a 1) z=true
theorem ct37_ok:CtOk Try.prog fns ct37:=by
 refine ct_of_pts (p:=prm37 Try.prog) (pts:=pts37 Try.prog) (n:=900) (c0:=enterD (prm37 Try.prog) ct37) (fun E hE=>prm37_ok E hE) rfl (by intro q hq;cases hq) Try.func37 (by kernel_rfl) ?_ (fun E0 _ E=>I37 E0 E) (fun E0 _ E=>(E.i 120+3).toNat) h37als (by kernel_rfl) ?_ ?_
 ·intro t ht
  simp only [pts37,List.mem_cons,List.not_mem_nil,or_false] at ht
  subst ht
  exact ⟨by kernel_rfl,by decide⟩
 ·intro E hE hF
  have h12: -1≤E.i 12:=of_decide_eq_true (hF (.le (.c (-1)) (.v 12),true) (by simp [ct37,bd]))
  refine ⟨fun a ha=>(by cases ha;intro q hq;cases hq),fun x hx=>?_⟩
  unfold h37als at hx
  simp only [List.mem_cons,List.not_mem_nil,or_false] at hx
  subst hx
  intro hf
  exact ⟨⟨_,rfl,.inl ⟨rfl,rfl⟩⟩,fun o=>⟨⟨(AgP.refl 100 E).put o,by show E.i 12 - 1<E.i 12;omega,by show -2≤E.i 12 - 1;omega,fun z h1 h2 h3 h4=>by have h3':E.i 12 - 1<z:=h3;omega⟩,fun b hb=>by cases hb⟩⟩
 ·intro i t ht
  have hi:i=0:=by
   have:=(List.getElem?_eq_some_iff.1 ht).1
   simp [pts37] at this;omega
  subst hi
  obtain rfl:=Option.some.inj ht
  refine ⟨h37p0ls,h37p0run,fun E0 E hE0 hE hF0 hI=>?_⟩
  have h12:E0.i 12≤100:=of_decide_eq_true (hF0 (.le (.v 12) (.c 100),true) (by simp [ct37,bd]))
  have h11:0≤E0.i 11:=of_decide_eq_true (hF0 (.le (.c 0) (.v 11),true) (by simp [ct37,bd]))
  have e10:=hI.ag.i 10 (by decide);have e11:=hI.ag.i 11 (by decide);have e12:=hI.ag.i 12 (by decide);have a0:=hI.ag.a 0 (by decide);have a1:=hI.ag.a 1 (by decide)
  have hlt:=hI.lt;have hlo:=hI.lo
  have dG:=gapE_den hE0
  refine ⟨facts_append (hI.ag.facts (by decide) hF0) (by simp only [bd,facts_cons,facts_nil,le_t,d_c,d_v,and_true];omega),fun x hx=>?_⟩
  unfold h37p0ls at hx
  simp only [List.mem_cons,List.not_mem_nil,or_false] at hx
  have dH:=hvE_den (E:=E) (x:= .v 120) (z:=(E.i 120).toNat) rfl
  rw [a0,a1] at dH
  have fin: ∀(b:SB),b.den E=gapD (hvD (E0.a 0) (E0.a 1)) (E0.i 10) (E0.i 11) (E0.i 12)→ ∀q∈(.b b (gapE (.v 0) (.v 1) (.v 10) (.v 11) (.v 12))::eqsO:List Eqn),q.ok E E0:=fun b hb q hq=>by
   rcases List.mem_cons.1 hq with rfl|hq
   ·exact hb.trans dG.symm
   ·exact eqsO_ok hI.ag q hq
  rcases hx with rfl|rfl|rfl|rfl|rfl
  ·intro hf
   have h1:=dH.symm.trans (fat hf 0 rfl)
   have h2:0≤E.i 120:=le_t.1 (fat hf 1 rfl)
   refine ⟨⟨_,rfl,.inr ⟨rfl,rfl⟩⟩,fun o=>⟨⟨hI.ag.put o,by show E.i 120 - 1<E0.i 12;omega,by show -2≤E.i 120 - 1;omega,fun z q1 q2 q3 q4=>?_⟩,fun b hb=>?_⟩⟩
   ·have q3':E.i 120 - 1<z:=q3
    rcases Int.lt_or_le (E.i 120) z with c|c
    ·exact hI.all z q1 q2 c q4
    ·rw [show z=(E.i 120).toNat by omega];exact h1
   ·cases hb
    show (E.i 120 - 1+3).toNat<(E.i 120+3).toNat
    omega
  ·intro hf
   have h1:=dH.symm.trans (fat hf 0 rfl)
   have h2:0≤E.i 120:=le_t.1 (fat hf 1 rfl)
   have h3:E.i 10<E.i 120:=lt_t.1 (fat hf 2 rfl)
   have h4:E.i 11≤E.i 120:=le_t.1 (fat hf 3 rfl)
   exact ⟨rfl,fin _ (gap_t.2 ⟨(E.i 120).toNat,by omega,by omega,by omega,h1⟩).symm⟩
  ·intro hf
   have h2:E.i 120<0:=le_f.1 (fat hf 0 rfl)
   have h4:E.i 11≤E.i 120:=le_t.1 (fat hf 2 rfl)
   omega
  ·intro hf
   have h3:E.i 120≤E.i 10:=lt_f.1 (fat hf 0 rfl)
   exact ⟨rfl,fin _ (gap_f fun z q1 q2 q4=>hI.all z q1 q2 (by omega) q4).symm⟩
  ·intro hf
   have h3:E.i 120<E.i 11:=le_f.1 (fat hf 0 rfl)
   exact ⟨rfl,fin _ (gap_f fun z q1 q2 q4=>hI.all z q1 q2 (by omega) q4).symm⟩
structure I26 (E0 E:Env) (i:Nat):Prop where
 ag:AgP 100 E0 E
 i120:E.i 120=E0.i 12 - i
 le:(i:Int)≤E0.i 12+1
 i121:E.i 121=((rngF (hvD (E0.a 0) (E0.a 1)) (E0.i 12+1).toNat i).1:Nat)
 A: ∀j,j<(rngF (hvD (E0.a 0) (E0.a 1)) (E0.i 12+1).toNat i).1*2→E.a 120 j=(rngF (hvD (E0.a 0) (E0.a 1)) (E0.i 12+1).toNat i).2 j
theorem ct26_ok:CtOk Try.prog fns ct26:=by
 refine ct_of_pts (p:=prm26 Try.prog) (pts:=pts26 Try.prog) (n:=900) (c0:=enterD (prm26 Try.prog) ct26) (fun E hE=>prm26_ok E hE) rfl (by intro q hq;cases hq) Try.func26 (by kernel_rfl) ?_ (fun E0 _ E=> ∃i,I26 E0 E i) (fun E0 _ E=>(E.i 120+3).toNat) h26als (by kernel_rfl) ?_ ?_
 ·intro t ht
  simp only [pts26,List.mem_cons,List.not_mem_nil,or_false] at ht
  subst ht
  exact ⟨by kernel_rfl,by decide⟩
 ·intro E hE hF
  have h12: -1≤E.i 12:=of_decide_eq_true (hF (.le (.c (-1)) (.v 12),true) (by simp [ct26,bd]))
  refine ⟨fun a ha=>(by cases ha;intro q hq;cases hq),fun x hx=>?_⟩
  unfold h26als at hx
  simp only [List.mem_cons,List.not_mem_nil,or_false] at hx
  subst hx
  intro hf
  exact ⟨⟨_,rfl,.inl ⟨rfl,rfl⟩⟩,fun o=>⟨⟨0,(AgP.refl 100 E).put o,by show E.i 12=E.i 12 - 0;omega,by omega,rfl,fun j hj=>absurd hj (Nat.not_lt_zero _)⟩,fun b hb=>by cases hb⟩⟩
 ·intro i t ht
  have hi:i=0:=by
   have:=(List.getElem?_eq_some_iff.1 ht).1
   simp [pts26] at this;omega
  subst hi
  obtain rfl:=Option.some.inj ht
  refine ⟨h26p0ls,h26p0run,fun E0 E hE0 hE hF0 ⟨i,hI⟩=>?_⟩
  have h12:E0.i 12≤100:=of_decide_eq_true (hF0 (.le (.v 12) (.c 100),true) (by simp [ct26,bd]))
  have h12': -1≤E0.i 12:=of_decide_eq_true (hF0 (.le (.c (-1)) (.v 12),true) (by simp [ct26,bd]))
  have e12:=hI.ag.i 12 (by decide);have a0:=hI.ag.a 0 (by decide);have a1:=hI.ag.a 1 (by decide)
  have i120:=hI.i120;have i121:=hI.i121;have hle:=hI.le;have hA:=hI.A
  obtain ⟨L,hL⟩: ∃L,(E0.i 12+1).toNat=L:=⟨_,rfl⟩
  obtain ⟨m,hm⟩: ∃m,hvD (E0.a 0) (E0.a 1)=m:=⟨_,rfl⟩
  rw [hL,hm] at i121 hA
  have hk:=rngF_le m L i
  refine ⟨facts_append (facts_append (hI.ag.facts (by decide) hF0) (by simp only [bd,facts_cons,facts_nil,le_t,d_c,d_v,and_true];omega)) (by simp only [bd,facts_cons,facts_nil,le_t,d_c,d_v,and_true];omega),fun x hx=>?_⟩
  unfold h26p0ls at hx
  simp only [List.mem_cons,List.not_mem_nil,or_false] at hx
  have dH:=hvE_den (E:=E) (x:= .v 120) (z:=(E.i 120).toNat) rfl
  rw [a0,a1,hm] at dH
  obtain ⟨k,hkk⟩: ∃k,(rngF m L i).1=k:=⟨_,rfl⟩
  obtain ⟨B,hB⟩: ∃B,(rngF m L i).2=B:=⟨_,rfl⟩
  rw [hkk] at i121 hA hk
  rw [hB] at hA
  have step:0≤E.i 120→(L - 1 - i:Nat)=(E.i 120).toNat:=fun h=>by omega
  have rd0:0<k→(SE.rd (.v 120) (.mul (.sub (.v 121) (.c 1)) (.c 2))).den E=B ((k - 1)*2):=fun h0=>by
   show E.a 120 ((E.i 121 - 1)*2).toNat=_
   rw [show ((E.i 121 - 1)*2).toNat=(k - 1)*2 by omega]
   exact hA _ (by omega)
  have next: ∀{E':Env} (k':Nat) (B':Nat→Int),rngF m L (i+1)=(k',B')→AgP 100 E0 E'→E'.i 120=E.i 120 - 1→0≤E.i 120→E'.i 121=k'→(∀j,j<k'*2→E'.a 120 j=B' j)→ ∃i,I26 E0 E' i:=fun k' B' hr ag q1 q0 q2 q3=>
   ⟨i+1,ag,by rw [q1,i120];omega,by omega,by rw [hL,hm,hr];exact q2,by rw [hL,hm,hr];exact q3⟩
  have new:0≤E.i 120→m (E.i 120).toNat=true→ ¬ (0<k∧B ((k - 1)*2)=E.i 120+1)→rngF m L (i+1)=(k+1,upd (upd B (k*2) (E.i 120)) (k*2+1) (E.i 120)):=fun h0 h1 h2=>by
   simp only [rngF]
   rw [step h0,h1,if_pos rfl,hkk,hB,show (((E.i 120).toNat:Nat):Int)=E.i 120 by omega,if_neg h2]
  have newA: ∀j,j<(k+1)*2→(AE.tl (.v 120) (.mul (.v 121) (.c 2)) (.i (.v 120) (.i (.v 120) .nil))).den E j=upd (upd B (k*2) (E.i 120)) (k*2+1) (E.i 120) j:=fun j hj=>by
   rw [tlE (m:=k*2) (by show (E.i 121*2).toNat=_;omega)]
   unfold upd
   split
   ·rename_i c
    rw [if_neg (by omega),if_neg (by omega)];exact hA j c
   ·rename_i c
    have:j=k*2∨j=k*2+1:=by omega
    rcases this with rfl|rfl
    ·rw [Nat.sub_self,if_neg (by omega),if_pos rfl];rfl
    ·rw [show k*2+1 - k*2=1 by omega,if_pos rfl];rfl
  rcases hx with rfl|rfl|rfl|rfl|rfl|rfl
  ·intro hf
   have g0:=eq_t.1 (fat hf 0 rfl)
   have g2:0<E.i 121:=lt_t.1 (fat hf 2 rfl)
   have g3:=dH.symm.trans (fat hf 3 rfl)
   have g4:0≤E.i 120:=le_t.1 (fat hf 4 rfl)
   have g0':B ((k - 1)*2)=E.i 120+1:=by rw [←rd0 (by omega)];exact g0
   refine ⟨⟨_,rfl,.inr ⟨rfl,rfl⟩⟩,fun o=>⟨next k (upd B ((k - 1)*2) (E.i 120)) ?_ (hI.ag.put o) rfl g4 i121 (fun j hj=>?_),fun b hb=>?_⟩⟩
   ·simp only [rngF]
    rw [step g4,g3,if_pos rfl,hkk,hB,show (((E.i 120).toNat:Nat):Int)=E.i 120 by omega,if_pos ⟨by omega,g0'⟩]
   ·show (if j=((E.i 121 - 1)*2).toNat then E.i 120 else E.a 120 j)=_
    unfold upd
    rw [show ((E.i 121 - 1)*2).toNat=(k - 1)*2 by omega]
    split
    ·rfl
    ·exact hA j hj
   ·cases hb
    show (E.i 120 - 1+3).toNat<(E.i 120+3).toNat
    omega
  ·intro hf
   have g0:=eq_f.1 (fat hf 0 rfl)
   have g2:0<E.i 121:=lt_t.1 (fat hf 2 rfl)
   have g3:=dH.symm.trans (fat hf 3 rfl)
   have g4:0≤E.i 120:=le_t.1 (fat hf 4 rfl)
   have g0': ¬B ((k - 1)*2)=E.i 120+1:=by rw [←rd0 (by omega)];exact g0
   refine ⟨⟨_,rfl,.inr ⟨rfl,rfl⟩⟩,fun o=>⟨next _ _ (new g4 g3 fun h=>g0' h.2) (hI.ag.put o) rfl g4 (by show E.i 121+1=_;omega) newA,fun b hb=>?_⟩⟩
   cases hb
   show (E.i 120 - 1+3).toNat<(E.i 120+3).toNat
   omega
  ·intro hf
   have g0:E.i 121≤E.i 121 - 1:=lt_f.1 (fat hf 0 rfl)
   omega
  ·intro hf
   have g2:E.i 121≤0:=lt_f.1 (fat hf 0 rfl)
   have g3:=dH.symm.trans (fat hf 1 rfl)
   have g4:0≤E.i 120:=le_t.1 (fat hf 2 rfl)
   refine ⟨⟨_,rfl,.inr ⟨rfl,rfl⟩⟩,fun o=>⟨next _ _ (new g4 g3 fun h=>by omega) (hI.ag.put o) rfl g4 (by show E.i 121+1=_;omega) newA,fun b hb=>?_⟩⟩
   cases hb
   show (E.i 120 - 1+3).toNat<(E.i 120+3).toNat
   omega
  ·intro hf
   have g3:=dH.symm.trans (fat hf 0 rfl)
   have g4:0≤E.i 120:=le_t.1 (fat hf 1 rfl)
   refine ⟨⟨_,rfl,.inr ⟨rfl,rfl⟩⟩,fun o=>⟨next k B ?_ (hI.ag.put o) rfl g4 i121 hA,fun b hb=>?_⟩⟩
   ·simp only [rngF]
    rw [step g4,g3,if_neg (by decide),←hkk,←hB]
   ·cases hb
    show (E.i 120 - 1+3).toNat<(E.i 120+3).toNat
    omega
  ·intro hf
   have g4:E.i 120<0:=le_f.1 (fat hf 0 rfl)
   have hiL:i=L:=by omega
   have dN:(rgNE (.v 0) (.v 1) (.v 12)).den E0=(rngF m L L).1:=by
    rw [←hm,←hL]
    obtain ⟨ii,bb,aa,oo,fn⟩:=E0
    have:fn=fns:=hE0
    subst this;rfl
   have dB:(rgBE (.v 0) (.v 1) (.v 12)).den E0=(rngF m L L).2:=by
    rw [←hm,←hL]
    obtain ⟨ii,bb,aa,oo,fn⟩:=E0
    have:fn=fns:=hE0
    subst this;rfl
   subst hiL
   rw [hkk] at dN
   rw [hB] at dB
   refine ⟨rfl,fun q hq=>?_⟩
   rcases List.mem_append.1 (show q∈eqsO++[.a (.v 120) (rgBE (.v 0) (.v 1) (.v 12)) (rgNE (.v 0) (.v 1) (.v 12)) 2,.i (.v 121) (rgNE (.v 0) (.v 1) (.v 12))] from hq) with hq|hq
   ·exact eqsO_ok hI.ag q hq
   ·simp only [List.mem_cons,List.not_mem_nil,or_false] at hq
    rcases hq with rfl|rfl
    ·intro j hj
     rw [dN,Int.toNat_natCast] at hj
     rw [dB]
     show (AE.v 120).den E j=_
     rw [show (AE.v 120).den E j=E.a 120 j from by simp only [AE.den]]
     exact hA j hj
    ·show E.i 121=_
     rw [dN];exact i121
section
def p1 (x:SE):SE:= .add x (.c 1)
def las:List (SE×SE×Fx):=[(.v 22,.v 23,[((.le (.v 12) (.v 22)),true)]),(.v 12,.v 13,[((.le (.v 12) (.v 22)),false)])]
def ecF (n:Int) (t:Bool):SB×Bool:=((.eq (.v 21) (.c n)),t)
def ecs:List (SE×SE×SE×Fx):=[(.v 17,p1 (.v 18),.v 19,[ecF 1 true]),(p1 (.v 17),.v 18,.v 19,[ecF 2 true,ecF 1 false]),(.v 17,.v 18,p1 (.v 19),[ecF 3 true,ecF 2 false,ecF 1 false]),(.v 17,.v 18,.v 19,[ecF 3 false,ecF 2 false,ecF 1 false])]
def gpE (l:SE):SB:=gapE (.up (.v 0) (.v 22) (.c 1)) (.up (.v 1) (.v 22) (.c 1)) (.v 10) (.v 11) l
def haE:SB:= .and (.not (.eq (.rd (.v 2) (.v 22)) (.c 0))) (.not (.eq (.rd (.v 3) (.v 22)) (.c 0)))
def nw2:SB:= .le (.c 2) (p1 (.v 14))
def ltE:SB:= .lt (.v 22) (.v 10)
def brs (t:Bool) (l:SE):List (SE×SE×SB×Fx):=let m:=fun (d:SB) (F:Fx)=>((p1 (.v 14),.v 23,d,F):SE×SE×SB×Fx)
 let e3:SB:= .eq (.v 21) (.c 3)
 let d:SE×SE×SB×Fx:=(.v 14,.v 15,.v 16,[((.v 24),false)])
 if t then [m (.c true) [((.v 16),true),(ltE,true),((.v 24),true)],m (.c true) [(nw2,true),((.v 16),false),(ltE,true),((.v 24),true)],
  m (.c true) [(gpE l,true),(haE,true),(nw2,false),((.v 16),false),(ltE,true),((.v 24),true)],m e3 [(gpE l,false),(haE,true),(nw2,false),((.v 16),false),(ltE,true),((.v 24),true)],
  m (.c true) [(haE,false),(nw2,false),((.v 16),false),(ltE,true),((.v 24),true)],
  m (.c true) [((.v 16),true),(ltE,false),((.v 24),true)],m (.c true) [(nw2,true),((.v 16),false),(ltE,false),((.v 24),true)],
  m (.c true) [(gpE l,true),(nw2,false),((.v 16),false),(ltE,false),((.v 24),true)],m e3 [(gpE l,false),(nw2,false),((.v 16),false),(ltE,false),((.v 24),true)],d]
 else [m (.c true) [((.v 16),true),((.v 24),true)],m (.c true) [(nw2,true),((.v 16),false),((.v 24),true)],m e3 [(nw2,false),((.v 16),false),((.v 24),true)],d]
def iq (x:SE):Eqn:= .i x x
def atE:SE:= .ite (.le (.v 12) (.v 22)) (.v 23) (.v 13)
def nwE:SE:= .ite (.v 24) (.add (.v 14) (.c 1)) (.v 14)
def caE:SE:= .ite (.v 24) (.v 23) (.v 15)
def e0E:SE:= .ite (.eq (.v 21) (.c 2)) (.add (.v 17) (.c 1)) (.v 17)
def e1E:SE:= .ite (.eq (.v 21) (.c 1)) (.add (.v 18) (.c 1)) (.v 18)
def ceE:SE:= .ite (.eq (.v 21) (.c 3)) (.add (.v 19) (.c 1)) (.v 19)
def hvP:Eqn:= .p 7 (.a (.up (.v 0) (.v 22) (.c 1)) (.a (.up (.v 1) (.v 22) (.c 1)) .nil)) (.a (up1 (.v 0) (.v 22)) (.a (up1 (.v 1) (.v 22)) .nil))
def laP (t:Bool):List Eqn:=if t then [.p 7 (.a (.v 2) (.a (.v 3) .nil)) (.a (.v 2) (.a (.v 3) .nil))] else []
def wy (t:Bool) (l:SE×SE×Fx) (e:SE×SE×SE×Fx) (b:SE×SE×SB×Fx):Vl:=
 .out 0 (iq (.v 9)::iq (.v 10)::iq (.v 11):: .i l.1 laE:: .i l.2.1 atE:: .i b.1 nwE:: .i b.2.1 caE:: .b b.2.2.1 (duE t):: .i e.1 e0E:: .i e.2.1 e1E:: .i e.2.2.1 ceE::hvP::laP t) (b.2.2.2++(e.2.2.2++(l.2.2++preS)))
def w24 (t:Bool):List Vl:=las.flatMap fun l=>ecs.flatMap fun e=>(brs t l.1).map fun b=>wy t l e b
theorem r24t:(run (prm24 Try.prog) 900 (enterD (prm24 Try.prog) (ct24 true))).map (vOf (prm24 Try.prog) (ct24 true) [])=w24 true:=by kernel_rfl
theorem r24n:(run (prm24 Try.prog) 900 (enterD (prm24 Try.prog) (ct24 false))).map (vOf (prm24 Try.prog) (ct24 false) [])=w24 false:=by kernel_rfl
theorem btS_ok: ∀b∈btS,BtOk Try.prog fns b:=by
 intro b hb
 simp only [btS,List.mem_cons,List.not_mem_nil,or_false] at hb
 rcases hb with rfl|rfl
 ·exact btGet_ok mok7 t70 t2 z4
 ·exact btPut_ok mok7 t70 t2
theorem prm24_ok (E:Env) (hE:E.fn=fns):PrmOk E (prm24 Try.prog):=prm_ok E hE (by intro c hc;simp only [prm24,List.mem_cons,List.not_mem_nil,or_false] at hc;subst hc;exact ct37_ok) btS_ok
variable {E:Env}
theorem facts_app {F G:Fx}:Facts E (F++G)↔Facts E F∧Facts E G:=by
 induction F with
 |nil=>simp [facts_nil]
 |cons a F ih=>obtain ⟨b,t⟩:=a;rw [List.cons_append,facts_cons,facts_cons,ih,and_assoc]
theorem up1_den (a:AE) (x:SE):(up1 a x).den E=(AE.up a x (.c 1)).den E:=by
 funext j;show (if j=(x.den E+0).toNat then _ else _)=_;rw [Int.add_zero];rfl
theorem las_ok {l:SE×SE×Fx} (hl:l∈las) (hf:Facts E l.2.2):l.1.den E=laE.den E∧l.2.1.den E=atE.den E:=by
 simp only [las,List.mem_cons,List.not_mem_nil,or_false] at hl
 rcases hl with rfl|rfl<;>(simp only [facts_cons,facts_nil,and_true] at hf;refine ⟨?_,?_⟩<;>simp only [laE,atE,SE.den,hf]<;>rfl)
theorem ecs_ok {e:SE×SE×SE×Fx} (he:e∈ecs) (hf:Facts E e.2.2.2):e.1.den E=e0E.den E∧e.2.1.den E=e1E.den E∧e.2.2.1.den E=ceE.den E:=by
 simp only [ecs,List.mem_cons,List.not_mem_nil,or_false] at he
 rcases he with rfl|rfl|rfl|rfl<;>simp only [facts_cons,facts_nil,and_true,ecF,eq_t,eq_f,d_v,d_c] at hf<;>
  (refine ⟨?_,?_,?_⟩<;>simp only [e0E,e1E,ceE,p1,SE.den,SB.den,beq_iff_eq]<;>(first|rfl|(split<;>first|rfl|(exfalso;omega)|omega)))
theorem gpE_den {l:SE} (h:l.den E=laE.den E):(gapE (up1 (.v 0) (.v 22)) (up1 (.v 1) (.v 22)) (.v 10) (.v 11) laE).den E=(gpE l).den E:=by
 show E.fn.g 31 [.a ((up1 (.v 0) (.v 22)).den E),.a ((up1 (.v 1) (.v 22)).den E),.i (E.i 10),.i (E.i 11),.i (laE.den E)]=E.fn.g 31 [.a _,.a _,.i (E.i 10),.i (E.i 11),.i (l.den E)]
 rw [up1_den,up1_den,h]
theorem duE_den (t:Bool) {l:SE} (h:l.den E=laE.den E):(duE t).den E=(E.b 16||(E.b 24&&(nw2.den E||((SB.eq (.v 21) (.c 3)).den E||(t&&((ltE.den E&&!haE.den E)||(gpE l).den E)))))):=by
 have hh:(hvI (.v 2) (.v 3) (.v 22)).den E=haE.den E:=by
  show (!(E.a 2 (E.i 22+0).toNat==0)&&!(E.a 3 (E.i 22+0).toNat==0))=_
  rw [Int.add_zero];rfl
 have hn:(SB.le (.c 1) (.v 14)).den E=nw2.den E:=by
  show decide (1≤E.i 14)=decide (2≤E.i 14+1)
  rw [decide_eq_decide];omega
 show (!(!E.b 16&&!(E.b 24&&!(!(SB.le (.c 1) (.v 14)).den E&&!!(!(SB.eq (.v 21) (.c 3)).den E&&!(t&&!(!((SB.lt (.v 22) (.v 10)).den E&&!(hvI (.v 2) (.v 3) (.v 22)).den E)&&!(gapE (up1 (.v 0) (.v 22)) (up1 (.v 1) (.v 22)) (.v 10) (.v 11) laE).den E)))))))=_
 rw [hh,hn,gpE_den h]
 show (!(!E.b 16&&!(E.b 24&&!(!nw2.den E&&!!(!(SB.eq (.v 21) (.c 3)).den E&&!(t&&!(!(ltE.den E&&!haE.den E)&&!(gpE l).den E)))))))=_
 cases E.b 16<;>cases E.b 24<;>cases nw2.den E<;>cases (SB.eq (.v 21) (.c 3)).den E<;>cases t<;>cases ltE.den E<;>cases haE.den E<;>cases (gpE l).den E<;>rfl
theorem brs_ok {t:Bool} {l:SE} (h:l.den E=laE.den E) {b:SE×SE×SB×Fx} (hb:b∈brs t l) (hf:Facts E b.2.2.2):b.1.den E=nwE.den E∧b.2.1.den E=caE.den E∧b.2.2.1.den E=(duE t).den E:=by
 rw [duE_den t h]
 cases t
 ·simp only [brs,if_false,Bool.false_eq_true,List.mem_cons,List.not_mem_nil,or_false] at hb
  rcases hb with rfl|rfl|rfl|rfl<;>simp only [facts_cons,facts_nil,and_true] at hf<;>(have e16:(SB.v 16).den E=E.b 16:=rfl;have e24:(SB.v 24).den E=E.b 24:=rfl;rw [e24] at hf;simp only [nwE,caE,SE.den,p1,e24,e16,hf] at hf⊢;simp [hf,SB.den])
 ·simp only [brs,if_true,List.mem_cons,List.not_mem_nil,or_false] at hb
  rcases hb with rfl|rfl|rfl|rfl|rfl|rfl|rfl|rfl|rfl|rfl<;>simp only [facts_cons,facts_nil,and_true] at hf<;>(have e16:(SB.v 16).den E=E.b 16:=rfl;have e24:(SB.v 24).den E=E.b 24:=rfl;rw [e24] at hf;simp only [nwE,caE,SE.den,p1,e24,e16,hf] at hf⊢;simp [hf,SB.den])
theorem ct24_of (t:Bool) (hr:(run (prm24 Try.prog) 900 (enterD (prm24 Try.prog) (ct24 t))).map (vOf (prm24 Try.prog) (ct24 t) [])=w24 t) (hen:enter (prm24 Try.prog) 24 (ct24 t).args (ct24 t).heap (ct24 t).pre=some (enterD (prm24 Try.prog) (ct24 t))):CtOk Try.prog fns (ct24 t):=by
 refine ct_of_pts (p:=prm24 Try.prog) (pts:=[]) (n:=900) (c0:=enterD (prm24 Try.prog) (ct24 t)) (fun E hE=>prm24_ok E hE) rfl (by intro q hq;cases hq) Try.func24 hen (by intro t ht;cases ht) (fun _ _ _=>True) (fun _ _ _=>0) (w24 t) hr ?_ (by intro i t ht;cases ht)
 intro E hE hF
 refine ⟨fun a ha=>(by cases ha;intro q hq;cases hq),fun x hx=>?_⟩
 simp only [w24,List.mem_flatMap,List.mem_map] at hx
 obtain ⟨l,hl,e,he,b,hb,rfl⟩:=hx
 intro hf
 rw [facts_app,facts_app,facts_app] at hf
 obtain ⟨f1,f2,f3,-⟩:=hf
 obtain ⟨l1,l2⟩:=las_ok hl f3
 obtain ⟨e1,e2,e3⟩:=ecs_ok he f2
 obtain ⟨b1,b2,b3⟩:=brs_ok l1 hb f1
 refine ⟨rfl,?_⟩
 simp only [List.forall_mem_cons]
 refine ⟨rfl,rfl,rfl,l1,l2,b1,b2,b3,e1,e2,e3,Eqn.p_of rfl ?_,?_⟩
 ·show [Arg.a _,Arg.a _]=[Arg.a ((up1 (.v 0) (.v 22)).den E),Arg.a ((up1 (.v 1) (.v 22)).den E)]
  rw [up1_den,up1_den]
 ·cases t
  ·intro q hq;cases hq
  ·intro q hq
   simp only [laP,if_true,List.mem_cons,List.not_mem_nil,or_false] at hq
   subst hq;exact Eqn.p_of rfl rfl
theorem ct24t_ok:CtOk Try.prog fns (ct24 true):=ct24_of true r24t (by kernel_rfl)
theorem ct24n_ok:CtOk Try.prog fns (ct24 false):=ct24_of false r24n (by kernel_rfl)
end
def hvE2:SB:=hvq (.v 0) (.v 1) (.v 22)
def isE:SB:= .and (.eq (.v 20) (.c 3)) oldE
def wrE:SB:= .and (.eq (.v 20) (.c 0)) oldE
def mxE:SE:= .mx (.c 0) (.sub (.v 23) (.v 13))
def nz:SE:= .c (-1)
def haP:Eqn:= .p 7 (.a (.v 0) (.a (.v 1) .nil)) (.a (.v 0) (.a (.v 1) .nil))
def du2 (t:Bool):SB:= .not (.and (.not (.v 16)) (.not (.and (.v 24) (.not (.and (.not (.le (.c 1) (.v 14))) (.and (.not (.eq (.v 21) (.c 3))) (if t then .and (.not (.and (.lt (.v 22) (.v 10)) (.not haE))) (.not (gpE laE)) else .c true)))))))
noncomputable def o3 (t:Bool) (i w:SB) (a:SE) (F:Fx):Vl:= .out 3 (.b i isE:: .b w wrE:: .i a alE::iq (.v 9)::iq (.v 10)::iq (.v 11)::iq (.v 12)::iq (.v 13)::iq (.v 14)::iq (.v 15):: .b (.v 16) (.v 16)::iq (.v 17)::iq (.v 18)::iq (.v 19)::haP::laP t) (F++(ct11 t).pre)
noncomputable def o2 (t:Bool) (F:Fx):Vl:= .out 2 (iq (.v 9)::iq (.v 10)::iq (.v 11)::iq laE::iq atE::iq nwE::iq caE:: .b (du2 t) (duE t)::iq e0E::iq e1E::iq ceE::hvP::laP t) (F++(ct11 t).pre)
noncomputable def g0 (t:Bool) (d:SE) (F:Fx):Vl:= .go 0 [(128,d),(127,nz),(126,.v 1000)] [] [(121,AE.z),(120,.v 0)] ((.le (.c 0) (.v 1000),true)::F++(ct11 t).pre) (.code (.loop (loopB Try.prog 11 15))) (loopK Try.prog 11 15)
noncomputable def g1 (t:Bool) (F:Fx):Vl:= .go 1 [(127,nz),(126,.v 1000)] [] [(121,.v 0),(120,.v 0)] ((.le (.c 0) (.v 1000),true)::F++(ct11 t).pre) (.code (.loop (loopB Try.prog 11 23))) (loopK Try.prog 11 23)
noncomputable def aw (t:Bool):List Vl:=[
 o3 t (.c false) (.c true) c0 [(.lt (.v 22) (.v 11),true),((.eq (.v 20) (.c 0)),true)],
 o3 t (.c false) (.c true) c0 [(hvE2,true),(.lt (.v 22) (.v 11),false),((.eq (.v 20) (.c 0)),true)],
 o2 t [(hvE2,false),(.lt (.v 22) (.v 11),false),((.eq (.v 20) (.c 0)),true)],
 o3 t (.c false) (.c false) c0 [(.eq (.v 14) (.c 0),true),((.eq (.v 20) (.c 1)),true),((.eq (.v 20) (.c 0)),false)],
 g0 t c0 [(.lt (.v 9) (.c 2),true),(.v 25,true),(.eq (.v 14) (.c 0),false),((.eq (.v 20) (.c 1)),true),((.eq (.v 20) (.c 0)),false)],
 g0 t mxE [(.eq (.v 9) (.c 2),true),(.v 16,true),(.lt (.v 9) (.c 2),false),(.v 25,true),(.eq (.v 14) (.c 0),false),((.eq (.v 20) (.c 1)),true),((.eq (.v 20) (.c 0)),false)],
 g0 t c0 [(.eq (.v 9) (.c 2),false),(.v 16,true),(.lt (.v 9) (.c 2),false),(.v 25,true),(.eq (.v 14) (.c 0),false),((.eq (.v 20) (.c 1)),true),((.eq (.v 20) (.c 0)),false)],
 g0 t mxE [(.eq (.v 9) (.c 2),true),(.le (.add (.v 15) (.c 25000000)) (.v 23),true),(.v 16,false),(.lt (.v 9) (.c 2),false),(.v 25,true),(.eq (.v 14) (.c 0),false),((.eq (.v 20) (.c 1)),true),((.eq (.v 20) (.c 0)),false)],
 g0 t c0 [(.eq (.v 9) (.c 2),false),(.le (.add (.v 15) (.c 25000000)) (.v 23),true),(.v 16,false),(.lt (.v 9) (.c 2),false),(.v 25,true),(.eq (.v 14) (.c 0),false),((.eq (.v 20) (.c 1)),true),((.eq (.v 20) (.c 0)),false)],
 o3 t (.c false) (.c false) c0 [(.le (.add (.v 15) (.c 25000000)) (.v 23),false),(.v 16,false),(.lt (.v 9) (.c 2),false),(.v 25,true),(.eq (.v 14) (.c 0),false),((.eq (.v 20) (.c 1)),true),((.eq (.v 20) (.c 0)),false)],
 g0 t mxE [(.eq (.v 9) (.c 2),true),(.v 25,false),(.eq (.v 14) (.c 0),false),((.eq (.v 20) (.c 1)),true),((.eq (.v 20) (.c 0)),false)],
 g0 t c0 [(.eq (.v 9) (.c 2),false),(.v 25,false),(.eq (.v 14) (.c 0),false),((.eq (.v 20) (.c 1)),true),((.eq (.v 20) (.c 0)),false)],
 g1 t [(.lt (.v 11) (.v 22),true),(.eq (.v 9) (.c 2),true),((.eq (.v 20) (.c 2)),true),((.eq (.v 20) (.c 1)),false),((.eq (.v 20) (.c 0)),false)],
 o3 t (.c false) (.c false) c0 [(.lt (.v 11) (.v 22),false),(.eq (.v 9) (.c 2),true),((.eq (.v 20) (.c 2)),true),((.eq (.v 20) (.c 1)),false),((.eq (.v 20) (.c 0)),false)],
 o3 t (.c false) (.c false) c0 [(.eq (.v 9) (.c 2),false),((.eq (.v 20) (.c 2)),true),((.eq (.v 20) (.c 1)),false),((.eq (.v 20) (.c 0)),false)],
 o3 t (.c true) (.c false) c0 [(.lt (.v 22) (.v 11),true),((.eq (.v 20) (.c 3)),true),((.eq (.v 20) (.c 2)),false),((.eq (.v 20) (.c 1)),false),((.eq (.v 20) (.c 0)),false)],
 o3 t hvE2 (.c false) c0 [(.lt (.v 22) (.v 11),false),((.eq (.v 20) (.c 3)),true),((.eq (.v 20) (.c 2)),false),((.eq (.v 20) (.c 1)),false),((.eq (.v 20) (.c 0)),false)],
 o3 t (.c false) (.c false) c0 [(.v 16,true),(.lt (.c 0) (.v 14),true),(.eq (.v 9) (.c 2),true),((.eq (.v 20) (.c 4)),true),((.eq (.v 20) (.c 3)),false),((.eq (.v 20) (.c 2)),false),((.eq (.v 20) (.c 1)),false),((.eq (.v 20) (.c 0)),false)],
 o3 t (.c false) (.c false) (.add (.v 15) (.c 25000000)) [(.v 16,false),(.lt (.c 0) (.v 14),true),(.eq (.v 9) (.c 2),true),((.eq (.v 20) (.c 4)),true),((.eq (.v 20) (.c 3)),false),((.eq (.v 20) (.c 2)),false),((.eq (.v 20) (.c 1)),false),((.eq (.v 20) (.c 0)),false)],
 o3 t (.c false) (.c false) c0 [(.lt (.c 0) (.v 14),false),(.eq (.v 9) (.c 2),true),((.eq (.v 20) (.c 4)),true),((.eq (.v 20) (.c 3)),false),((.eq (.v 20) (.c 2)),false),((.eq (.v 20) (.c 1)),false),((.eq (.v 20) (.c 0)),false)],
 o3 t (.c false) (.c false) c0 [(.eq (.v 9) (.c 2),false),((.eq (.v 20) (.c 4)),true),((.eq (.v 20) (.c 3)),false),((.eq (.v 20) (.c 2)),false),((.eq (.v 20) (.c 1)),false),((.eq (.v 20) (.c 0)),false)],
 o3 t (.c false) (.c false) c0 [((.eq (.v 20) (.c 4)),false),((.eq (.v 20) (.c 3)),false),((.eq (.v 20) (.c 2)),false),((.eq (.v 20) (.c 1)),false),((.eq (.v 20) (.c 0)),false)]]
theorem aw_t:(run (prm11 Try.prog true) 900 (enterD (prm11 Try.prog true) (ct11 true))).map (vOf (prm11 Try.prog true) (ct11 true) (pts11 Try.prog true))=aw true:=by kernel_rfl
theorem aw_n:(run (prm11 Try.prog false) 900 (enterD (prm11 Try.prog false) (ct11 false))).map (vOf (prm11 Try.prog false) (ct11 false) (pts11 Try.prog false))=aw false:=by kernel_rfl
def kyF (a b:AE):Fx:=[(.le (.c 0) (.v 1000),true),(.eq (.rd a (.v 1000)) (.c 0),false),(.eq (.rd b (.v 1000)) (.c 0),false)]
def p0F (t:Bool):Fx:=(asE,true)::(ct11 t).pre++itF
def p1F (t:Bool):Fx:=(.eq (.v 20) (.c 1),false)::(.eq (.v 20) (.c 2),true)::(.eq (.v 9) (.c 2),true)::(.lt (.v 11) (.v 22),true)::(ct11 t).pre++itF
noncomputable def p0w (t:Bool):List Vl:=[
 .out 0 (.i (.v 128) dlE::iq (.v 17)::iq (.v 18)::iq (.v 19)::iq (.v 9)::iq (.v 12)::iq (.v 11)::iq (.v 12)::iq (.v 13)::iq (.v 17)::iq (.v 18)::iq (.v 19)::haP:: .p 7 (.a (.v 121) (.a (.v 121) .nil)) (.a (one (.v 0)) (.a (one (.v 0)) .nil)):: .a (rgBE (.v 0) (.v 1) (.v 12)) (rgBE (.v 0) (.v 1) (.v 12)) (rgNE (.v 0) (.v 1) (.v 12)) 2::iq (rgNE (.v 0) (.v 1) (.v 12))::[]) ((.ap 30 (.a (.v 120) .nil),true)::p0F t),
 .go 0 [(127,.v 1000)] [] [(121,.up (.v 121) (.v 1000) (.c 1)),(120,.up (.v 120) (.v 1000) (.c 0))] (kyF (.v 120) (.v 0)++(.ap 30 (.a (.v 120) .nil),false)::p0F t) (.exit .normal) (.loop (loopB Try.prog 11 15)::loopK Try.prog 11 15)]
noncomputable def p1w (t:Bool):List Vl:=[
 .out 1 (iq (.v 9)::iq (.v 10)::iq (.v 22)::iq (.v 12)::iq (.v 13)::iq (.v 14)::iq (.v 15):: .b (.v 16) (.v 16)::iq (.v 17)::iq (.v 18)::iq (.v 19):: .p 7 (.a (.v 120) (.a (.v 1) .nil)) (.a (cutM (.v 0) (.v 22)) (.a (.v 1) .nil))::laP t) ((.ap 30 (.a (.v 121) .nil),true)::p1F t),
 .go 1 [(127,.v 1000)] [] [(121,.up (.up (.v 121) (.v 1000) (.c 0)) (.v 1000) (.c 0)),(120,.up (.v 120) (.v 1000) (.c 0))] ((.lt (.v 1000) (.v 22),true)::kyF (.v 121) (.v 120)++(.ap 30 (.a (.v 121) .nil),false)::p1F t) (.exit .normal) (.loop (loopB Try.prog 11 23)::loopK Try.prog 11 23),
 .go 1 [(127,.v 1000)] [] [(121,.up (.v 121) (.v 1000) (.c 0))] ((.lt (.v 1000) (.v 22),false)::kyF (.v 121) (.v 120)++(.ap 30 (.a (.v 121) .nil),false)::p1F t) (.exit .normal) (.loop (loopB Try.prog 11 23)::loopK Try.prog 11 23)]
theorem p0_t:(run (prm11 Try.prog true) 900 (ptD (pts11 Try.prog true) 0 11)).map (vOf (prm11 Try.prog true) (ct11 true) (pts11 Try.prog true))=p0w true:=by kernel_rfl
theorem p0_n:(run (prm11 Try.prog false) 900 (ptD (pts11 Try.prog false) 0 11)).map (vOf (prm11 Try.prog false) (ct11 false) (pts11 Try.prog false))=p0w false:=by kernel_rfl
theorem p1_t:(run (prm11 Try.prog true) 900 (ptD (pts11 Try.prog true) 1 11)).map (vOf (prm11 Try.prog true) (ct11 true) (pts11 Try.prog true))=p1w true:=by kernel_rfl
theorem p1_n:(run (prm11 Try.prog false) 900 (ptD (pts11 Try.prog false) 1 11)).map (vOf (prm11 Try.prog false) (ct11 false) (pts11 Try.prog false))=p1w false:=by kernel_rfl
section
theorem btG_ok: ∀b∈btG,BtOk Try.prog fns b:=by
 intro b hb
 simp only [btG,List.mem_cons,List.not_mem_nil,or_false] at hb
 rcases hb with rfl|rfl|rfl|rfl|rfl|rfl|rfl
 ·exact btGet_ok mok7 t70 t2 z4
 ·exact btPut_ok mok7 t70 t2
 ·exact btMake_ok mok7
 ·exact btRange_ok mok7 rok8 t70
 ·exact btNext_ok mok7 rok8
 ·exact btEntry_ok rok8
 ·exact btDelR_ok rok8 t70 t2
theorem prm11_ok (t:Bool) (ht:CtOk Try.prog fns (ct24 t)) (E:Env) (hE:E.fn=fns):PrmOk E (prm11 Try.prog t):=prm_ok E hE (by intro c hc;simp only [prm11,List.mem_cons,List.not_mem_nil,or_false] at hc;rcases hc with rfl|rfl<;>first|exact ht|exact ct26_ok) btG_ok
def cntL (A:Nat→Int):Nat→Nat
 |0=>0
 |n+1=>cntL A n+if A n=0 then 0 else 1
theorem cntL_up0 (A:Nat→Int) (k:Nat): ∀n,n≤k→cntL (fun j=>if j=k then 0 else A j) n=cntL A n
 |0,_=>rfl
 |n+1,h=>by simp only [cntL,cntL_up0 A k n (by omega),if_neg (show n≠k by omega)]
theorem cntL_up {A:Nat→Int} {k:Nat} (hk:A k≠0): ∀n,k<n→cntL (fun j=>if j=k then 0 else A j) n<cntL A n
 |n+1,h=>by
  rcases Nat.lt_or_ge k n with c|c
  ·have:=cntL_up hk n c
   simp only [cntL,if_neg (show n≠k by omega)];omega
  ·have e:k=n:=by omega
   subst e
   simp only [cntL,cntL_up0 A k k (Nat.le_refl _),if_neg hk,if_true];omega
variable {E:Env}
theorem and_den (x y:SB):(SB.and x y).den E=(x.den E&&y.den E):=rfl
theorem not_den (x:SB):(SB.not x).den E=!x.den E:=rfl
theorem orS_den (x y:SB):(orS x y).den E=(x.den E||y.den E):=by show (!(!x.den E&&!y.den E))=_;cases x.den E<;>cases y.den E<;>rfl
theorem kq (a:Int):(SB.eq (.v 20) (.c a)).den E=(E.i 20==a):=rfl
theorem bc_den (b:Bool):(SB.c b).den E=b:=rfl
theorem sel_a {t:Bool} {E0:Env}:altSel E0 (ct11 t).alts=if asE.den E0=true then (ct11 t).alts[0]? else if cuE.den E0=true then (ct11 t).alts[1]? else if reE.den E0=true then (ct11 t).alts[2]? else (ct11 t).alts[3]?:=by
 simp only [ct11,altSel]
 by_cases a:asE.den E0=true
 ·simp [a]
 ·by_cases b:cuE.den E0=true
  ·simp [a,b]
  ·by_cases c:reE.den E0=true
   ·simp [a,b,c]
   ·simp [a,b,c,SB.den]
theorem eq_i {E0:Env} (H:AgP 100 E0 E) {x y:SE} (h:x.den E=y.den E) (hv:y.vb 100=true:=by rfl):(Eqn.i x y).ok E E0:=h.trans (SE.den_agP H y hv)
theorem eq_b {E0:Env} (H:AgP 100 E0 E) {x y:SB} (h:x.den E=y.den E) (hv:y.vb 100=true:=by rfl):(Eqn.b x y).ok E E0:=h.trans (SB.den_agP H y hv)
theorem laP_ok {E0:Env} (H:AgP 100 E0 E) (t:Bool): ∀q∈laP t,q.ok E E0:=by
 cases t
 ·intro q hq;cases hq
 ·intro q hq
  simp only [laP,if_true,List.mem_cons,List.not_mem_nil,or_false] at hq
  subst hq;exact Eqn.p_ag H _ _ rfl
structure J15 (E0 E:Env):Prop where
 ag:AgP 100 E0 E
 as':asE.den E0=true
 d:E.i 128=dlE.den E0
 it:0≤E.i 126
 cur: -1≤E.i 127
 L: ∀z,E.a 120 z≠0→E0.a 0 z≠0
 M: ∀z,E.a 121 z=if E0.a 0 z≠0∧E.a 120 z=0 then 1 else 0
structure J23 (E0 E:Env):Prop where
 ag:AgP 100 E0 E
 k:E0.i 20=2
 sp:E0.i 9=2
 be:E0.i 11<E0.i 22
 it:0≤E.i 126
 cur: -1≤E.i 127
 L: ∀z,E.a 121 z≠0→E0.a 0 z≠0
 M: ∀z:Nat,E.a 120 z=if (z:Int)<E0.i 22∧E.a 121 z=0 then 0 else E0.a 0 z
def I11 (E0:Env) (i:Nat) (E:Env):Prop:=(i=0→J15 E0 E)∧(i=1→J23 E0 E)
def m11 (E0:Env) (i:Nat) (E:Env):Nat:=if i=0 then cntL (E.a 120) 100 else cntL (E.a 121) 100
theorem o3_ok {t:Bool} {E0:Env} (H:AgP 100 E0 E) {i w:SB} {a:SE} {F:Fx} {I:Env→Nat→Env→Prop} {μ:Env→Nat→Env→Nat} {bd:Option Nat} (h:Facts E F→asE.den E=false∧cuE.den E=false∧reE.den E=false∧i.den E=isE.den E∧w.den E=wrE.den E∧a.den E=alE.den E):
 VOk (pts11 Try.prog t) (ct11 t) I μ bd E0 E (o3 t i w a F):=by
 intro hf
 obtain ⟨h1,h2,h3,h4,h5,h6⟩:=h (facts_app.1 hf).1
 refine ⟨?_,?_⟩
 ·rw [sel_a,←SB.den_agP H asE rfl,←SB.den_agP H cuE rfl,←SB.den_agP H reE rfl,h1,h2,h3];rfl
 ·simp only [List.forall_mem_cons]
  refine ⟨eq_b H h4,eq_b H h5,eq_i H h6,Eqn.i_ag H _ rfl,Eqn.i_ag H _ rfl,Eqn.i_ag H _ rfl,Eqn.i_ag H _ rfl,Eqn.i_ag H _ rfl,Eqn.i_ag H _ rfl,Eqn.i_ag H _ rfl,Eqn.b_ag H _ rfl,Eqn.i_ag H _ rfl,Eqn.i_ag H _ rfl,Eqn.i_ag H _ rfl,Eqn.p_ag H _ _ rfl,laP_ok H t⟩
theorem o2_ok {t:Bool} {E0:Env} (H:AgP 100 E0 E) {F:Fx} {I:Env→Nat→Env→Prop} {μ:Env→Nat→Env→Nat} {bd:Option Nat} (h:Facts E F→asE.den E=false∧cuE.den E=false∧reE.den E=true):
 VOk (pts11 Try.prog t) (ct11 t) I μ bd E0 E (o2 t F):=by
 intro hf
 obtain ⟨h1,h2,h3⟩:=h (facts_app.1 hf).1
 refine ⟨?_,?_⟩
 ·rw [sel_a,←SB.den_agP H asE rfl,←SB.den_agP H cuE rfl,←SB.den_agP H reE rfl,h1,h2,h3];rfl
 ·have hd:(du2 t).den E=(duE t).den E:=by
   rw [duE_den t (l:=laE) rfl]
   have hn:(SB.le (.c 1) (.v 14)).den E=nw2.den E:=by
    show decide (1≤E.i 14)=decide (2≤E.i 14+1)
    rw [decide_eq_decide];omega
   cases t
   ·show (!(!E.b 16&&!(E.b 24&&!(!(SB.le (.c 1) (.v 14)).den E&&(!(SB.eq (.v 21) (.c 3)).den E&&true)))))=_
    rw [hn]
    cases E.b 16<;>cases E.b 24<;>cases nw2.den E<;>cases (SB.eq (.v 21) (.c 3)).den E<;>rfl
   ·show (!(!E.b 16&&!(E.b 24&&!(!(SB.le (.c 1) (.v 14)).den E&&(!(SB.eq (.v 21) (.c 3)).den E&&(!(ltE.den E&&!haE.den E)&&!(gpE laE).den E))))))=_
    rw [hn]
    cases E.b 16<;>cases E.b 24<;>cases nw2.den E<;>cases (SB.eq (.v 21) (.c 3)).den E<;>cases ltE.den E<;>cases haE.den E<;>cases (gpE laE).den E<;>rfl
  have hdv:(duE t).vb 100=true:=by cases t<;>rfl
  simp only [List.forall_mem_cons]
  refine ⟨Eqn.i_ag H _ rfl,Eqn.i_ag H _ rfl,Eqn.i_ag H _ rfl,Eqn.i_ag H _ rfl,Eqn.i_ag H _ rfl,Eqn.i_ag H _ rfl,Eqn.i_ag H _ rfl,eq_b H hd hdv,Eqn.i_ag H _ rfl,Eqn.i_ag H _ rfl,Eqn.i_ag H _ rfl,Eqn.p_of H.fn ?_,laP_ok H t⟩
  show [Arg.a ((AE.up (.v 0) (.v 22) (.c 1)).den E),Arg.a ((AE.up (.v 1) (.v 22) (.c 1)).den E)]=[Arg.a ((up1 (.v 0) (.v 22)).den E0),Arg.a ((up1 (.v 1) (.v 22)).den E0)]
  rw [up1_den,up1_den,AE.den_agP H (.up (.v 0) (.v 22) (.c 1)) rfl,AE.den_agP H (.up (.v 1) (.v 22) (.c 1)) rfl]
theorem g0_ok {t:Bool} {E0:Env} (H:AgP 100 E0 E) {d:SE} {F:Fx} (h:Facts E F→asE.den E=true∧d.den E=dlE.den E):
 VOk (pts11 Try.prog t) (ct11 t) I11 m11 none E0 E (g0 t d F):=by
 intro hf
 have hh:=facts_cons.1 hf
 obtain ⟨h1,h2⟩:=h (facts_app.1 hh.2).1
 refine ⟨⟨_,rfl,.inl ⟨rfl,rfl⟩⟩,fun o=>⟨⟨fun _=>⟨H.put o,(SB.den_agP H asE rfl).symm.trans h1,h2.trans (SE.den_agP H dlE rfl),le_t.1 hh.1,by show (-1:Int)≤ -1;omega,fun z hz=>?_,fun z=>?_⟩,fun hc=>absurd hc (by decide)⟩,fun b hb=>by cases hb⟩⟩
 ·rw [←H.a 0 (by decide)];exact hz
 ·show (0:Int)=if E0.a 0 z≠0∧E.a 0 z=0 then 1 else 0
  rw [H.a 0 (by decide),if_neg (fun c=>c.1 c.2)]
theorem g1_ok {t:Bool} {E0:Env} (H:AgP 100 E0 E) {F:Fx} (h:Facts E F→E.i 20=2∧E.i 9=2∧E.i 11<E.i 22):
 VOk (pts11 Try.prog t) (ct11 t) I11 m11 none E0 E (g1 t F):=by
 intro hf
 have hh:=facts_cons.1 hf
 obtain ⟨h1,h2,h3⟩:=h (facts_app.1 hh.2).1
 have e20:=H.i 20 (by decide);have e9:=H.i 9 (by decide);have e11:=H.i 11 (by decide);have e22:=H.i 22 (by decide);have a0:=H.a 0 (by decide)
 refine ⟨⟨_,rfl,.inl ⟨rfl,rfl⟩⟩,fun o=>⟨⟨fun hc=>absurd hc (by decide),fun _=>⟨H.put o,by omega,by omega,by omega,le_t.1 hh.1,by show (-1:Int)≤ -1;omega,fun z hz=>?_,fun z=>?_⟩⟩,fun b hb=>by cases hb⟩⟩
 ·rw [←a0];exact hz
 ·show E.a 0 z=if (z:Int)<E0.i 22∧E.a 0 z=0 then 0 else E0.a 0 z
  rw [a0]
  split
  ·rename_i c;exact c.2
  ·rfl
theorem aw_ok {t:Bool} {E0:Env} (H:AgP 100 E0 E): ∀x∈aw t,VOk (pts11 Try.prog t) (ct11 t) I11 m11 none E0 E x:=by
 intro x hx
 simp only [aw,List.mem_cons,List.not_mem_nil,or_false] at hx
 rcases hx with rfl|rfl|rfl|rfl|rfl|rfl|rfl|rfl|rfl|rfl|rfl|rfl|rfl|rfl|rfl|rfl|rfl|rfl|rfl|rfl|rfl|rfl
 all_goals first|apply o3_ok H|apply o2_ok H|apply g0_ok H|apply g1_ok H
 all_goals intro hf
 all_goals (try simp only [hvE2,facts_cons,facts_nil,and_true,kq,beq_iff_eq,beq_eq_false_iff_ne,ne_eq] at hf)
 all_goals first
  |exact ⟨hf.2.2.1,(eq_t (x:= .v 9) (y:= .c 2)).1 hf.2.1,(lt_t (x:= .v 11) (y:= .v 22)).1 hf.1⟩
  |(simp only [asE,cuE,reE,dueE,isE,wrE,oldE,hvE2,alE,dlE,mxE,c0,orS_den,and_den,not_den,bc_den,kq,SE.den];simp [hf];done)
  |(have q:(SB.eq (.v 9) (.c 2)).den E=false:=eq_f.2 (by have h:E.i 9<2:=(lt_t (x:= .v 9) (y:= .c 2)).1 hf.1;show E.i 9≠2;omega)
    simp only [asE,cuE,reE,dueE,isE,wrE,oldE,hvE2,alE,dlE,mxE,c0,orS_den,and_den,not_den,bc_den,kq,SE.den];simp [hf,q])
theorem g30 (hE:E.fn=fns) (a:AE):(SB.ap 30 (.a a .nil)).den E=true↔ ∀z,a.den E z=0:=by
 show E.fn.g 30 [.a (a.den E)]=true↔_
 rw [hE];exact rok8.g _
theorem g32 (hE:E.fn=fns) (h:(SB.ap 32 (.a (.v 0) .nil)).den E=true): ∀z,100≤z→E.a 0 z=0:=by
 have h':E.fn.g 32 [.a (E.a 0)]=true:=h
 rw [hE] at h'
 exact @of_decide_eq_true _ (Classical.propDecidable _) h'
theorem one_den (hE:E.fn=fns) (z:Nat):(one (.v 0)).den E z=if E.a 0 z=0 then 0 else 1:=by
 show E.fn.a 33 [.a (E.a 0)] z=_
 rw [hE];rfl
theorem cutM_den (hE:E.fn=fns) (z:Nat):(cutM (.v 0) (.v 22)).den E z=if (z:Int)<E.i 22 then 0 else E.a 0 z:=by
 show E.fn.a 34 [.a (E.a 0),.i (E.i 22)] z=_
 rw [hE];rfl
theorem p0_ok {t:Bool} {E0:Env} (hE0:E0.fn=fns) (hE:E.fn=fns) (J:J15 E0 E) (hb: ∀z,100≤z→E0.a 0 z=0): ∀x∈p0w t,VOk (pts11 Try.prog t) (ct11 t) I11 m11 (some (cntL (E.a 120) 100)) E0 E x:=by
 have H:=J.ag
 intro x hx
 simp only [p0w,List.mem_cons,List.not_mem_nil,or_false] at hx
 rcases hx with rfl|rfl
 ·intro hf
  have hz:=(g30 hE _).1 (facts_cons.1 hf).1
  refine ⟨?_,?_⟩
  ·rw [sel_a,J.as'];rfl
  ·have hone:E.a 121=(one (.v 0)).den E0:=by
    funext z
    rw [one_den hE0,J.M z]
    have:E.a 120 z=0:=hz z
    by_cases c:E0.a 0 z=0
    ·rw [if_pos c,if_neg (fun q=>q.1 c)]
    ·rw [if_neg c,if_pos ⟨c,this⟩]
   simp only [List.forall_mem_cons]
   refine ⟨J.d,Eqn.i_ag H _ rfl,Eqn.i_ag H _ rfl,Eqn.i_ag H _ rfl,Eqn.i_ag H _ rfl,Eqn.i_ag H _ rfl,Eqn.i_ag H _ rfl,Eqn.i_ag H _ rfl,Eqn.i_ag H _ rfl,Eqn.i_ag H _ rfl,Eqn.i_ag H _ rfl,Eqn.i_ag H _ rfl,Eqn.p_ag H _ _ rfl,Eqn.p_of H.fn ?_,Eqn.a_ag H _ _ _ rfl,Eqn.i_ag H _ rfl,fun q hq=>by cases hq⟩
   show [Arg.a (E.a 121),Arg.a (E.a 121)]=[Arg.a _,Arg.a _]
   rw [hone]
 ·intro hf
  have h0:0≤E.i 1000:=(le_t (x:= .c 0) (y:= .v 1000)).1 (fat hf 0 rfl)
  have h1:E.a 120 (E.i 1000).toNat≠0:=(eq_f (x:= .rd (.v 120) (.v 1000)) (y:= .c 0)).1 (fat hf 1 rfl)
  have h2:E0.a 0 (E.i 1000).toNat≠0:=J.L _ h1
  refine ⟨⟨_,rfl,.inr ⟨rfl,rfl⟩⟩,fun o=>⟨⟨fun _=>⟨H.put o,J.as',J.d,J.it,by show -1≤E.i 1000;omega,fun z hz=>?_,fun z=>?_⟩,fun hc=>absurd hc (by decide)⟩,fun b hb'=>?_⟩⟩
  ·have hz':(if z=(E.i 1000).toNat then (0:Int) else E.a 120 z)≠0:=hz
   split at hz'
   ·exact absurd rfl hz'
   ·exact J.L z hz'
  ·show (if z=(E.i 1000).toNat then (1:Int) else E.a 121 z)=if E0.a 0 z≠0∧(if z=(E.i 1000).toNat then (0:Int) else E.a 120 z)=0 then 1 else 0
   by_cases c:z=(E.i 1000).toNat
   ·subst c;simp [h2]
   ·simp only [if_neg c];exact J.M z
  ·cases hb'
   show cntL (fun j=>if j=(E.i 1000).toNat then (0:Int) else E.a 120 j) 100<cntL (E.a 120) 100
   exact cntL_up h1 100 (by
    rcases Nat.lt_or_ge (E.i 1000).toNat 100 with c|c
    ·exact c
    ·exact absurd (hb _ c) h2)
theorem p1_ok {t:Bool} {E0:Env} (hE0:E0.fn=fns) (hE:E.fn=fns) (J:J23 E0 E) (hb: ∀z,100≤z→E0.a 0 z=0): ∀x∈p1w t,VOk (pts11 Try.prog t) (ct11 t) I11 m11 (some (cntL (E.a 121) 100)) E0 E x:=by
 have H:=J.ag
 have e22:=H.i 22 (by decide)
 intro x hx
 simp only [p1w,List.mem_cons,List.not_mem_nil,or_false] at hx
 rcases hx with rfl|rfl|rfl
 ·intro hf
  have hz:=(g30 hE _).1 (facts_cons.1 hf).1
  refine ⟨?_,?_⟩
  ·have h1:asE.den E0=false:=by simp only [asE,and_den,kq];simp [J.k]
   have h2:cuE.den E0=true:=by
    simp only [cuE,and_den,kq]
    show ((E0.i 20==2)&&((E0.i 9==2)&&decide (E0.i 11<E0.i 22)))=true
    simp [J.k,J.sp,J.be]
   rw [sel_a,h1,h2];rfl
  ·have hcut:E.a 120=(cutM (.v 0) (.v 22)).den E0:=by
    funext z
    rw [cutM_den hE0,J.M z]
    have:E.a 121 z=0:=hz z
    by_cases c:(z:Int)<E0.i 22
    ·rw [if_pos c,if_pos ⟨c,this⟩]
    ·rw [if_neg c,if_neg (fun q=>c q.1)]
   simp only [List.forall_mem_cons]
   refine ⟨Eqn.i_ag H _ rfl,Eqn.i_ag H _ rfl,Eqn.i_ag H _ rfl,Eqn.i_ag H _ rfl,Eqn.i_ag H _ rfl,Eqn.i_ag H _ rfl,Eqn.i_ag H _ rfl,Eqn.b_ag H _ rfl,Eqn.i_ag H _ rfl,Eqn.i_ag H _ rfl,Eqn.i_ag H _ rfl,Eqn.p_of H.fn ?_,laP_ok H t⟩
   show [Arg.a (E.a 120),Arg.a (E.a 1)]=[Arg.a _,Arg.a (E0.a 1)]
   rw [hcut,H.a 1 (by decide)]
 ·intro hf
  have hk:E.i 1000<E.i 22:=(lt_t (x:= .v 1000) (y:= .v 22)).1 (fat hf 0 rfl)
  have h0:0≤E.i 1000:=(le_t (x:= .c 0) (y:= .v 1000)).1 (fat hf 1 rfl)
  have h1:E.a 121 (E.i 1000).toNat≠0:=(eq_f (x:= .rd (.v 121) (.v 1000)) (y:= .c 0)).1 (fat hf 2 rfl)
  have h2:E0.a 0 (E.i 1000).toNat≠0:=J.L _ h1
  have dd: ∀z:Nat,(if z=(E.i 1000).toNat then (0:Int) else if z=(E.i 1000).toNat then (0:Int) else E.a 121 z)=if z=(E.i 1000).toNat then (0:Int) else E.a 121 z:=fun z=>by split<;>rfl
  refine ⟨⟨_,rfl,.inr ⟨rfl,rfl⟩⟩,fun o=>⟨⟨fun hc=>absurd hc (by decide),fun _=>⟨H.put o,J.k,J.sp,J.be,J.it,by show -1≤E.i 1000;omega,fun z hz=>?_,fun z=>?_⟩⟩,fun b hb'=>?_⟩⟩
  ·have hz':(if z=(E.i 1000).toNat then (0:Int) else if z=(E.i 1000).toNat then (0:Int) else E.a 121 z)≠0:=hz
   rw [dd] at hz'
   split at hz'
   ·exact absurd rfl hz'
   ·exact J.L z hz'
  ·show (if z=(E.i 1000).toNat then (0:Int) else E.a 120 z)=if (z:Int)<E0.i 22∧(if z=(E.i 1000).toNat then (0:Int) else if z=(E.i 1000).toNat then (0:Int) else E.a 121 z)=0 then 0 else E0.a 0 z
   rw [dd]
   by_cases c:z=(E.i 1000).toNat
   ·rw [if_pos c,if_pos c,if_pos ⟨by omega,rfl⟩]
   ·rw [if_neg c,if_neg c];exact J.M z
  ·cases hb'
   show cntL (fun z=>if z=(E.i 1000).toNat then (0:Int) else if z=(E.i 1000).toNat then (0:Int) else E.a 121 z) 100<cntL (E.a 121) 100
   rw [show (fun z=>if z=(E.i 1000).toNat then (0:Int) else if z=(E.i 1000).toNat then (0:Int) else E.a 121 z)=fun z=>if z=(E.i 1000).toNat then (0:Int) else E.a 121 z from funext dd]
   exact cntL_up h1 100 (by
    rcases Nat.lt_or_ge (E.i 1000).toNat 100 with c|c
    ·exact c
    ·exact absurd (hb _ c) h2)
 ·intro hf
  have hk: ¬E.i 1000<E.i 22:=by have:=(lt_f (x:= .v 1000) (y:= .v 22)).1 (fat hf 0 rfl);exact Int.not_lt.2 this
  have h0:0≤E.i 1000:=(le_t (x:= .c 0) (y:= .v 1000)).1 (fat hf 1 rfl)
  have h1:E.a 121 (E.i 1000).toNat≠0:=(eq_f (x:= .rd (.v 121) (.v 1000)) (y:= .c 0)).1 (fat hf 2 rfl)
  have h2:E0.a 0 (E.i 1000).toNat≠0:=J.L _ h1
  refine ⟨⟨_,rfl,.inr ⟨rfl,rfl⟩⟩,fun o=>⟨⟨fun hc=>absurd hc (by decide),fun _=>⟨H.put o,J.k,J.sp,J.be,J.it,by show -1≤E.i 1000;omega,fun z hz=>?_,fun z=>?_⟩⟩,fun b hb'=>?_⟩⟩
  ·have hz':(if z=(E.i 1000).toNat then (0:Int) else E.a 121 z)≠0:=hz
   split at hz'
   ·exact absurd rfl hz'
   ·exact J.L z hz'
  ·show E.a 120 z=if (z:Int)<E0.i 22∧(if z=(E.i 1000).toNat then (0:Int) else E.a 121 z)=0 then 0 else E0.a 0 z
   by_cases c:z=(E.i 1000).toNat
   ·have hz: ¬ (z:Int)<E0.i 22:=by omega
    rw [J.M z,if_neg (fun q=>hz q.1),if_neg (fun q=>hz q.1)]
   ·rw [if_neg c];exact J.M z
  ·cases hb'
   show cntL (fun z=>if z=(E.i 1000).toNat then (0:Int) else E.a 121 z) 100<cntL (E.a 121) 100
   exact cntL_up h1 100 (by
    rcases Nat.lt_or_ge (E.i 1000).toNat 100 with c|c
    ·exact c
    ·exact absurd (hb _ c) h2)
theorem ct11_of (t:Bool) (ht:CtOk Try.prog fns (ct24 t)) (hen:enter (prm11 Try.prog t) 11 (ct11 t).args (ct11 t).heap (ct11 t).pre=some (enterD (prm11 Try.prog t) (ct11 t)))
 (hra:(run (prm11 Try.prog t) 900 (enterD (prm11 Try.prog t) (ct11 t))).map (vOf (prm11 Try.prog t) (ct11 t) (pts11 Try.prog t))=aw t)
 (hr0:(run (prm11 Try.prog t) 900 (ptD (pts11 Try.prog t) 0 11)).map (vOf (prm11 Try.prog t) (ct11 t) (pts11 Try.prog t))=p0w t)
 (hr1:(run (prm11 Try.prog t) 900 (ptD (pts11 Try.prog t) 1 11)).map (vOf (prm11 Try.prog t) (ct11 t) (pts11 Try.prog t))=p1w t)
 (hK: ∀q∈pts11 Try.prog t,noRet q.K=true∧(ct11 t).heap.length≤q.heap.length):CtOk Try.prog fns (ct11 t):=by
 have hxf: ∀a∈(ct11 t).alts,a.xf=[]:=by
  intro a ha
  simp only [ct11,List.mem_cons,List.not_mem_nil,or_false] at ha
  rcases ha with rfl|rfl|rfl|rfl<;>rfl
 refine ct_of_ptsX (p:=prm11 Try.prog t) (pts:=pts11 Try.prog t) (n:=900) (c0:=enterD (prm11 Try.prog t) (ct11 t)) (fun E hE=>prm11_ok t ht E hE) rfl (by intro q hq;cases hq) Try.func11 hen hK I11 m11 (aw t) hra ?_ ?_
 ·intro E0 hE0 hF
  refine ⟨fun a ha=>?_,fun E H1 _ x hx=>VOk.x rfl hxf (aw_ok (AgP.trans (by omega) (AgP.refl 100 E0) H1.p) x hx)⟩
  have:a.facts=[]:=by
   rw [sel_a] at ha
   split at ha
   ·cases ha;rfl
   ·split at ha
    ·cases ha;rfl
    ·split at ha<;>(cases ha;rfl)
  rw [this];intro q hq;cases hq
 ·intro i q hq
  have hi:i=0∨i=1:=by
   have:=(List.getElem?_eq_some_iff.1 hq).1
   simp [pts11] at this;omega
  have pre0: ∀{E0:Env},Facts E0 (ct11 t).pre→(SB.ap 32 (.a (.v 0) .nil)).den E0=true:=fun h=>(facts_cons.1 h).1
  rcases hi with rfl|rfl
  ·obtain rfl:=Option.some.inj hq
   refine ⟨p0w t,hr0,fun E0 E1 hE0 hE1 hF0 hI=>?_⟩
   have J:=hI.1 rfl
   refine ⟨?_,fun E H1 _ x hx=>?_⟩
   ·refine facts_cons.2 ⟨(SB.den_agP J.ag asE rfl).trans J.as',facts_app.2 ⟨J.ag.facts (by cases t<;>decide) hF0,?_⟩⟩
    simp only [itF,facts_cons,facts_nil,le_t,d_c,d_v,and_true];exact ⟨J.it,J.cur⟩
   ·have ea:=H1.a 120 (by decide)
    refine VOk.x rfl hxf ?_
    show VOk _ _ _ _ (some (cntL (E1.a 120) 100)) _ _ _
    rw [←ea]
    exact p0_ok hE0 (H1.fn.trans hE1) ⟨J.ag.trans (by omega) H1.p,J.as',by rw [H1.i 128 (by decide)];exact J.d,by rw [H1.i 126 (by decide)];exact J.it,by rw [H1.i 127 (by decide)];exact J.cur,by rw [ea];exact J.L,by rw [ea,H1.a 121 (by decide)];exact J.M⟩ (g32 hE0 (pre0 hF0)) x hx
  ·obtain rfl:=Option.some.inj hq
   refine ⟨p1w t,hr1,fun E0 E1 hE0 hE1 hF0 hI=>?_⟩
   have J:=hI.2 rfl
   refine ⟨?_,fun E H1 _ x hx=>?_⟩
   ·have e20:=J.ag.i 20 (by decide);have e9:=J.ag.i 9 (by decide);have e11:=J.ag.i 11 (by decide);have e22:=J.ag.i 22 (by decide)
    have k:=J.k;have sp:=J.sp;have be:=J.be
    refine facts_cons.2 ⟨?_,facts_cons.2 ⟨?_,facts_cons.2 ⟨?_,facts_cons.2 ⟨?_,facts_app.2 ⟨J.ag.facts (by cases t<;>decide) hF0,?_⟩⟩⟩⟩⟩
    ·exact eq_f.2 (by show E1.i 20≠1;omega)
    ·exact eq_t.2 (by show E1.i 20=2;omega)
    ·exact eq_t.2 (by show E1.i 9=2;omega)
    ·exact lt_t.2 (by show E1.i 11<E1.i 22;omega)
    ·simp only [itF,facts_cons,facts_nil,le_t,d_c,d_v,and_true];exact ⟨J.it,J.cur⟩
   ·have ea:=H1.a 121 (by decide)
    refine VOk.x rfl hxf ?_
    show VOk _ _ _ _ (some (cntL (E1.a 121) 100)) _ _ _
    rw [←ea]
    exact p1_ok hE0 (H1.fn.trans hE1) ⟨J.ag.trans (by omega) H1.p,J.k,J.sp,J.be,by rw [H1.i 126 (by decide)];exact J.it,by rw [H1.i 127 (by decide)];exact J.cur,by rw [ea];exact J.L,by rw [ea,H1.a 120 (by decide)];exact J.M⟩ (g32 hE0 (pre0 hF0)) x hx
theorem ct11t_ok:CtOk Try.prog fns (ct11 true):=ct11_of true ct24t_ok (by kernel_rfl) aw_t p0_t p1_t (by
 intro t ht
 simp only [pts11,List.mem_cons,List.not_mem_nil,or_false] at ht
 rcases ht with rfl|rfl<;>exact ⟨by kernel_rfl,by decide⟩)
theorem ct11n_ok:CtOk Try.prog fns (ct11 false):=ct11_of false ct24n_ok (by kernel_rfl) aw_n p0_n p1_n (by
 intro t ht
 simp only [pts11,List.mem_cons,List.not_mem_nil,or_false] at ht
 rcases ht with rfl|rfl<;>exact ⟨by kernel_rfl,by decide⟩)
end
end Go.Proofs.Ytgianhjmjiiadaa
end
section
set_option autoImplicit true
set_option relaxedAutoImplicit true
set_option linter.unusedVariables false
set_option linter.unusedSimpArgs false
set_option maxHeartbeats 4000000
namespace Go.Proofs.Ytgianhjmjiiadaa
open Go Go.Sy
def spOf (E:Env) (t:Bool):Sp:=⟨E.i 110,E.i 111,E.i 112,E.i 113,E.i 114,E.i 115,E.b 116,t,E.i 117,E.i 118,E.i 119,hvD (E.a 100) (E.a 101),hvD (E.a 102) (E.a 103)⟩
structure J7 (s:Nat) (t:Bool) (E0 E:Env):Prop where
 ag:AgP 100 E0 E
 i0:0≤E.i 130
 le:E.i 130≤E0.i 60
 R:Rel (sAt (rowS s (E0.a 5)) (E.i 130).toNat) (topA (rowS s (E0.a 5)) (E.i 130).toNat) (spOf E t)
 hv:HvOk (E.a 100) (E.a 101)
 gr: -1≤E.i 110∧E.i 110≤99
 at':0≤E.i 113∧E.i 113≤1000000000
theorem top_leS {S:Nat→Int} {n:Nat} {sp:Int} (T:STok S n sp): ∀i,i≤n→topA S i≤99
 |0,_=>by show (-1:Int)≤99;omega
 |i+1,h=>by
  have:=top_leS T i (by omega)
  have:=T.pn i (by omega)
  show (if kdA S i=0 then max (topA S i) (pnA S i) else topA S i)≤99
  split<;>omega
theorem rowS_top (sp:Int) (S:Nat→Int) (i:Nat):topA (rowS sp S) i=topA S i:=by
 unfold rowS
 split
 ·rfl
 ·exact off_top S i
structure Bd7 (s:Nat) (E0:Env):Prop where
 s2:s≤2
 n0:0≤E0.i 60
 n1:E0.i 60≤60
 T:STok (E0.a 5) (E0.i 60).toNat s
 S:SOk (rowS s (E0.a 5)) (E0.i 60).toNat
theorem bd7_of {s:Nat} (h2:s≤2) {al:Bool} {E0:Env} (hE0:E0.fn=fns) (hF:Facts E0 (ct7 s al).pre):Bd7 s E0:=by
 have f1:=facts_app.1 hF
 have f0:=f1.1
 simp only [bd,facts_cons,facts_nil,le_t,d_c,d_v,and_true] at f0
 have f2:=facts_app.1 f1.2
 have h11:E0.fn.g 11 [.a (E0.a 5),.i (E0.i 60),.i s]=true:=(facts_cons.1 f2.1).1
 rw [hE0] at h11
 have T:STok (E0.a 5) (E0.i 60).toNat s:= @of_decide_eq_true _ (Classical.propDecidable _) h11
 refine ⟨h2,f0.1,f0.2,T,?_⟩
 unfold rowS
 by_cases c:s=2
 ·have f3:=f2.2
  rw [if_pos c] at f3
  have h10:E0.fn.g 10 [.a (E0.a 5),.i (E0.i 60)]=true:=(facts_cons.1 f3).1
  rw [hE0] at h10
  rw [if_pos (by omega)]
  exact @of_decide_eq_true _ (Classical.propDecidable _) h10
 ·have f3:=f2.2
  rw [if_neg c] at f3
  have h13:E0.fn.g 13 [.a (E0.a 5),.i (E0.i 60)]=true:=(facts_cons.1 f3).1
  rw [hE0] at h13
  rw [if_neg (by omega)]
  exact SOk0.off (@of_decide_eq_true _ (Classical.propDecidable _) h13)
theorem J7.inv {s:Nat} {t:Bool} {E0 E:Env} (B:Bd7 s E0) (J:J7 s t E0 E):Inv (sAt (rowS s (E0.a 5)) (E.i 130).toNat) (E.i 130).toNat (topA (rowS s (E0.a 5)) (E.i 130).toNat):=
 inv_at B.S (by have:=B.n1;omega) _ (by have:=J.le;omega)
theorem J7.facts {s:Nat} {t al:Bool} {E0 E:Env} (hE0:E0.fn=fns) (hs:s≤2) (hF:Facts E0 (ct7 s al).pre) (hv:(ct7 s al).pre.all (fun q=>q.1.vb 100)=true) (J:J7 s t E0 E):Facts E ((ct7 s al).pre++qF++bd (.v 130) 0 60):=by
 have B:=bd7_of hs hE0 hF
 have I:=J.inv B
 have R:=J.R
 have hn:=B.n1;have hle:=J.le;have hi:=J.i0
 refine facts_app.2 ⟨facts_app.2 ⟨J.ag.facts hv hF,?_⟩,?_⟩
 ·have h32:(SB.ap 32 (.a (.v 100) .nil)).den E=true:=by
   show E.fn.g 32 [.a (E.a 100)]=true
   rw [J.ag.fn,hE0]
   exact @decide_eq_true _ (Classical.propDecidable _) J.hv.sm
  have htop:topA (rowS s (E0.a 5)) (E.i 130).toNat≤99:=by rw [rowS_top];exact top_leS B.T _ (by omega)
  have be:E.i 111=_:=R.be
  have la:E.i 112=_:=R.la
  have nw:E.i 114=_:=R.nw
  have ca:0≤E.i 115∧E.i 115≤1000000000:=R.ca
  have e0:E.i 117=_:=R.e0
  have e1:E.i 118=_:=R.e1
  have ce:E.i 119=_:=R.ce
  have i1:=I.ig;have i2:=I.ig0;have i3:=I.ct;have i4:=I.c0;have i5:=I.c1;have i6:=I.ce;have i7:=I.t0
  have gr:=J.gr;have at':=J.at'
  simp only [qF,bd,List.cons_append,List.nil_append,facts_cons,facts_nil,le_t,d_c,d_v,and_true]
  refine ⟨h32,?_⟩
  omega
 ·simp only [bd,facts_cons,facts_nil,le_t,d_c,d_v,and_true];omega
end Go.Proofs.Ytgianhjmjiiadaa
end
section
set_option autoImplicit true
set_option relaxedAutoImplicit true
set_option linter.unusedVariables false
set_option linter.unusedSimpArgs false
namespace Go.Proofs.Ytgianhjmjiiadaa
open Go Go.Sy
noncomputable def gcol (s:Int) (S:Nat→Int) (t:Nat):Int:=if s=2 then colA S t else colA0 S t
theorem gcol_at (s:Int) (S:Nat→Int) (i c:Nat) (hc:c<8):gcol s S (i*8+c)=if c=3∧s≠2 then 0 else cellA (rowS s S) i c:=by
 have h1:(i*8+c)/8=i:=by omega
 have h2:(i*8+c) % 8=c:=by omega
 unfold gcol rowS
 by_cases h:s=2
 ·rw [if_pos h,if_pos h,if_neg (fun q=>q.2 h)]
  unfold colA;rw [h1,h2]
 ·rw [if_neg h,if_neg h]
  unfold colA0
  rw [h2]
  by_cases k:c=3
  ·rw [if_pos k,if_pos ⟨k,h⟩]
  ·rw [if_neg k,if_neg (fun q=>k q.1)]
   unfold colA;rw [h1,h2]
structure Cols (s:Int) (S:Nat→Int) (i:Nat) (q:Sp) (A:Bool):Prop where
 is':gcol s S (i*8)=b2i (A||(decide (kdA S i=3)&&olS q (pnA S i)))
 wr:gcol s S (i*8+1)=b2i (decide (kdA S i=0)&&olS q (pnA S i))
 dl:gcol s S (i*8+3)=if A=true then (if s=2 then imx 0 (tmA S i - q.lt) else 0) else 0
 al:kdA S i=4→gcol s S (i*8+4)=if 0<q.nw∧q.du=false then q.ca+25000000 else 0
 e0:gcol s S (i*8+5)=if A=true then q.e0 else 0
 e1:gcol s S (i*8+6)=if A=true then q.e1 else 0
 ce:gcol s S (i*8+7)=if A=true then q.ce else 0
 ln:colL (rowS s S) i=if A=true then (rgN q.H (q.la+1).toNat:Int) else 0
 lb:0≤colL (rowS s S) i∧colL (rowS s S) i≤51
 rg:A=true→ ∀j,j<rgN q.H (q.la+1).toNat*2→colC (rowS s S) (i*128+j)=rgB q.H (q.la+1).toNat j
theorem cols_at {S:Nat→Int} {n i:Nat} {sp:Int} {q:Sp} (T:STok S n sp) (h2:sp≤2) (hi:i<n) (I:Inv (sAt (rowS sp S) i) i (topA (rowS sp S) i)) (R:Rel (sAt (rowS sp S) i) (topA (rowS sp S) i) q):
 Cols sp S i q (asS sp q (kdA S i) (tmA S i) (onA S i)):=by
 obtain ⟨c1,c2,c3,c4,c5,c6⟩:=rowS_c sp S i
 have hf:=fr_at h2 I R
 obtain ⟨h1,h3⟩:=is_at T h2 hi I R
 obtain ⟨r1,r2⟩:=rel_rg I R
 have n1:=I.n1
 have g0:=gcol_at sp S i 0 (by omega)
 have g1:=gcol_at sp S i 1 (by omega)
 have g3:=gcol_at sp S i 3 (by omega)
 have g4:=gcol_at sp S i 4 (by omega)
 have g5:=gcol_at sp S i 5 (by omega)
 have g6:=gcol_at sp S i 6 (by omega)
 have g7:=gcol_at sp S i 7 (by omega)
 have ln:colL (rowS sp S) i=if asS sp q (kdA S i) (tmA S i) (onA S i)=true then (rgN q.H (q.la+1).toNat:Int) else 0:=by
  unfold colL;rw [hf,r1]
 refine ⟨?_,?_,?_,fun k4=>?_,?_,?_,?_,ln,?_,fun _ j hj=>?_⟩
 ·rw [show i*8=i*8+0 from rfl,g0,if_neg (by omega),←h1];rfl
 ·rw [g1,if_neg (by omega),←h3];rfl
 ·rw [g3]
  by_cases c:sp=2
  ·rw [if_neg (fun w=>w.2 c),if_pos c]
   show dlC (rowS sp S) i=_
   unfold dlC;rw [hf,c4,R.lt]
  ·rw [if_pos ⟨rfl,c⟩,if_neg c];split<;>rfl
 ·rw [g4,if_neg (by omega)]
  show atC (rowS sp S) i=_
  unfold atC;rw [c1,if_pos k4];exact rel_al R
 ·rw [g5,if_neg (by omega)]
  show cnC (rowS sp S) i _=_
  unfold cnC;rw [hf,R.e0]
 ·rw [g6,if_neg (by omega)]
  show cnC (rowS sp S) i _=_
  unfold cnC;rw [hf,R.e1]
 ·rw [g7,if_neg (by omega)]
  show cnC (rowS sp S) i _=_
  unfold cnC;rw [hf,R.ce]
 ·rw [ln,r1];split<;>omega
 ·rw [r1] at hj
  rw [r2 j hj]
  unfold colC
  rw [show (i*128+j)/128=i by omega,show (i*128+j) % 128=j by omega]
section
variable {E:Env}
def gE (s:Nat) (c:Nat):SE:= .rd (col s 0) (if c=0 then .mul (.v 130) (.c 8) else .add (.mul (.v 130) (.c 8)) (.c c))
theorem gE_den (hE:E.fn=fns) {s:Nat} {i:Nat} (hi:E.i 130=i) (c:Nat):(gE s c).den E=gcol s (E.a 5) (i*8+c):=by
 have hx:((if c=0 then SE.mul (.v 130) (.c 8) else .add (.mul (.v 130) (.c 8)) (.c c)).den E).toNat=i*8+c:=by
  by_cases h:c=0
  ·rw [if_pos h];show (E.i 130*8).toNat=_;omega
  ·rw [if_neg h];show (E.i 130*8+(c:Int)).toNat=_;omega
 show (col s 0).den E _=_
 rw [hx]
 unfold col gcol
 by_cases h:s=2
 ·rw [if_pos h,if_pos (by omega)]
  show E.fn.a 20 [.a (E.a 5)] _=_
  rw [hE];rfl
 ·rw [if_neg h,if_neg (by omega)]
  show E.fn.a 23 [.a (E.a 5)] _=_
  rw [hE];rfl
theorem lE_den (hE:E.fn=fns) {s:Nat} {i:Nat} (hi:E.i 130=i):(SE.rd (col s 1) (.v 130)).den E=colL (rowS s (E.a 5)) i:=by
 show (col s 1).den E (E.i 130).toNat=_
 rw [show (E.i 130).toNat=i by omega]
 unfold col rowS
 by_cases h:s=2
 ·rw [if_pos h,if_pos (by omega)]
  show E.fn.a 21 [.a (E.a 5)] _=_
  rw [hE];rfl
 ·rw [if_neg h,if_neg (by omega)]
  show E.fn.a 24 [.a (E.a 5)] _=_
  rw [hE];rfl
def onE:SB:= .not (.eq (rs7 5) (.c 0))
def asI (s:Nat):SB:= .and (.eq (rs7 0) (.c 1)) (.and (.not (.eq (.v 114) (.c 0))) (.not (.and onE (if s=2 then .and (.not (.v 116)) (.not (.le (.add (.v 115) (.c 25000000)) (rs7 3))) else .c false))))
def hvI7:SB:=hvq (.v 100) (.v 101) (rs7 2)
def olI:SB:= .not (.and (.not (.lt (rs7 2) (.v 111))) (.not hvI7))
def cuI (s:Nat):SB:= .and (.eq (rs7 0) (.c 2)) (if s=2 then .lt (.v 111) (rs7 2) else .c false)
def reI:SB:= .and (.eq (rs7 0) (.c 0)) (.and (.not (.lt (rs7 2) (.v 111))) (.not hvI7))
theorem rs7_den {i:Nat} (hi:E.i 130=i) (c:Nat) (hc:c<6):(rs7 c).den E=E.a 5 (i*6+c):=by
 unfold rs7
 by_cases h:(c:Int)=0
 ·rw [if_pos h]
  show E.a 5 (E.i 130*6).toNat=_
  congr 1;omega
 ·rw [if_neg h]
  show E.a 5 (E.i 130*6+(c:Int)).toNat=_
  congr 1;omega
theorem asI_den {s:Nat} (h2:s≤2) (t:Bool) {i:Nat} (hi:E.i 130=i):(asI s).den E=asS s (spOf E t) (kdA (E.a 5) i) (tmA (E.a 5) i) (onA (E.a 5) i):=by
 have k:=rs7_den (E:=E) hi 0 (by omega)
 have m:=rs7_den (E:=E) hi 3 (by omega)
 have o:=rs7_den (E:=E) hi 5 (by omega)
 have hk:(rs7 0).den E=kdA (E.a 5) i:=k
 have hm:(rs7 3).den E=tmA (E.a 5) i:=m
 have ho:onE.den E=onA (E.a 5) i:=by
  show (!((rs7 5).den E==0))=!(E.a 5 (i*6+5)==0)
  rw [show (rs7 5).den E=_ from o]
 unfold asS
 by_cases c:s=2
 ·subst c
  show ((rs7 0).den E==1&&(!(E.i 114==0)&&!(onE.den E&&(!E.b 116&&!decide (E.i 115+25000000≤(rs7 3).den E)))))=_
  rw [hk,hm,ho,show decide (((2:Nat):Int)<2)=false from rfl]
  show _=((kdA (E.a 5) i==1)&&(!(E.i 114==0)&&!(onA (E.a 5) i&&!(false||(E.b 116||decide (E.i 115+25000000≤tmA (E.a 5) i))))))
  cases E.b 116<;>cases decide (E.i 115+25000000≤tmA (E.a 5) i)<;>rfl
 ·rw [decide_eq_true (show (s:Int)<2 by omega)]
  unfold asI
  rw [if_neg c]
  show ((rs7 0).den E==1&&(!(E.i 114==0)&&!(onE.den E&&false)))=((kdA (E.a 5) i==1)&&(!(E.i 114==0)&&!(onA (E.a 5) i&&!(true||_))))
  rw [hk,ho]
  cases onA (E.a 5) i<;>rfl
theorem cuI_den {s:Nat} (t:Bool) {i:Nat} (hi:E.i 130=i):(cuI s).den E=cuS s (spOf E t) (kdA (E.a 5) i) (pnA (E.a 5) i):=by
 have hk:(rs7 0).den E=kdA (E.a 5) i:=rs7_den (E:=E) hi 0 (by omega)
 have hp:(rs7 2).den E=pnA (E.a 5) i:=rs7_den (E:=E) hi 2 (by omega)
 unfold cuS cuI
 by_cases c:s=2
 ·subst c
  show ((rs7 0).den E==2&&decide (E.i 111<(rs7 2).den E))=_
  rw [hk,hp];rfl
 ·rw [if_neg c,show ((s:Int)==2)=false from by simpa using (show¬ (s:Int)=2 by omega)]
  show ((rs7 0).den E==2&&false)=_
  rw [hk];rfl
theorem ol_den (t:Bool) {i:Nat} (hi:E.i 130=i):((SB.lt (rs7 2) (.v 111)).den E||hvI7.den E)=olS (spOf E t) (pnA (E.a 5) i):=by
 have hp:(rs7 2).den E=pnA (E.a 5) i:=rs7_den (E:=E) hi 2 (by omega)
 show (decide ((rs7 2).den E<E.i 111)||(!(E.a 100 ((rs7 2).den E).toNat==0)&&!(E.a 101 ((rs7 2).den E).toNat==0)))=_
 rw [hp];rfl
theorem olI_den (t:Bool) {i:Nat} (hi:E.i 130=i):olI.den E=olS (spOf E t) (pnA (E.a 5) i):=by
 rw [←ol_den t hi]
 show (!(!(SB.lt (rs7 2) (.v 111)).den E&&!hvI7.den E))=_
 cases (SB.lt (rs7 2) (.v 111)).den E<;>cases hvI7.den E<;>rfl
theorem reI_den (t:Bool) {i:Nat} (hi:E.i 130=i):reI.den E=reS (spOf E t) (kdA (E.a 5) i) (pnA (E.a 5) i):=by
 have hk:(rs7 0).den E=kdA (E.a 5) i:=rs7_den (E:=E) hi 0 (by omega)
 unfold reS
 rw [←ol_den t hi]
 show ((rs7 0).den E==0&&(!(SB.lt (rs7 2) (.v 111)).den E&&!hvI7.den E))=_
 rw [hk]
 cases (SB.lt (rs7 2) (.v 111)).den E<;>cases hvI7.den E<;>rfl
end
end Go.Proofs.Ytgianhjmjiiadaa
end
section
set_option autoImplicit true
set_option relaxedAutoImplicit true
set_option linter.unusedVariables false
set_option linter.unusedSimpArgs false
set_option maxHeartbeats 4000000
namespace Go.Proofs.Ytgianhjmjiiadaa
open Go Go.Sy
section
variable {E E0:Env}
def i1:SE:= .add (.v 130) (.c 1)
theorem toNat_succ {x:Int} (h:0≤x):(x+1).toNat=x.toNat+1:=by omega
theorem J7.nextR {s:Nat} {t t':Bool} (hE0:E0.fn=fns) (B:Bd7 s E0) (J:J7 s t E0 E) (hlt:E.i 130<E0.i 60) {E':Env} (q:spOf E' t'=spN s (spOf E t) (kdA (E0.a 5) (E.i 130).toNat) (ecA (E0.a 5) (E.i 130).toNat) (pnA (E0.a 5) (E.i 130).toNat) (tmA (E0.a 5) (E.i 130).toNat) (elA (E0.a 5) (E.i 130).toNat) (onA (E0.a 5) (E.i 130).toNat))
 (ag:AgP 100 E0 E') (hi:E'.i 130=E.i 130+1) (hv:HvOk (E'.a 100) (E'.a 101)) (gr: -1≤E'.i 110∧E'.i 110≤99) (at':0≤E'.i 113∧E'.i 113≤1000000000):J7 s t' E0 E':=by
 have i0:=J.i0
 refine ⟨ag,by omega,by omega,?_,hv,gr,at'⟩
 rw [hi,toNat_succ i0,q]
 exact rel_at B.T (by have:=B.s2;omega) (by omega) (J.inv B) J.R
theorem next_F {s:Nat} {t:Bool} (hE0:E0.fn=fns) (B:Bd7 s E0) (J:J7 s t E0 E) (hlt:E.i 130<E0.i 60) (o:Nat→Value)
 (hA:asS s (spOf E t) (kdA (E0.a 5) (E.i 130).toNat) (tmA (E0.a 5) (E.i 130).toNat) (onA (E0.a 5) (E.i 130).toNat)=true):
 J7 s true E0 (E.put [(115,c0),(114,c0),(110,.v 112),(130,i1)] [(116,.c false)] [(103,one (.v 100)),(102,one (.v 100))] o):=by
 have I:=J.inv B
 have R:=J.R
 have la:E.i 112=_:=R.la
 have htop:topA (rowS s (E0.a 5)) (E.i 130).toNat≤99:=by rw [rowS_top];exact top_leS B.T _ (by have:=J.le;have:=J.i0;omega)
 refine J.nextR hE0 B hlt ?_ (J.ag.put o) rfl J.hv ⟨?_,?_⟩ J.at'
 ·unfold spN
  rw [if_pos hA]
  show Sp.mk _ _ _ _ _ _ _ _ _ _ _ _ _=Sp.mk _ _ _ _ _ _ _ _ _ _ _ _ _
  have h1:(one (.v 100)).den E=fun z=>if E.a 100 z=0 then 0 else 1:=by
   funext z
   show E.fn.a 33 [.a (E.a 100)] z=_
   rw [J.ag.fn,hE0];rfl
  congr 1
  show hvD ((one (.v 100)).den E) ((one (.v 100)).den E)=hvD (E.a 100) (E.a 101)
  rw [h1];exact hv_one J.hv.tr
 ·show -1≤E.i 112;have:=I.t0;omega
 ·show E.i 112≤99;omega
theorem next_N {s:Nat} {t:Bool} (hE0:E0.fn=fns) (B:Bd7 s E0) (J:J7 s t E0 E) (hlt:E.i 130<E0.i 60) (o:Nat→Value)
 (hA:asS s (spOf E t) (kdA (E0.a 5) (E.i 130).toNat) (tmA (E0.a 5) (E.i 130).toNat) (onA (E0.a 5) (E.i 130).toNat)=false)
 (hC:cuS s (spOf E t) (kdA (E0.a 5) (E.i 130).toNat) (pnA (E0.a 5) (E.i 130).toNat)=false) (hR:reS (spOf E t) (kdA (E0.a 5) (E.i 130).toNat) (pnA (E0.a 5) (E.i 130).toNat)=false):
 J7 s t E0 (E.put [(130,i1)] [] [] o):=by
 refine J.nextR hE0 B hlt ?_ (J.ag.put o) rfl J.hv J.gr J.at'
 unfold spN
 simp only [hA,hC,hR,Bool.false_eq_true,if_false]
 rfl
theorem next_B {s:Nat} {t:Bool} (hE0:E0.fn=fns) (B:Bd7 s E0) (J:J7 s t E0 E) (hlt:E.i 130<E0.i 60) (o:Nat→Value)
 (hA:asS s (spOf E t) (kdA (E0.a 5) (E.i 130).toNat) (tmA (E0.a 5) (E.i 130).toNat) (onA (E0.a 5) (E.i 130).toNat)=false)
 (hC:cuS s (spOf E t) (kdA (E0.a 5) (E.i 130).toNat) (pnA (E0.a 5) (E.i 130).toNat)=true):
 J7 s t E0 (E.put [(111,rs7 2),(130,i1)] [] [(100,cutM (.v 100) (rs7 2))] o):=by
 have hp:(rs7 2).den E=pnA (E0.a 5) (E.i 130).toNat:=by
  rw [←J.ag.a 5 (by decide)]
  exact rs7_den (E:=E) (i:=(E.i 130).toNat) (by have:=J.i0;omega) 2 (by omega)
 have hcut:(cutM (.v 100) (rs7 2)).den E=fun z:Nat=>if (z:Int)<pnA (E0.a 5) (E.i 130).toNat then 0 else E.a 100 z:=by
  funext z
  show E.fn.a 34 [.a (E.a 100),.i ((rs7 2).den E)] z=_
  rw [J.ag.fn,hE0,hp];rfl
 refine J.nextR hE0 B hlt ?_ (J.ag.put o) rfl ?_ J.gr J.at'
 ·unfold spN
  simp only [hA,hC,Bool.false_eq_true,if_false,if_true]
  show Sp.mk _ ((rs7 2).den E) _ _ _ _ _ _ _ _ _ (hvD ((cutM (.v 100) (rs7 2)).den E) (E.a 101)) _=Sp.mk _ (pnA (E0.a 5) (E.i 130).toNat) _ _ _ _ _ _ _ _ _ (fun z=>decide (pnA (E0.a 5) (E.i 130).toNat≤z)&&hvD (E.a 100) (E.a 101) z) _
  rw [hp,hcut,hv_cut];rfl
 ·show HvOk ((cutM (.v 100) (rs7 2)).den E) (E.a 101)
  rw [hcut];exact J.hv.cut _
end
end Go.Proofs.Ytgianhjmjiiadaa
end
