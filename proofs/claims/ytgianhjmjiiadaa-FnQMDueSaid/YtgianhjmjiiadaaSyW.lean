/- Writing into rows of the call's own; copy. -/
import Derived.Test.YtgianhjmjiiadaaSyI
import Derived.Laws.CopyRow
import Derived.Laws.IdiomCopy
section
section
set_option autoImplicit true
set_option relaxedAutoImplicit true
set_option linter.unusedVariables false
set_option linter.unusedSimpArgs false
namespace Go.Sy
open Go
variable {E:Env} {β:Nat→Bk} {P:Program} {w:World}
theorem putAll_eq (off:Nat): ∀(vs l:List SV) (j:Nat),off+j+vs.length≤l.length→putAll off l j vs=l.take (off+j)++vs++l.drop (off+j+vs.length)
 |[],l,j,h=>by simp [putAll]
 |v::r,l,j,h=>by
  simp only [List.length_cons] at h
  simp only [putAll]
  rw [putAll_eq off r (l.set (off+j) v) (j+1) (by simp;omega)]
  have h1:(l.set (off+j) v).take (off+(j+1))=l.take (off+j)++[v]:=by
   rw [show off+(j+1)=off+j+1 by omega,List.take_succ_eq_append_getElem (by simp;omega)]
   simp [List.take_set_of_le]
  have h2:(l.set (off+j) v).drop (off+(j+1)+r.length)=l.drop (off+j+(v::r).length):=by
   rw [List.drop_set_of_lt (by omega)]
   congr 1;simp only [List.length_cons];omega
  rw [h1,h2];simp
theorem HOk.setRow {h:List SBlk} (hw:HOk E β h w) {b:Nat} {a a':AE} {ks:List SK} {n:SE} {tail tail':List SV} {S:TypeId} (hb:h[b]?=some (.row a ks n tail S)) (hz:(β b).z=false) {cur':Array Value} {m:Nat}
 (hlen:tail'.length=m*ks.length) (hn:(β b).n=(n.den E).toNat+m) (hsz:cur'.size=(β b).c*ks.length) (hm:(β b).n≤(β b).c∧(β b).c≤maxLen) (hc:cur'.toList.take ((β b).n*ks.length)=rowCells E β (β b).q a' ks (n.den E).toNat tail'):
 HOk E β (h.set b (.row a' ks n tail' S)) (wset w (β b).a (.cells cur' S (0,0)))∧Ext E h β w E (h.set b (.row a' ks n tail' S)) β (wset w (β b).a (.cells cur' S (0,0))):=by
 refine HOk.put (s1:= .row a' ks n tail' S) hw hb hz (fun x hx=>hx) (by simp [wset]) (fun x hx=>wset_other fun hh=>hx ⟨hz,hh⟩) rfl rfl rfl ?_
 refine ⟨(hw.ok b _ hb).1,m,hlen,?_⟩
 rw [←hn,←hc]
 have hv:(β b).v= .slice (some ⟨(β b).a,0,none⟩) (β b).n (β b).c:=by simp [Bk.v,hz,show (β b).o=0 from (hw.ok b _ hb).1]
 refine ⟨?_,.inr ⟨(β b).a,(β b).c,cur',hv,Nat.zero_le _,wset_same (hw.lta hb hz rfl),hm.1,hm.2,hsz,rfl⟩⟩
 rw [hc,rowCells_length,hn,hlen,Nat.add_mul]
theorem setRow_wset {g:Nat} {cur cs:Array Value} {S:TypeId} (h:w.heap[g]?=some (.cells cur S (0,0))):w.setRow g cs=wset w g (.cells cs S (0,0)):=by
 have hlt:g<w.heap.size:=(Array.getElem?_eq_some_iff.1 h).1
 unfold World.setRow wset
 congr 1
 apply Array.ext_getElem?
 intro i
 rw [Array.getElem?_modify,Array.getElem?_setIfInBounds]
 by_cases hi:g=i
 ·subst hi
  have hb:=(Array.getElem?_eq_some_iff.1 h).2
  simp [hlt,hb]
 ·simp [hi]
def sStore2 (P:Program) (F:Fx) (h:List SBlk) (T:TypeId) (x v:SV):Option (List SBlk):=
 match x with
 | .ptr b o=>
   match h[b]?,sizeT P T,v.cells with
   |some (.row a ks n tail S),some sz,some vs=>
    match tailIx F n o.row with
    |some t=>if o.stride=ks.length∧ks.length≠0∧o.col+sz≤ks.length∧(t+1)*ks.length≤tail.length∧vs.length=sz∧vs.all SV.isCell=true then
      some (h.set b (.row a ks n (putAll (t*ks.length+o.col) tail 0 vs) S)) else none
    |none=>none
   |_,_,_=>none
 |_=>none
theorem sStore2_ok {F:Fx} (hF:Facts E F) {h h':List SBlk} (hw:HOk E β h w) {T:TypeId} {x v:SV} (hr:sStore2 P F h T x v=some h'):
 ∃w',(Instr.storeAt T (x.den E β) (v.den E β)).run P w= .ok () w'∧HOk E β h' w'∧Ext E h β w E h' β w':=by
 unfold sStore2 at hr
 split at hr
 ·rename_i b o
  split at hr
  ·rename_i a ks n tail S sz vs hb hsz hvs
   split at hr
   ·rename_i t ht
    split at hr
    ·rename_i hc
     cases hr
     obtain ⟨c1,c2,c3,c4,c5,c6⟩:=hc
     have hrow:=tailIx_ok hF ht
     have hK:=Nat.pos_of_ne_zero c2
     have hblk:=hw.ok b _ hb
     have hbo:(β b).o=0:=hblk.1
     obtain ⟨m,hm,hrest⟩:=row_v hblk
     have htm:t<m:=by
      rcases Nat.lt_or_ge t m with h|h
      ·exact h
      ·have:=Nat.mul_le_mul_right ks.length (show m+1≤t+1 by omega)
       rw [Nat.add_mul] at this;omega
     rcases hrest with ⟨_,_,h5⟩|⟨hz,h4,h5,h6,cur,h7,h8,h9⟩
     ·omega
     ·have c4':t*ks.length+ks.length≤tail.length:=by rw [Nat.add_mul] at c4;omega
      have hoff:o.den E=(n.den E).toNat*ks.length+(t*ks.length+o.col):=by simp only [Off.den,hrow,c1,Nat.add_mul];omega
      have hle:(β b).n*ks.length≤cur.size:=by rw [h8];exact Nat.mul_le_mul_right _ h5
      have hnn:(β b).n*ks.length=(n.den E).toNat*ks.length+tail.length:=by rw [h4,hm,Nat.add_mul]
      have hvl:(SV.denL E β vs).length=sz:=by rw [denL_length,c5]
      have hfit:o.den E+0+(SV.denL E β vs).length≤cur.size:=by rw [hoff,hvl];omega
      have hst:=run_storeCells_at P (β b).a (o.den E) S (SV.denL E β vs) 0 cur w h7 hfit (fun u hu=>by
       rw [SV.denL_map] at hu
       obtain ⟨s,hs,rfl⟩:=List.mem_map.1 hu
       exact isCell_ok (List.all_eq_true.1 c6 s hs))
      rw [setRow_wset h7] at hst
      simp only [Nat.add_zero] at hst
      have hput:=putAll_eq (t*ks.length+o.col) vs tail 0 (by omega)
      simp only [Nat.add_zero] at hput
      obtain ⟨k1,k2⟩:=HOk.setRow (tail':=putAll (t*ks.length+o.col) tail 0 vs) (a':=a) (m:=m) hw hb hz (cur':=(cur.toList.take (o.den E)++SV.denL E β vs++cur.toList.drop (o.den E+(SV.denL E β vs).length)).toArray)
       (by rw [putAll_length,hm]) h4 (by simp;omega) ⟨h5,h6⟩ (by
         have e1:cur.toList=rowCells E β (β b).q a ks (n.den E).toNat tail++cur.toList.drop ((β b).n*ks.length):=by rw [←h9,List.take_append_drop]
         have hrl:=rowCells_length (E:=E) (β:=β) (β b).q a ks (n.den E).toNat tail
         have hA:((List.range ((n.den E).toNat*ks.length)).map (fun j=>(ks.getD (j % ks.length) default).val (a.den E j) ((β b).q j))).length=(n.den E).toNat*ks.length:=by simp
         apply List.ext_getElem?
         intro j
         simp only [List.toList_toArray]
         by_cases hj:j<(β b).n*ks.length
         ·rw [List.getElem?_take_of_lt hj,hput]
          have hcj: ∀j,j<(β b).n*ks.length→cur.toList[j]?=(rowCells E β (β b).q a ks (n.den E).toNat tail)[j]?:=fun j hj=>by rw [←h9,List.getElem?_take_of_lt hj]
          unfold rowCells at hcj⊢
          by_cases h1:j<o.den E
          ·rw [List.append_assoc,List.getElem?_append_left (by simp;omega),List.getElem?_take_of_lt h1,hcj j hj]
           by_cases h2:j<(n.den E).toNat*ks.length
           ·rw [List.getElem?_append_left (by rw [hA];exact h2),List.getElem?_append_left (by rw [hA];exact h2)]
           ·rw [List.getElem?_append_right (by rw [hA];omega),List.getElem?_append_right (by rw [hA];omega),hA,SV.denL_map,SV.denL_map,List.append_assoc,List.map_append,
             List.getElem?_append_left (by simp;omega),List.getElem?_map,List.getElem?_map,List.getElem?_take_of_lt (by omega)]
          ·conv=>rhs;rw [List.getElem?_append_right (by rw [hA];omega),hA,SV.denL_map,List.map_append,List.map_append]
           have htl:(List.map (SV.den E β) (tail.take (t*ks.length+o.col))).length=t*ks.length+o.col:=by simp;omega
           have htk:(cur.toList.take (o.den E)).length=o.den E:=by simp;omega
           have hvl2:(List.map (SV.den E β) vs).length=sz:=by simp [c5]
           by_cases h3:j<o.den E+sz
           ·conv=>rhs;rw [List.append_assoc,List.getElem?_append_right (by rw [htl];omega),List.getElem?_append_left (by rw [htl,hvl2];omega),htl]
            rw [List.append_assoc,List.getElem?_append_right (by rw [htk];omega),List.getElem?_append_left (by rw [hvl,htk];omega),SV.denL_map,htk]
            congr 1
            omega
           ·conv=>rhs;rw [List.getElem?_append_right (by rw [List.length_append,htl,hvl2];omega),List.length_append,htl,hvl2,List.getElem?_map,List.getElem?_drop,c5]
            rw [List.getElem?_append_right (by rw [List.length_append,htk,hvl];omega),List.length_append,htk,hvl,List.getElem?_drop]
            rw [show o.den E+sz+(j - (o.den E+sz))=j by omega]
            rw [hcj j hj,List.getElem?_append_right (by rw [hA];omega),hA,SV.denL_map,List.getElem?_map]
            congr 2
            omega
         ·rw [List.getElem?_eq_none (by simp;omega),List.getElem?_eq_none (by rw [rowCells_length,putAll_length];omega)])
      refine ⟨_,?_,k1,k2⟩
      have hszz:(v.den E β).cells.size=sz:=by rw [cells_ok hvs];simp [denL_length,c5]
      simp only [Instr.storeAt,SV.den,Instr.sureAddr,Sem.run_bind,Sem.run_pure,Result.andThen_ok,storeVar,sizeT_ok hsz,hszz,hbo,Nat.zero_add]
      simp only [ne_eq,not_true_eq_false,if_false]
      rw [cells_ok hvs]
      simpa using hst
    ·cases hr
   ·cases hr
  ·cases hr
 ·cases hr
def stUps (ks:List SK) (base:SE):Nat→List SV→AE→Option AE
 |_,[],a=>some a
 |col,v::r,a=>match ks.getD col default,v with
  | .int k,.int j e=>if k=j then stUps ks base (col+1) r (.up a (.mkAdd base (.c col)) e) else none
  | .bool,.bool b=>stUps ks base (col+1) r (.up a (.mkAdd base (.c col)) (.mkIte b (.c 1) (.c 0)))
  |_,_=>none
theorem stUps_ok {ks:List SK} {base:SE} {m:Nat} (hb:base.den E=(m:Int)): ∀{vs:List SV} {col:Nat} {a a':AE},stUps ks base col vs a=some a'→
 (∀j,(j<m+col∨m+col+vs.length≤j)→a'.den E j=a.den E j)∧ ∀i q,i<vs.length→(ks.getD (col+i) default).val (a'.den E (m+(col+i))) q=((vs.getD i (.tup [])).den E β)
 |[],col,a,a',h=>by cases h;exact ⟨fun _ _=>rfl,fun i q hi=>by simp at hi⟩
 |v::r,col,a,a',h=>by
  have hix:((SE.mkAdd base (.c (col:Int))).den E).toNat=m+col:=by simp only [SE.den_mkAdd,SE.den,hb];omega
  have step: ∀(x:SE),stUps ks base (col+1) r (.up a (.mkAdd base (.c col)) x)=some a'→(∀q,(ks.getD col default).val (x.den E) q=v.den E β)→
   (∀j,(j<m+col∨m+col+(v::r).length≤j)→a'.den E j=a.den E j)∧ ∀i q,i<(v::r).length→(ks.getD (col+i) default).val (a'.den E (m+(col+i))) q=(((v::r).getD i (.tup [])).den E β):=fun x hx hv=>by
   obtain ⟨h1,h2⟩:=stUps_ok hb hx
   refine ⟨fun j hj=>?_,fun i q hi=>?_⟩
   ·simp only [List.length_cons] at hj
    rw [h1 j (by omega)]
    simp only [AE.den,hix]
    rw [if_neg (by omega)]
   ·cases i with
    |zero=>
     rw [Nat.add_zero,h1 (m+col) (by omega)]
     simp only [AE.den,hix,if_true,List.getD_cons_zero]
     exact hv q
    |succ i=>
     have:=h2 i q (by simpa using hi)
     rw [show col+1+i=col+(i+1) by omega] at this
     simpa only [List.getD_cons_succ] using this
  simp only [stUps] at h
  split at h
  ·rename_i k j e hk
   split at h
   ·rename_i hkj
    subst hkj
    exact step _ h fun q=>by rw [hk];rfl
   ·cases h
  ·rename_i b hk
   exact step _ h fun q=>by rw [hk];simp only [SK.val,SV.den,SE.den_mkIte,SE.den];cases b.den E<;>rfl
  ·cases h
def sStore3 (P:Program) (F:Fx) (h:List SBlk) (T:TypeId) (x v:SV):Option (List SBlk):=
 match x with
 | .ptr b o=>
   match h[b]?,sizeT P T,v.cells with
   |some (.row a ks n tail S),some sz,some vs=>
    if o.stride=ks.length∧ks.length≠0∧o.col+sz≤ks.length∧vs.length=sz∧vs.all SV.isCell=true∧dec F (.le (.c 0) o.row)=some true∧dec F (.lt o.row n)=some true then
     match stUps ks (.mkMul o.row (.c ks.length)) o.col vs a with
     |some a'=>some (h.set b (.row a' ks n tail S))
     |none=>none
    else none
   |_,_,_=>none
 |_=>none
theorem sStore3_ok {F:Fx} (hF:Facts E F) {h h':List SBlk} (hw:HOk E β h w) {T:TypeId} {x v:SV} (hr:sStore3 P F h T x v=some h'):
 ∃w',(Instr.storeAt T (x.den E β) (v.den E β)).run P w= .ok () w'∧HOk E β h' w'∧Ext E h β w E h' β w':=by
 unfold sStore3 at hr
 split at hr
 ·rename_i b o
  split at hr
  ·rename_i a ks n tail S sz vs hb hsz hvs
   split at hr
   ·rename_i hc
    obtain ⟨c1,c2,c3,c5,c6,c7,c8⟩:=hc
    split at hr
    ·rename_i a' ha'
     cases hr
     have hK:=Nat.pos_of_ne_zero c2
     have hblk:=hw.ok b _ hb
     have hbo:(β b).o=0:=hblk.1
     have r0:0≤o.row.den E:=by exact of_decide_eq_true (dec_ok (E:=E) hF c7)
     have r1:o.row.den E<n.den E:=by exact of_decide_eq_true (dec_ok (E:=E) hF c8)
     obtain ⟨r,hr⟩:=Int.eq_ofNat_of_zero_le r0
     have hrn:r<(n.den E).toNat:=by omega
     have hbase:(SE.mkMul o.row (.c (ks.length:Int))).den E=((r*ks.length:Nat):Int):=by rw [SE.den_mkMul,hr];simp [SE.den]
     obtain ⟨u1,u2⟩:=stUps_ok (E:=E) (β:=β) hbase ha'
     have hoff:o.den E=r*ks.length+o.col:=by simp only [Off.den,hr,c1,Int.toNat_natCast]
     have hle1:(r+1)*ks.length≤(n.den E).toNat*ks.length:=Nat.mul_le_mul_right _ (by omega)
     rw [Nat.add_mul,Nat.one_mul] at hle1
     obtain ⟨m,hm,hrest⟩:=row_v hblk
     rcases hrest with ⟨_,h4,h5⟩|⟨hz,h4,h5,h6,cur,h7,h8,h9⟩
     ·omega
     ·have hle:(β b).n*ks.length≤cur.size:=by rw [h8];exact Nat.mul_le_mul_right _ h5
      have hnn:(β b).n*ks.length=(n.den E).toNat*ks.length+tail.length:=by rw [h4,hm,Nat.add_mul]
      have hvl:(SV.denL E β vs).length=sz:=by rw [denL_length,c5]
      have hfit:o.den E+0+(SV.denL E β vs).length≤cur.size:=by rw [hoff,hvl];omega
      have hst:=run_storeCells_at P (β b).a (o.den E) S (SV.denL E β vs) 0 cur w h7 hfit (fun u hu=>by
       rw [SV.denL_map] at hu
       obtain ⟨s,hs,rfl⟩:=List.mem_map.1 hu
       exact isCell_ok (List.all_eq_true.1 c6 s hs))
      rw [setRow_wset h7] at hst
      simp only [Nat.add_zero] at hst
      obtain ⟨k1,k2⟩:=HOk.setRow (tail':=tail) (a':=a') (m:=m) hw hb hz (cur':=(cur.toList.take (o.den E)++SV.denL E β vs++cur.toList.drop (o.den E+(SV.denL E β vs).length)).toArray)
       hm h4 (by simp;omega) ⟨h5,h6⟩ (by
        have hcj: ∀j,j<(β b).n*ks.length→cur.toList[j]?=(rowCells E β (β b).q a ks (n.den E).toNat tail)[j]?:=fun j hj=>by rw [←h9,List.getElem?_take_of_lt hj]
        have htk:(cur.toList.take (o.den E)).length=o.den E:=by simp;omega
        apply List.ext_getElem?
        intro j
        simp only [List.toList_toArray]
        by_cases hj:j<(β b).n*ks.length
        ·rw [List.getElem?_take_of_lt hj]
         by_cases hlo:j<(n.den E).toNat*ks.length
         ·rw [rowCells_lo hlo]
          by_cases g1:j<o.den E
          ·rw [List.append_assoc,List.getElem?_append_left (by rw [htk];exact g1),List.getElem?_take_of_lt g1,hcj j hj,rowCells_lo hlo,u1 j (by rw [hoff] at g1;omega)]
          ·by_cases g2:j<o.den E+sz
           ·rw [List.append_assoc,List.getElem?_append_right (by rw [htk];omega),List.getElem?_append_left (by rw [hvl,htk];omega),htk]
            obtain ⟨i,hi⟩: ∃i,j=r*ks.length+(o.col+i):=⟨j - o.den E,by omega⟩
            have hi2:i<sz:=by omega
            have:=u2 i ((β b).q j) (by omega)
            rw [hi,show r*ks.length+(o.col+i) - o.den E=i by omega]
            have hmod:(r*ks.length+(o.col+i)) % ks.length=o.col+i:=by rw [Nat.add_comm,Nat.add_mul_mod_self_right,Nat.mod_eq_of_lt (by omega)]
            rw [hmod,←hi,show j=r*ks.length+(o.col+i) from hi,u2 i _ (by omega),SV.denL_map,List.getElem?_map]
            rw [List.getD_eq_getElem?_getD]
            have hsome: ∃s,vs[i]?=some s:=⟨vs[i],List.getElem?_eq_getElem (by omega)⟩
            obtain ⟨s,hs⟩:=hsome
            rw [hs];rfl
           ·rw [List.getElem?_append_right (by rw [List.length_append,htk,hvl];omega),List.length_append,htk,hvl,List.getElem?_drop,show o.den E+sz+(j - (o.den E+sz))=j by omega,hcj j hj,rowCells_lo hlo,u1 j (by rw [c5];omega)]
         ·rw [List.getElem?_append_right (by rw [List.length_append,htk,hvl];omega),List.length_append,htk,hvl,List.getElem?_drop,show o.den E+sz+(j - (o.den E+sz))=j by omega,hcj j hj]
          obtain ⟨i,hi⟩: ∃i,j=(n.den E).toNat*ks.length+i:=⟨j - (n.den E).toNat*ks.length,by omega⟩
          rw [hi,rowCells_hi,rowCells_hi]
        ·rw [List.getElem?_eq_none (by simp;omega),List.getElem?_eq_none (by rw [rowCells_length];omega)])
      refine ⟨_,?_,k1,k2⟩
      have hszz:(v.den E β).cells.size=sz:=by rw [cells_ok hvs];simp [denL_length,c5]
      simp only [Instr.storeAt,SV.den,Instr.sureAddr,Sem.run_bind,Sem.run_pure,Result.andThen_ok,storeVar,sizeT_ok hsz,hszz,hbo,Nat.zero_add]
      simp only [ne_eq,not_true_eq_false,if_false]
      rw [cells_ok hvs]
      simpa using hst
    ·cases hr
   ·cases hr
  ·cases hr
 ·cases hr
def sCopy (P:Program) (gm:Gm) (F:Fx) (h:List SBlk) (tmps:Tm) (op:Op):AR:=
 match op with
 | .call c=>match c.callee,c.argTypes.toList,evL gm tmps c.args.toList with
   | .builtin .copy,[t,t'],some [.slice b o (.c n1) _,.slice b2 o2 (.c n2) _]=>match P.underlying t with
     |some (.slice e)=>if sizeT P e=some 1 then
       (let n:=Nat.min n2.toNat n1.toNat
       if n=0 then .ok h (.int .i64 (.c 0)) else
       match h[b]?,constRow o,h[b2]?,constRow o2 with
       |some (.cells l S),some p,some (.cells l2 _),some p2=>
        if p+n≤l.length∧p2+n≤l2.length∧((l2.drop p2).take n).all SV.isCell=true∧(n:Int)≤1000000 then .ok (h.set b (.cells (putAll p l 0 ((l2.drop p2).take n)) S)) (.int .i64 (.c (n:Int))) else .no
       |_,_,_,_=> .no)
      else .no
     |_=> .no
   |_,_,_=> .no
 |_=> .no
theorem sCopy_ok {gm:Gm} (hg:gm.ok β) {F:Fx} (hF:Facts E F) {h h':List SBlk} (hw:HOk E β h w) {tmps:Tm} {ds:List Deferred} {o:Oper} {v:SV}
 (hr:sCopy P gm F h tmps o.op= .ok h' v): ∃w',(execOp (actD E β tmps ds).eval o).run P w= .ok (.value (v.den E β)) w'∧HOk E β h' w'∧Ext E h β w E h' β w':=by
 unfold execOp
 cases ho:o.op<;>simp only [ho,sCopy] at hr<;>try (first|(cases hr;done))
 rename_i c
 split at hr
 ·rename_i t t' b o1 n1 cc1 b2 o2 n2 cc2 hc hts hl
  split at hr
  ·rename_i e hd
   split at hr
   ·rename_i hsz
    have hsz1:(P.info? e).map (·.size)=some 1:=hsz
    have hat:c.argTypes= #[t,t']:=by
     obtain ⟨l,he⟩: ∃l,c.argTypes=l:=⟨_,rfl⟩
     rw [he] at hts⊢
     obtain ⟨l⟩:=l
     simp only at hts
     rw [hts]
    simp only [resolve,hc,Sem.run_bind,Sem.run_pure,Result.andThen_ok,invoke,evL_arr (E:=E) (ds:=ds) hg hl,hat]
    have hargs:(SV.denL E β [SV.slice b o1 (.c n1) cc1,SV.slice b2 o2 (.c n2) cc2]).toArray= #[(SV.slice b o1 (.c n1) cc1).den E β,(SV.slice b2 o2 (.c n2) cc2).den E β]:=rfl
    rw [hargs]
    show∃w',((do pure (Next.value (←Builtin.copy_ #[t,t'] o.type #[(SV.slice b o1 (.c n1) cc1).den E β,(SV.slice b2 o2 (.c n2) cc2).den E β]))):Sem Next).run P w=_∧_
    split at hr
    ·rename_i hn0
     cases hr
     have:=run_copy_none (P:=P) w t t' o.type e (some ⟨(β b).a,(β b).o+o1.den E,none⟩) (some ⟨(β b2).a,(β b2).o+o2.den E,none⟩) ((SE.c n1).den E).toNat (cc1.den E).toNat ((SE.c n2).den E).toNat (cc2.den E).toNat hd hsz1 (by simpa [SE.den] using hn0)
     exact ⟨w,val_run (by simpa [SV.den,goInt,SE.den] using this),hw,Ext.refl _ _ _ _⟩
    ·rename_i hn0
     split at hr
     ·rename_i l S p l2 S2 p2 hb hp hb2 hp2
      split at hr
      ·rename_i hcc
       cases hr
       obtain ⟨c1,c2,c3,c4⟩:=hcc
       obtain ⟨k1,k2⟩:=HOk.set (l':=putAll p l 0 ((l2.drop p2).take (Nat.min n2.toNat n1.toNat))) hw hb
       have hblk:=hw.ok b _ hb
       have hblk2:=hw.ok b2 _ hb2
       simp only [SBlk.ok] at hblk hblk2
       have hvl:(SV.denL E β ((l2.drop p2).take (Nat.min n2.toNat n1.toNat))).length=Nat.min n2.toNat n1.toNat:=by rw [denL_length,List.length_take,List.length_drop];omega
       have:=run_copy_row (P:=P) w t t' o.type e (β b).a p ((SE.c n1).den E).toNat (cc1.den E).toNat ⟨(β b2).a,p2,none⟩ ((SE.c n2).den E).toNat (cc2.den E).toNat (SV.denL E β l).toArray S (SV.denL E β ((l2.drop p2).take (Nat.min n2.toNat n1.toNat))) hd hsz1 hblk.2 (by rw [hvl];rfl) (fun j u hj=>by
        have hjn:j<Nat.min n2.toNat n1.toNat:=by
         have:=(List.getElem?_eq_some_iff.1 hj).1
         rwa [hvl] at this
        have h1:=cell_cells hw hb2 (p2+j)
        rw [hblk2.1,Nat.zero_add] at h1
        rw [addr_add,h1]
        rw [SV.denL_map,List.getElem?_map] at hj
        rw [←hj,List.getElem?_take_of_lt hjn,List.getElem?_drop]) (by rw [hvl];simpa [denL_length] using c1) (fun u hu=>by
        rw [SV.denL_map] at hu
        obtain ⟨s,hs,rfl⟩:=List.mem_map.1 hu
        exact isCell_ok (List.all_eq_true.1 c3 s hs))
       rw [setRow_wset hblk.2] at this
       have hput:=putAll_eq p ((l2.drop p2).take (Nat.min n2.toNat n1.toNat)) l 0 (by rw [denL_length] at hvl;omega)
       simp only [Nat.add_zero] at hput
       have hcells:((SV.denL E β l).toArray.toList.take p++SV.denL E β ((l2.drop p2).take (Nat.min n2.toNat n1.toNat))++(SV.denL E β l).toArray.toList.drop (p+(SV.denL E β ((l2.drop p2).take (Nat.min n2.toNat n1.toNat))).length)).toArray=(SV.denL E β (putAll p l 0 ((l2.drop p2).take (Nat.min n2.toNat n1.toNat)))).toArray:=by
        rw [hput,denL_append,denL_append,denL_length]
        simp only [SV.denL_map,List.map_take,List.map_drop]
       rw [hcells] at this
       refine ⟨_,?_,k1,k2⟩
       have e1:(SV.slice b o1 (.c n1) cc1).den E β= .slice (some ⟨(β b).a,p,none⟩) ((SE.c n1).den E).toNat (cc1.den E).toNat:=by simp [SV.den,constRow_ok hp,hblk.1]
       have e2:(SV.slice b2 o2 (.c n2) cc2).den E β= .slice (some ⟨(β b2).a,p2,none⟩) ((SE.c n2).den E).toNat (cc2.den E).toNat:=by simp [SV.den,constRow_ok hp2,hblk2.1]
       rw [e1,e2,Sem.run_bind,this,hvl]
       simp [SV.den,goInt,SE.den]
      ·cases hr
     ·cases hr
   ·cases hr
  ·cases hr
 ·cases hr
end Go.Sy
end
section
set_option autoImplicit true
set_option relaxedAutoImplicit true
set_option linter.unusedVariables false
set_option linter.unusedSimpArgs false
namespace Go.Sy
open Go
variable {E:Env} {β:Nat→Bk} {p:Prm} {w:World} {Q:Exit→Act→World→Prop}
inductive SX where
 |normal
 |ex (id:Nat)
 |ret
def SX.den:SX→Exit
 | .normal=> .normal
 | .ex id=> .exit id
 | .ret=> .ret
structure Rest where
 q:List (Nat×Oper)
 k:Nat:=0
 dn:List Nat:=[]
 M:List Nat:=[]
inductive KF where
 |seq (c:Code)
 |blk (id:Nat)
 |loop (c:Code)
 |ret (f:FuncId) (dst:Option Tmp) (tmps:Tm) (ds:List SD) (all:Array Oper) (rest:Rest) (fid:FuncId)
inductive Fo where
 |code (c:Code)
 |ops (all:Array Oper) (rest:Rest)
 |exit (e:SX)
structure Cf where
 tmps:Tm
 ds:List SD
 heap:List SBlk
 facts:Fx
 fo:Fo
 k:List KF
 fid:FuncId
 nv:Nat:=1000
def LoopC (P:Program) (c:Code) (Q:Exit→Act→World→Prop) (a:Act) (w:World):Prop:=
 ∀(b:Frame) (k:List Item) (cs:List Frame),∃e a' w',Q e a' w'∧Arrives P (lone (b.at a (.inLoop c::k)) cs w) b k cs e a' w'
theorem round_of {P:Program} {c:Code} {a:Act} {w:World} (h:c.wp P (Exit.then (LoopC P c Q) Q) a w) (b:Frame) (k:List Item) (cs:List Frame):
 ∃e a' w',Q e a' w'∧Arrives P (lone (b.at a (.code c:: .inLoop c::k)) cs w) b k cs e a' w':=by
 obtain ⟨e,a₁,w₁,hq,harr⟩:=h b (.inLoop c::k) cs
 cases e with
 |normal=>
  obtain ⟨e₂,a₂,w₂,hq₂,harr₂⟩:=hq b k cs
  exact ⟨e₂,a₂,w₂,hq₂,.of_steps harr harr₂⟩
 |exit id=>exact ⟨_,a₁,w₁,hq,.pass (x:= .inLoop c) rfl (fun _ _=> .inl (by simp)) harr⟩
 |goto l=>exact ⟨_,a₁,w₁,hq,.pass (x:= .inLoop c) rfl (fun _ _=> .inl (by simp)) harr⟩
 |ret=>exact ⟨_,a₁,w₁,hq,.pass (x:= .inLoop c) rfl (fun _ _=> .inl (by simp)) harr⟩
 |panic ch=>exact ⟨_,a₁,w₁,hq,.pass (x:= .inLoop c) rfl (fun _ _=> .inl (by simp)) harr⟩
 |outgrown=>exact ⟨_,a₁,w₁,hq,.pass (x:= .inLoop c) rfl (fun _ _=> .inl (by simp)) harr⟩
theorem loop_of {P:Program} {c:Code} {a:Act} {w:World} (h:c.wp P (Exit.then (LoopC P c Q) Q) a w):(Code.loop c).wp P Q a w:=fun b k cs=>
 let ⟨e,a',w',hq,harr⟩:=round_of h b k cs
 ⟨e,a',w',hq,.of_steps (.one step_loop) harr⟩
theorem loopC_of {P:Program} {c:Code} {a:Act} {w:World} (h:c.wp P (Exit.then (LoopC P c Q) Q) a w):LoopC P c Q a w:=fun b k cs=>
 let ⟨e,a',w',hq,harr⟩:=round_of h b k cs
 ⟨e,a',w',hq,.of_steps (.one step_inLoop) harr⟩
def actS (E:Env) (β:Nat→Bk) (tmps:Tm) (ds:List SD):Act:=actD E β tmps (ds.map (SD.den E β))
def wpR (P:Program) (all:Array Oper) (Q:Exit→Act→World→Prop) (r:Rest) (a:Act) (w:World):Prop:=wpQ P all (LetsOut Q) (wpA P all r.M Q r.k r.dn) r.q a w
def retR (P:Program) (Q:Exit→Act→World→Prop) (all:Array Oper) (rest:Rest) (dst:Option Tmp) (a:Act) (e:Ending) (w:World):Prop:=
 match e with
 | .returned v=>wpR P all Q rest (a.put dst v) w
 | .panicked _=>False
 | .outgrown=>LetsOut Q
def kpost (E:Env) (β:Nat→Bk) (p:Prm) (Q:Exit→Act→World→Prop):List KF→Exit→Act→World→Prop
 |[]=>Q
 | .seq c::k=>Exit.then (c.wp p.P (kpost E β p Q k)) (kpost E β p Q k)
 | .blk id::k=>Exit.inBlock id (kpost E β p Q k)
 | .loop c::k=>Exit.then (LoopC p.P c (kpost E β p Q k)) (kpost E β p Q k)
 | .ret f dst tmps ds all rest _::k=>
   match p.P.funcs[f]? with
   |some fn=>bodyPostD p.P fn (retR p.P (kpost E β p Q k) all rest dst (actS E β tmps ds))
   |none=>fun _ _ _=>False
def Cf.wp (E:Env) (β:Nat→Bk) (p:Prm) (Q:Exit→Act→World→Prop) (c:Cf) (w:World):Prop:=
 match c.fo with
 | .code x=>x.wp p.P (kpost E β p Q c.k) (actS E β c.tmps c.ds) w
 | .ops all rest=>wpR p.P all (kpost E β p Q c.k) rest (actS E β c.tmps c.ds) w
 | .exit e=>kpost E β p Q c.k e.den (actS E β c.tmps c.ds) w
def dsBnd (n:Nat):List SD→Bool
 |[]=>true
 |d::r=>d.bnd n&&dsBnd n r
def KF.bnd (n:Nat):KF→Bool
 | .ret _ _ tmps ds _ _ _=>tmps.bnd n&&dsBnd n ds
 |_=>true
def kBnd (n:Nat):List KF→Bool
 |[]=>true
 |f::r=>f.bnd n&&kBnd n r
theorem actS_agree {β β':Nat→Bk} {n:Nat} (h: ∀i,i<n→β' i=β i) {tmps:Tm} {ds:List SD} (ht:tmps.bnd n=true) (hd:dsBnd n ds=true):actS E β' tmps ds=actS E β tmps ds:=by
 unfold actS actD
 rw [Tm.den_agree h ht]
 have:ds.map (SD.den E β')=ds.map (SD.den E β):=by
  induction ds with
  |nil=>rfl
  |cons d r ih=>
   simp only [dsBnd,Bool.and_eq_true] at hd
   simp only [List.map_cons,SD.agree h d hd.1,ih hd.2]
 rw [this]
theorem kpost_agree {β β':Nat→Bk} {n:Nat} (h: ∀i,i<n→β' i=β i): ∀{k:List KF},kBnd n k=true→kpost E β' p Q k=kpost E β p Q k
 |[],_=>rfl
 | .seq c::k,hk=>by simp only [kBnd,Bool.and_eq_true] at hk;simp only [kpost,kpost_agree h hk.2]
 | .blk id::k,hk=>by simp only [kBnd,Bool.and_eq_true] at hk;simp only [kpost,kpost_agree h hk.2]
 | .loop c::k,hk=>by simp only [kBnd,Bool.and_eq_true] at hk;simp only [kpost,kpost_agree h hk.2]
 | .ret f dst tmps ds all rest fid::k,hk=>by
   simp only [kBnd,KF.bnd,Bool.and_eq_true] at hk
   simp only [kpost,kpost_agree h hk.2,actS_agree h hk.1.1 hk.1.2]
def SD.vb (n:Nat) (d:SD):Bool:=SV.vbL n d.cap&&SV.vbL n d.args
def dsVb (n:Nat):List SD→Bool
 |[]=>true
 |d::r=>d.vb n&&dsVb n r
def KF.vb (n:Nat):KF→Bool
 | .ret _ _ tmps ds _ _ _=>tmps.vb n&&dsVb n ds
 |_=>true
def kVb (n:Nat):List KF→Bool
 |[]=>true
 |f::r=>f.vb n&&kVb n r
theorem actS_ag {E':Env} {n:Nat} (H:AgE n E E') {tmps:Tm} {ds:List SD} (ht:tmps.vb n=true) (hd:dsVb n ds=true):actS E' β tmps ds=actS E β tmps ds:=by
 unfold actS actD
 rw [Tm.den_ag H ht]
 have:ds.map (SD.den E' β)=ds.map (SD.den E β):=by
  induction ds with
  |nil=>rfl
  |cons d r ih=>
   simp only [dsVb,SD.vb,Bool.and_eq_true] at hd
   simp only [List.map_cons,SD.den,SV.denL_ag H β _ hd.1.1,SV.denL_ag H β _ hd.1.2,ih hd.2]
 rw [this]
theorem kpost_ag {E':Env} {n:Nat} (H:AgE n E E'): ∀{k:List KF},kVb n k=true→kpost E' β p Q k=kpost E β p Q k
 |[],_=>rfl
 | .seq c::k,hk=>by simp only [kVb,Bool.and_eq_true] at hk;simp only [kpost,kpost_ag H hk.2]
 | .blk id::k,hk=>by simp only [kVb,Bool.and_eq_true] at hk;simp only [kpost,kpost_ag H hk.2]
 | .loop c::k,hk=>by simp only [kVb,Bool.and_eq_true] at hk;simp only [kpost,kpost_ag H hk.2]
 | .ret f dst tmps ds all rest fid::k,hk=>by
   simp only [kVb,KF.vb,Bool.and_eq_true] at hk
   simp only [kpost,kpost_ag H hk.2,actS_ag H hk.1.1 hk.1.2]
inductive Stp where
 |next (c:Cf)
 |fork (b:SB)
 |alts (l:List Fo)
 |dead
 |stop
def putS (tmps:Tm) (dst:Option Tmp) (v:SV):Tm:=
 match dst with
 |some d=>tmps.put d v
 |none=>tmps
theorem putS_ok (tmps:Tm) (ds:List SD) (dst:Option Tmp) (v:SV):actS E β (putS tmps dst v) ds=(actS E β tmps ds).put dst (v.den E β):=by
 cases dst with
 |none=>rfl
 |some d=>simp [actS,actD,putS,Act.put,Tm.den_put]
inductive GR where
 |run
 |skip
 |fork (b:SB)
 |no
def guardS (F:Fx) (all:Array Oper) (tmps:Tm) (g:Option (Nat×Bool)):GR:=
 match g with
 |none=> .run
 |some (j,want)=>
  match (all[j]?).bind (·.dst) with
  |none=> .skip
  |some d=>match tmps.get? d with
   |none=> .skip
   |some (.bool s)=>match dec F s with
    |some b=>if b=want then .run else .skip
    |none=> .fork s
   |some (.opq _)=> .no
   |some (.q _ _)=> .no
   |some _=> .skip
theorem yielded_eq (all:Array Oper) (tmps:Tm) (ds:List SD) (j:Nat):yielded all (actS E β tmps ds).tmps j=
 match ((all[j]?).bind (·.dst)).bind (tmps.get? ·) with
 |some v=>match v.den E β with
  | .bool b=>some b
  |_=>none
 |none=>none:=by
 unfold yielded actS actD
 simp only
 cases (all[j]?).bind (·.dst) with
 |none=>rfl
 |some d=>
  simp only [Option.bind_some]
  rw [Tm.den_get?]
  cases tmps.get? d with
  |none=>rfl
  |some v=>simp only [Option.map_some];cases v.den E β<;>rfl
theorem guardS_run {F:Fx} (hF:Facts E F) {all:Array Oper} {tmps:Tm} {ds:List SD} {o:Oper} (h:guardS F all tmps o.guard= .run):Region.wanted o (yielded all (actS E β tmps ds).tmps)=true:=by
 unfold guardS at h
 unfold Region.wanted
 split at h
 ·rename_i hg;simp [hg]
 ·rename_i j want hg
  simp only [hg]
  rw [yielded_eq]
  split at h
  ·cases h
  ·rename_i d hd
   simp only [hd,Option.bind_some]
   split at h
   ·cases h
   ·rename_i s hs
    simp only [hs,SV.den]
    split at h
    ·rename_i b hb
     split at h
     ·rename_i hbw;rw [dec_ok hF hb,hbw];simp
     ·cases h
    ·cases h
   all_goals cases h
theorem guardS_skip {F:Fx} (hF:Facts E F) {all:Array Oper} {tmps:Tm} {ds:List SD} {o:Oper} (h:guardS F all tmps o.guard= .skip):Region.wanted o (yielded all (actS E β tmps ds).tmps)=false:=by
 unfold guardS at h
 unfold Region.wanted
 split at h
 ·cases h
 ·rename_i j want hg
  simp only [hg]
  rw [yielded_eq]
  split at h
  ·rename_i hd;simp [hd]
  ·rename_i d hd
   simp only [hd,Option.bind_some]
   split at h
   ·rename_i hs;simp [hs]
   ·rename_i s hs
    simp only [hs,SV.den]
    split at h
    ·rename_i b hb
     split at h
     ·cases h
     ·rename_i hbw;rw [dec_ok hF hb];simpa using hbw
    ·cases h
   ·cases h
   ·cases h
   ·rename_i v h1 h2 h3 hs
    simp only [hs]
    cases v<;>simp [SV.den] at h1 h2 h3⊢
    case own b=>cases hz:(β b).z<;>simp [Bk.v,hz]
    case pa e o=>by_cases h:0≤e.den E<;>simp [h]
    case sa e o l c=>by_cases h:0≤e.den E<;>simp [h]
def firstRegion:Code→Option Nat
 | .region id _ _=>some id
 | .seq a b=>match firstRegion a with
   |some i=>some i
   |none=>firstRegion b
 | .cond _ a b=>match firstRegion a with
   |some i=>some i
   |none=>firstRegion b
 | .block _ b=>firstRegion b
 | .loop b=>firstRegion b
 | .scope b=>firstRegion b
 |_=>none
def stopsAt (p:Prm) (f:FuncId) (b:Code):Bool:=
 match firstRegion b with
 |some i=>p.sl.contains (f,i)
 |none=>true
def readOp (P:Program) (gm:Gm) (F:Fx) (h:List SBlk) (tmps:Tm) (op:Op):RP:=
 match op with
 | .load T a=>bind1 (ev gm tmps a) (sLoad P F h T)
 |op=>match sOwn P gm F h tmps op with
  | .no=>pureOp P gm F h tmps op
  |r=>r
def xOk (c:Cf) (nx:Nat) (S:Sub) (pat:List SBlk) (a:Alt):Bool:=
 Nat.beq nx 0||(Nat.ble (xb+nx) c.nv&&S.vb c.nv&&c.heap.all (SBlk.vb c.nv)&&pat.all (SBlk.vb xb)&&a.post.all (SBlk.vb c.nv)&&a.res.vb c.nv&&a.xf.all (fun q=>q.1.vb c.nv)&&a.facts.all (fun q=>q.1.vb xb)&&
  c.facts.all (fun q=>q.1.vb c.nv)&&c.tmps.vb c.nv&&dsVb c.nv c.ds&&kVb c.nv c.k)
def ctNext (p:Prm) (c:Cf) (ct:Ct) (S:Sub) (a:Alt) (dst:Option Tmp) (all:Array Oper) (rest:Rest):Stp:=
 let S':=(S.news ct.heap.length c.heap.length (a.post.length - ct.heap.length)).fresh c.nv ct.nx
 if chkPost S S' c.heap ct.heap a.post&&a.res.okS S'&&c.heap.all (SBlk.bnd c.heap.length)&&c.tmps.bnd c.heap.length&&dsBnd c.heap.length c.ds&&kBnd c.heap.length c.k&&xOk c ct.nx S ct.heap a then
  .next { c with heap:=newHeap S S' c.heap ct.heap a.post,tmps:=putS c.tmps dst (a.res.inst S'),facts:=factsI S' a.xf++(factsI S' a.facts++c.facts),fo:= .ops all rest,nv:=c.nv+ct.nx }
 else .stop
def ctStep (p:Prm) (c:Cf) (ct:Ct) (args:List SV) (dst:Option Tmp) (all:Array Oper) (rest:Rest):Stp:=
 let S:=mCall p.gm ct args c.heap
 if chkCall p.gm c.facts ct args c.heap S then
  match ctSel c.facts S ct.alts ct.pre with
  | .ok a=>ctNext p c ct S a dst all rest
  | .fork b=> .fork b
  | .dead=> .dead
  | .no=> .stop
 else .stop
def btStep (p:Prm) (c:Cf) (all:Array Oper) (o:Oper) (rest:Rest):List Bt→Option Stp
 |[]=>none
 |b::r=>match b.sel o.op with
  |some xs=>match evL p.gm c.tmps xs with
   |some args=>
    let S:=mCall p.gm b.ct args c.heap
    if chkCall p.gm c.facts b.ct args c.heap S then
     match ctSel c.facts S b.ct.alts b.ct.pre with
     | .ok a=>some (ctNext p c b.ct S a o.dst all rest)
     | .fork b=>some (.fork b)
     | .dead=>some .dead
     | .no=>btStep p c all o rest r
    else btStep p c all o rest r
   |none=>btStep p c all o rest r
  |none=>btStep p c all o rest r
def btRead (p:Prm) (F:Fx) (h:List SBlk) (t:Tm) (op:Op):List Bt→RP
 |[]=> .no
 |b::r=>if b.rd&&Nat.beq b.ct.nx 0 then
   match b.sel op with
   |some xs=>match evL p.gm t xs with
    |some args=>
     let S:=mCall p.gm b.ct args h
     if chkCall p.gm F b.ct args h S then
      match ctSel F S b.ct.alts b.ct.pre with
      | .ok a=>if a.res.okS S&&a.res.bnd b.ct.heap.length then .val (a.res.inst S) else .no
      | .fork b=> .fork b
      | .dead=> .dead
      | .no=>btRead p F h t op r
     else btRead p F h t op r
    |none=>btRead p F h t op r
   |none=>btRead p F h t op r
  else btRead p F h t op r
def hintGo (F:Fx):Fx→Option Stp
 |[]=>none
 |(b,t)::r=>match dec F b with
  |some u=>if u=t then hintGo F r else some .dead
  |none=>some (.fork b)
def hintOf (f id:Nat):List (Nat×Nat×Fx)→Fx
 |[]=>[]
 |(g,i,F)::r=>if g=f∧i=id then F else hintOf f id r
def partGo (F:Fx):List SB→Option Stp
 |[]=>none
 |b::r=>match dec F b with
  |some _=>partGo F r
  |none=>some (.fork b)
def partOf (f id:Nat):List (Nat×Nat×List SB)→List SB
 |[]=>[]
 |(g,i,l)::r=>if g=f∧i=id then l else partOf f id r
def hintS (p:Prm) (c:Cf) (x:Code):Option Stp:=
 match x with
 | .region id _ _=>match hintGo c.facts (hintOf c.fid id p.hint) with
   |some s=>some s
   |none=>partGo c.facts (partOf c.fid id p.part)
 |_=>none
def stepCode (p:Prm) (c:Cf) (x:Code):Stp:=
 match x with
 | .skip=> .next { c with fo:= .exit .normal }
 | .seq a b=> .next { c with fo:= .code a,k:= .seq b::c.k }
 | .cond s a b=>match ev p.gm c.tmps s with
   |some (.bool t)=>match dec c.facts t with
    |some true=> .next { c with fo:= .code a }
    |some false=> .next { c with fo:= .code b }
    |none=> .fork t
   |_=> .stop
 | .block id b=> .next { c with fo:= .code b,k:= .blk id::c.k }
 | .loop b=>if stopsAt p c.fid b then .stop else .next { c with fo:= .code b,k:= .loop b::c.k }
 | .exit id=> .next { c with fo:= .exit (.ex id) }
 | .ret=> .next { c with fo:= .exit .ret }
 | .region _ ops false=> .next { c with fo:= .ops ops { q:=ops.toList.map fun o=>(0,o) } }
 | .region _ ops true=>
   let M:=allMasks ops
   if planOk ops M then .next { c with fo:= .ops ops { q:=itemsAt ops 1 (ableM ops M []),k:=ops.size,dn:=[],M:=M } } else .stop
 |_=> .stop
def sAppA (P:Program) (gm:Gm) (F:Fx) (h:List SBlk) (tmps:Tm) (op:Op):AR:=
 match sAppend P gm F h tmps op with
 | .no=>sAppend2 P gm F h tmps op
 |r=>r
def rowOf (p:Prm) (tmps:Tm) (op:Op):Option (List SV×List SK×TypeId):=
 match rowOp p.P p.gm tmps op with
 |some x=>bif p.recs&&x.2.1.contains .opq then none else some x
 |none=>none
theorem rowOf_ok {p:Prm} {tmps:Tm} {op:Op} {x:List SV×List SK×TypeId} (h:rowOf p tmps op=some x):rowOp p.P p.gm tmps op=some x:=by
 unfold rowOf at h
 split at h
 ·rename_i y hy
  cases hb:(p.recs&&y.2.1.contains .opq) with
  |true=>rw [hb] at h;cases h
  |false=>rw [hb] at h;rw [hy];exact h
 ·cases h
def stepRest (p:Prm) (c:Cf) (all:Array Oper) (o:Oper) (rest:Rest):Stp:=
 match o.op with
 | .store T a x=>match ev p.gm c.tmps a,ev p.gm c.tmps x with
   |some a,some x=>match sStore p.P c.heap T a x with
    |some h'=> .next { c with heap:=h',tmps:=putS c.tmps o.dst (.tup []),fo:= .ops all rest }
    |none=>match sStore2 p.P c.facts c.heap T a x with
     |some h'=> .next { c with heap:=h',tmps:=putS c.tmps o.dst (.tup []),fo:= .ops all rest }
     |none=>match sStore3 p.P c.facts c.heap T a x with
      |some h'=> .next { c with heap:=h',tmps:=putS c.tmps o.dst (.tup []),fo:= .ops all rest }
      |none=> .stop
   |_,_=> .stop
 | .call cl=>match sCall p c.tmps cl with
   |some (g,args)=>if p.sc.contains g then .stop else match ctSelect (fun s=>chkCall p.gm c.facts s args c.heap (mCall p.gm s args c.heap)) g p.ct with
    |some ct=>ctStep p c ct args o.dst all rest
    |none=>match p.P.funcs[g]? with
     |some fn=>match fn.body with
      |some b=> .next { c with tmps:=Tm.entry args fn.ntmps,ds:=[],fo:= .code b,k:= .ret g o.dst c.tmps c.ds all rest c.fid::c.k,fid:=g }
      |none=> .stop
     |none=> .stop
   |none=>match sAppA p.P p.gm c.facts c.heap c.tmps (.call cl) with
    | .ok h' v=>if c.tmps.bnd c.heap.length&&dsBnd c.heap.length c.ds&&kBnd c.heap.length c.k then
       .next { c with heap:=h',tmps:=putS c.tmps o.dst v,fo:= .ops all rest }
      else .stop
    | .fork b=> .fork b
    | .dead=> .dead
    | .no=>match sCopy p.P p.gm c.facts c.heap c.tmps (.call cl) with
      | .ok h' v=> .next { c with heap:=h',tmps:=putS c.tmps o.dst v,fo:= .ops all rest }
      |_=> .stop
 | .defer cl=>match sDefer p c.tmps cl with
   |some d=> .next { c with ds:=d::c.ds,tmps:=putS c.tmps o.dst (.tup []),fo:= .ops all rest }
   |none=> .stop
 | .panic _=> .dead
 |op=>match rowOf p c.tmps op with
  |some (l,ks,S)=>
   if c.heap.all (SBlk.bnd c.heap.length)&&SV.bndL c.heap.length l&&c.tmps.bnd c.heap.length&&dsBnd c.heap.length c.ds&&kBnd c.heap.length c.k then
    .next { c with heap:=c.heap++[.row (.v 0) ks (.c 0) l S],tmps:=putS c.tmps o.dst (.own c.heap.length),fo:= .ops all rest }
   else .stop
  |none=>match newOp p.P p.gm c.heap.length c.tmps op with
  |some (l,S,v)=>
   if c.heap.all (SBlk.bnd c.heap.length)&&SV.bndL c.heap.length l&&c.tmps.bnd c.heap.length&&dsBnd c.heap.length c.ds&&kBnd c.heap.length c.k then
    .next { c with heap:=c.heap++[.cells l S],tmps:=putS c.tmps o.dst v,fo:= .ops all rest }
   else .stop
  |none=> .stop
def stepOps (p:Prm) (c:Cf) (all:Array Oper) (o:Oper) (rest:Rest):Stp:=
 match guardS c.facts all c.tmps o.guard with
 | .run=>match readOp p.P p.gm c.facts c.heap c.tmps o.op with
   | .val v=> .next { c with tmps:=putS c.tmps o.dst v,fo:= .ops all rest }
   | .fork b=> .fork b
   | .dead=> .dead
   | .no=>match btStep p c all o rest p.bt with
     |some s=>s
     |none=>stepRest p c all o rest
 | .skip=> .next { c with tmps:=putS c.tmps o.dst (.tup []),fo:= .ops all rest }
 | .fork b=> .fork b
 | .no=> .stop
def softV (p:Prm) (c:Cf) (all:Array Oper) (o:Oper):RP:=
 match guardS c.facts all c.tmps o.guard with
 | .run=>match readOp p.P p.gm c.facts c.heap c.tmps o.op with
   | .no=>btRead p c.facts c.heap c.tmps o.op p.bt
   |r=>r
 | .skip=> .val (.tup [])
 | .fork b=> .fork b
 | .no=> .no
def sameS (tmps:Tm) (dst:Option Tmp) (v:SV):Bool:=
 match dst with
 |none=>true
 |some d=>match tmps.get? d with
  |some u=>SV.same v u
  |none=>false
def stepSoft (p:Prm) (c:Cf) (all:Array Oper) (o:Oper) (rest:Rest):Stp:=
 match softV p c all o with
 | .val v=> .next { c with tmps:=putS c.tmps o.dst v,fo:= .ops all rest }
 | .fork b=> .fork b
 | .dead=> .dead
 | .no=> .stop
def stepAgain (p:Prm) (c:Cf) (all:Array Oper) (o:Oper) (rest:Rest):Stp:=
 match softV p c all o with
 | .val v=>if sameS c.tmps o.dst v then .next { c with fo:= .ops all rest } else .stop
 | .fork b=> .fork b
 | .dead=> .dead
 | .no=> .stop
def hardS (all:Array Oper) (M:List Nat) (k:Nat) (dn:List Nat) (h:Nat):Fo:=
 match all[h]? with
 |some o=> .ops all { q:=(0,o)::behindM all M dn h,k:=k,dn:=h::dn,M:=M }
 |none=> .exit .normal
def stepPlan (c:Cf) (all:Array Oper) (M:List Nat) (k:Nat) (dn:List Nat):Stp:=
 match candsM all M dn with
 |[]=> .next { c with fo:= .exit .normal }
 |[h]=> .next { c with fo:=hardS all M k dn h }
 |l=> .alts (l.map (hardS all M k dn))
def stepExit (p:Prm) (c:Cf) (e:SX):Stp:=
 match c.k with
 |[]=> .stop
 | .seq b::k=>match e with
   | .normal=> .next { c with fo:= .code b,k:=k }
   |e=> .next { c with fo:= .exit e,k:=k }
 | .blk id::k=>match e with
   | .ex j=>if j=id then .next { c with fo:= .exit .normal,k:=k } else .next { c with fo:= .exit (.ex j),k:=k }
   |e=> .next { c with fo:= .exit e,k:=k }
 | .loop b::k=>match e with
   | .normal=>if stopsAt p c.fid b then .stop else .next { c with fo:= .code b }
   |e=> .next { c with fo:= .exit e,k:=k }
 | .ret f dst tmps ds all rest fid::k=>match e with
   | .ex _=> .stop
   |_=>if c.ds.all (SD.fine p) then
     match p.P.funcs[f]? with
     |some fn=>match sRes p.P c.facts c.heap c.tmps fn.results.toList with
      |some v=> .next { c with tmps:=putS tmps dst v,ds:=ds,fo:= .ops all rest,k:=k,fid:=fid }
      |none=> .stop
     |none=> .stop
    else .stop
def step (p:Prm) (c:Cf):Stp:=
 match c.fo with
 | .code x=>match hintS p c x with
   |some s=>s
   |none=>stepCode p c x
 | .ops all ⟨[],0,_,_⟩=> .next { c with fo:= .exit .normal }
 | .ops all ⟨[],k+1,dn,M⟩=>stepPlan c all M k dn
 | .ops all ⟨(0,o)::q,k,dn,M⟩=>stepOps p c all o ⟨q,k,dn,M⟩
 | .ops all ⟨(1,o)::q,k,dn,M⟩=>stepSoft p c all o ⟨q,k,dn,M⟩
 | .ops all ⟨(_+2,o)::q,k,dn,M⟩=>stepAgain p c all o ⟨q,k,dn,M⟩
 | .exit e=>stepExit p c e
def strip:SB→SB
 | .not x=>x
 |b=>b
def run (p:Prm):Nat→Cf→List (Bool×Cf)
 |0,c=>[(false,c)]
 |n+1,c=>match step p c with
  | .next c'=>bif Nat.ble c.nv c'.nv then run p n c' else [(false,c)]
  | .fork b=>run p n { c with facts:=(strip b,true)::c.facts }++run p n { c with facts:=(strip b,false)::c.facts }
  | .alts l=>l.flatMap fun fo=>run p n { c with fo:=fo }
  | .dead=>[(true,c)]
  | .stop=>[(false,c)]
def Sound (E:Env) (β:Nat→Bk) (p:Prm) (Q:Exit→Act→World→Prop) (c:Cf) (w:World) (c':Cf):Prop:=
 (∀β' w',Ext E c.heap β w E c'.heap β' w'→HOk E β' c'.heap w'→c'.wp E β' p Q w')→c.wp E β p Q w
def RelE (p:Prm) (nv:Nat) (E:Env) (nv':Nat) (E':Env):Prop:=AgE nv E E'∧nv≤nv'∧(nv'=nv∨p.nox=true→E'=E)
theorem RelE.refl (p:Prm) (nv:Nat) (E:Env):RelE p nv E nv E:=⟨AgE.refl _ _,Nat.le_refl _,fun _=>rfl⟩
theorem RelE.same {p:Prm} {n m:Nat} (h:n≤m) (E:Env):RelE p n E m E:=⟨AgE.refl _ _,h,fun _=>rfl⟩
theorem RelE.trans {p:Prm} {n1 n2 n3:Nat} {E1 E2 E3:Env} (a:RelE p n1 E1 n2 E2) (b:RelE p n2 E2 n3 E3):RelE p n1 E1 n3 E3:=by
 refine ⟨AgE.trans a.2.1 a.1 b.1,Nat.le_trans a.2.1 b.2.1,fun h=>?_⟩
 have ha:=a.2.1
 have hb:=b.2.1
 rcases h with h|h
 ·rw [b.2.2 (.inl (by omega)),a.2.2 (.inl (by omega))]
 ·rw [b.2.2 (.inr h),a.2.2 (.inr h)]
def SoundE (E:Env) (β:Nat→Bk) (p:Prm) (Q:Exit→Act→World→Prop) (c:Cf) (w:World) (c':Cf):Prop:=
 (∀E' β' w',RelE p c.nv E c'.nv E'→Ext E c.heap β w E' c'.heap β' w'→HOk E' β' c'.heap w'→Facts E' c'.facts→c'.wp E' β' p Q w')→c.wp E β p Q w
theorem SoundE.of {c c':Cf} (hn:c.nv≤c'.nv) (h:Sound E β p Q c w c'∧Facts E c'.facts):SoundE E β p Q c w c':=
 fun H=>h.1 fun β' w' x hw=>H E β' w' (RelE.same hn E) x hw h.2
end Go.Sy
end
section
set_option autoImplicit true
set_option relaxedAutoImplicit true
set_option linter.unusedVariables false
set_option linter.unusedSimpArgs false
namespace Go.Sy
open Go Go.RowKit
variable {E:Env} {β:Nat→Bk} {p:Prm} {w:World} {Q:Exit→Act→World→Prop}
theorem readOp_ok (hg:p.gm.ok β) {F:Fx} (hF:Facts E F) {h:List SBlk} (hw:HOk E β h w) {tmps:Tm} {ds:List Deferred} {o:Oper} {v:SV}
 (hr:readOp p.P p.gm F h tmps o.op= .val v):(execOp (actD E β tmps ds).eval o).run p.P w= .ok (.value (v.den E β)) w:=by
 unfold readOp at hr
 split at hr
 ·rename_i T a ho
  obtain ⟨u,hu,hr⟩:=bind1_val hr
  simp only [execOp,ho,ev_ok hg hu]
  exact val_run (sLoad_ok hF hw hr)
 ·split at hr
  ·exact pure_ok hg hF hw hr
  ·exact sOwn_ok hg hF hw hr
theorem put_undef (tmps:Tm) (ds:List SD) (dst:Option Tmp):actS E β (putS tmps dst (.tup [])) ds=(actS E β tmps ds).put dst undef:=by
 rw [putS_ok];simp [SV.den,SV.denL,undef]
theorem wpN_value {P:Program} {all:Array Oper} {o:Oper} {rest:Rest} {a:Act} {v:Value} {w':World} (hwt:Region.wanted o (yielded all a.tmps)=true)
 (hx:(execOp a.eval o).run P w= .ok (.value v) w') (h:wpR P all Q rest (a.put o.dst v) w'):wpR P all Q { rest with q:=(0,o)::rest.q } a w:=by
 unfold wpR at*
 simp only [wpQ,hwt,if_true]
 unfold opN
 rw [hx]
 exact h
theorem wpN_sk {P:Program} {all:Array Oper} {o:Oper} {rest:Rest} {a:Act} {w':World} (hwt:Region.wanted o (yielded all a.tmps)=true)
 (hx:(execOp a.eval o).run P w= .ok .skip w') (h:wpR P all Q rest (a.put o.dst undef) w'):wpR P all Q { rest with q:=(0,o)::rest.q } a w:=by
 unfold wpR at*
 simp only [wpQ,hwt,if_true]
 unfold opN
 rw [hx]
 exact h
theorem benign_leaves (hp:PrmOk E p) {fn:Func} {tmps:Array Value} {R:Ending→World→Prop}: ∀{ds:List SD},ds.all (SD.fine p)=true→
 (∃v,(results fn tmps).run p.P w= .ok v w∧R (.returned v) w)→Leaves p.P fn tmps R (ds.map (SD.den E β)) .returning w
 |[],_,h=>h
 |d::ds,hd,h=>by
  simp only [List.all_cons,Bool.and_eq_true,SD.fine,decide_eq_true_eq,beq_iff_eq] at hd
  obtain ⟨⟨hin,hlen⟩,hr⟩:=hd
  obtain ⟨v,hv⟩: ∃v,d.args++d.cap=[v]:=by
   have:(d.args++d.cap).length=1:=by simp [hlen]
   match d.args++d.cap,this with
   |[v],_=>exact ⟨v,rfl⟩
  have hargs:(SV.denL E β d.args).toArray++(SV.denL E β d.cap).toArray= #[v.den E β]:=by
   have:=congrArg (SV.denL E β) hv
   rw [SV.denL_map,List.map_append] at this
   rw [SV.denL_map,SV.denL_map]
   simp [SV.denL] at this
   simp [this]
  refine ⟨by simp,.func d.fn,_,d.fn,#[v.den E β],rfl,?_,?_⟩
  ·simp only [SD.den,invoke]
   rw [hargs,hp.okf _ (hp.dfk _ hin)]
  ·obtain hh:=hp.dfr _ hin (v.den E β) w
   intro c cs hc
   obtain ⟨e,u',w',fr,⟨⟨x,hx⟩,hu,hww⟩,rest⟩:=hh c cs hc
   refine ⟨e,u',w',fr,?_,rest⟩
   rw [hx,hu,hww]
   show Leaves p.P fn tmps R (ds.map (SD.den E β)) (settle .returning) w
   exact benign_leaves hp hr h
theorem hok_below {h:List SBlk} (hw:HOk E β h w) {w':World} (b:Below w.heap.size w w'):HOk E β h w'∧Ext E h β w E h β w':=
 ⟨⟨hw.dis,fun i s x hi hr=>Nat.lt_of_lt_of_le (hw.lt i s x hi hr) b.size,fun i s hs=>SBlk.ok_frame (fun x hr=>b.block _ (hw.lt i s x hs hr)) (hw.ok i s hs)⟩,
  ⟨Nat.le_refl _,fun _ _=>rfl,fun _ s _ h k=>⟨s,h,k⟩,fun i s x h1 h2=> .inr ⟨i,s,h1,h2,.inr rfl⟩,b.size,fun c hc _=>b.block c hc,b.os,b.tape,b.output⟩⟩
def LeafOk (E:Env) (p:Prm) (Q:Exit→Act→World→Prop) (nv:Nat) (h:List SBlk) (β:Nat→Bk) (w:World) (l:Bool×Cf):Prop:=
 ∀E',RelE p nv E l.2.nv E'→Facts E' l.2.facts→(l.1=false∧ ∀β' w',Ext E h β w E' l.2.heap β' w'→HOk E' β' l.2.heap w'→l.2.wp E' β' p Q w')
theorem btRead_ok (hp:PrmOk E p) (hg:p.gm.ok β) {F:Fx} (hF:Facts E F) {h:List SBlk} (hw:HOk E β h w) {t:Tm} {ds:List Deferred} {o:Oper} {v:SV}: ∀{bs:List Bt},(∀b∈bs,b∈p.bt)→btRead p F h t o.op bs= .val v→
 (execOp (actD E β t ds).eval o).run p.P w= .ok (.value (v.den E β)) w
 |[],_,h=>by simp [btRead] at h
 |b::r,hb,h=>by
  have next:btRead p F _ t o.op r= .val v→(execOp (actD E β t ds).eval o).run p.P w= .ok (.value (v.den E β)) w:=fun h=>btRead_ok (bs:=r) hp hg hF hw (fun b' hb'=>hb b' (by simp [hb'])) h
  simp only [btRead] at h
  split at h
  ·rename_i hrd
   simp only [Bool.and_eq_true] at hrd
   have hnx:b.ct.nx=0:=Nat.eq_of_beq_eq_true hrd.2
   split at h
   ·rename_i xs hsel
    split at h
    ·rename_i args hargs
     try simp only at h
     generalize mCall p.gm b.ct args _=S at h
     split at h
     ·rename_i hc
      split at h
      ·rename_i a ha
       split at h
       ·rename_i hb2
        cases h
        simp only [Bool.and_eq_true] at hb2
        obtain ⟨_,v',w',h1,h2,β0,V,h3,h4,h5,_⟩:=chkBt_ok hp hg hF hw (hb b (by simp)) hc ha hsel (evL_ok (ds:=ds) hg hargs)
        obtain rfl:=h2 hrd.1
        rw [hnx,Env.upd_zero] at h3 h5
        have hv:(a.res.inst S).den E β=v':=by
         rw [h3,SV.inst_ok (E:=E) (bsub_map (E:=E) (β:=β) (h:=_) (S:=S)) a.res hb2.1,SV.den_agree (fun i hi=>h5.agree i hi) a.res hb2.2]
        rw [hv]
        rcases h1 with h1|⟨h1,_⟩
        ·exact h1
        ·rw [hrd.1] at h1;cases h1
       ·cases h
      ·cases h
      ·cases h
      ·exact next h
     ·exact next h
    ·exact next h
   ·exact next h
  ·exact next h
theorem hok_nil:HOk E β [] w:=⟨fun i j s t x h=>by simp at h,fun i s x h=>by simp at h,fun i s h=>by simp at h⟩
theorem stepCode_ok (hp:PrmOk E p) (hg:p.gm.ok β) {c c':Cf} {x:Code} (hb: ∀q∈p.gm,q.2<c.heap.length) (hF:Facts E c.facts) (hw:HOk E β c.heap w) (hx:c.fo= .code x) (h:stepCode p c x= .next c'):Sound E β p Q c w c'∧Facts E c'.facts:=by
 unfold Sound
 unfold stepCode at h
 split at h
 ·cases h
  refine ⟨fun H=>?_,hF⟩
  have:=H β w (Ext.refl _ _ _ _) hw
  simp only [Cf.wp,hx] at this⊢
  exact wp_skip this
 ·cases h
  refine ⟨fun H=>?_,hF⟩
  have:=H β w (Ext.refl _ _ _ _) hw
  simp only [Cf.wp,hx,kpost] at this⊢
  exact wp_seq this
 ·rename_i s a b
  split at h
  ·rename_i t ht
   have he:=ev_ok (E:=E) (ds:=c.ds.map (SD.den E β)) hg ht
   split at h
   ·rename_i hd
    cases h
    refine ⟨fun H=>?_,hF⟩
    have:=H β w (Ext.refl _ _ _ _) hw
    simp only [Cf.wp,hx] at this⊢
    refine wp_cond_true ?_ this
    show (actD E β c.tmps _).eval s=_
    rw [he,SV.den,dec_ok hF hd]
   ·rename_i hd
    cases h
    refine ⟨fun H=>?_,hF⟩
    have:=H β w (Ext.refl _ _ _ _) hw
    simp only [Cf.wp,hx] at this⊢
    refine wp_cond_false ?_ this
    show (actD E β c.tmps _).eval s=_
    rw [he,SV.den,dec_ok hF hd]
   ·cases h
  ·cases h
 ·cases h
  refine ⟨fun H=>?_,hF⟩
  have:=H β w (Ext.refl _ _ _ _) hw
  simp only [Cf.wp,hx,kpost] at this⊢
  exact wp_block this
 ·split at h
  ·cases h
  ·cases h
   refine ⟨fun H=>?_,hF⟩
   have:=H β w (Ext.refl _ _ _ _) hw
   simp only [Cf.wp,hx,kpost] at this⊢
   exact loop_of this
 ·cases h
  refine ⟨fun H=>?_,hF⟩
  have:=H β w (Ext.refl _ _ _ _) hw
  simp only [Cf.wp,hx] at this⊢
  exact wp_exit this
 ·cases h
  refine ⟨fun H=>?_,hF⟩
  have:=H β w (Ext.refl _ _ _ _) hw
  simp only [Cf.wp,hx] at this⊢
  exact wp_ret this
 ·cases h
  refine ⟨fun H=>?_,hF⟩
  have:=H β w (Ext.refl _ _ _ _) hw
  simp only [Cf.wp,hx] at this⊢
  exact wp_region_list (wpN_list (wpQ_zero this))
 ·rename_i id ops
  simp only at h
  split at h
  ·rename_i hc
   cases h
   refine ⟨fun H=>?_,hF⟩
   obtain ⟨k1,k2⟩:=hok_below (w':={ w with drawn:=w.drawn+1 }) hw ⟨rfl,rfl,rfl,Nat.le_refl _,fun _ _=>rfl⟩
   have:=H β _ k2 k1
   simp only [Cf.wp,hx] at this⊢
   exact wp_region_plan hp.mix hc this
  ·cases h
 ·cases h
theorem vbAll {h:List SBlk} {n:Nat} (hb:h.all (SBlk.vb n)=true) {i:Nat} {s:SBlk} (hs:h[i]?=some s):s.vb n=true:=List.all_eq_true.1 hb s (List.mem_of_getElem? hs)
theorem factsI_put {E':Env} {S:Sub} {G:Env} {F:Fx} (hG: ∀q∈F,q.1.den (E'.sub β S)=q.1.den G) (h:Facts G F):Facts E' (factsI S F):=
 factsI_ok (β:=β) fun q hq=>by rw [hG q hq];exact h q hq
theorem ctNext_ok {c c':Cf} {all:Array Oper} {o:Oper} {rest:Rest} {ct:Ct} {a:Alt} {S:Sub} (hF:Facts E c.facts) (hw:HOk E β c.heap w)
 (hch:chkHeap S c.facts ct.heap c.heap=true) (hf1:Facts (E.sub β S) a.facts) (h:ctNext p c ct S a o.dst all rest= .next c') (hnox:p.nox=true→ct.nx=0)
 {β0:Nat→Bk} {V:Env} {w':World} (h0:HOk ((E.sub β S).upd xb ct.nx V) β0 a.post w') (hx0:Ext (E.sub β S) ct.heap (bsub E β c.heap S) w ((E.sub β S).upd xb ct.nx V) a.post β0 w') (hxf:Facts ((E.sub β S).upd xb ct.nx V) a.xf):
 ∃E' β',RelE p c.nv E c'.nv E'∧Ext E c.heap β w E' c'.heap β' w'∧HOk E' β' c'.heap w'∧Facts E' c'.facts∧
  (c'.wp E' β' p Q w'→wpR p.P all (kpost E β p Q c.k) rest ((actS E β c.tmps c.ds).put o.dst (a.res.den ((E.sub β S).upd xb ct.nx V) β0)) w'):=by
 unfold ctNext at h
 simp only at h
 split at h
 ·rename_i hb
  cases h
  simp only [Bool.and_eq_true] at hb
  obtain ⟨⟨⟨⟨⟨⟨hb0,hb1⟩,hb2⟩,hb3⟩,hb4⟩,hb5⟩,hb6⟩:=hb
  have hobnd:S.o.all (fun p=>p.2.bnd c.heap.length)=true:=by
   unfold chkPost at hb0
   simp only [Bool.and_eq_true] at hb0
   exact hb0.1.1.2
  have hSt:S.t=none:=by
   unfold chkPost at hb0
   simp only [Bool.and_eq_true] at hb0
   simpa using hb0.1.2
  have hag: ∀i,i<c.heap.length→bcall β β0 ct.heap.length c.heap.length i=β i:=fun i hi=>by simp only [bcall,hi,if_true]
  obtain ⟨a1,a2,a3,a4,a5⟩:=news_io S ct.heap.length c.heap.length (a.post.length - ct.heap.length)
  generalize hS1:S.news ct.heap.length c.heap.length (a.post.length - ct.heap.length)=S1 at*
  have B:(∀(i:Nat) (s:SBlk),c.heap[i]?=some s→(∀γ bk w,SBlk.ok (E.upd c.nv ct.nx V) γ bk w s↔SBlk.ok E γ bk w s)∧ ∀bk x,s.at (E.upd c.nv ct.nx V) bk x↔s.at E bk x)∧
   (∀(i:Nat) (q:SBlk),ct.heap[i]?=some q→(∀γ bk w,SBlk.ok ((E.sub β S).upd xb ct.nx V) γ bk w q↔SBlk.ok (E.sub β S) γ bk w q)∧ ∀bk x,q.at ((E.sub β S).upd xb ct.nx V) bk x↔q.at (E.sub β S) bk x)∧
   (∀(i:Nat) (q:SBlk),a.post[i]?=some q→(∀γ bk w,SBlk.ok ((E.upd c.nv ct.nx V).sub (bcall β β0 ct.heap.length c.heap.length) (S1.fresh c.nv ct.nx)) γ bk w q↔SBlk.ok ((E.sub β S).upd xb ct.nx V) γ bk w q)∧
     ∀bk x,q.at ((E.upd c.nv ct.nx V).sub (bcall β β0 ct.heap.length c.heap.length) (S1.fresh c.nv ct.nx)) bk x↔q.at ((E.sub β S).upd xb ct.nx V) bk x)∧
   (a.res.den ((E.upd c.nv ct.nx V).sub (bcall β β0 ct.heap.length c.heap.length) (S1.fresh c.nv ct.nx)) β0=a.res.den ((E.sub β S).upd xb ct.nx V) β0)∧
   Facts (E.upd c.nv ct.nx V) (factsI (S1.fresh c.nv ct.nx) a.xf)∧Facts (E.upd c.nv ct.nx V) (factsI (S1.fresh c.nv ct.nx) a.facts)∧Facts (E.upd c.nv ct.nx V) c.facts∧
   actS (E.upd c.nv ct.nx V) β c.tmps c.ds=actS E β c.tmps c.ds∧kpost (E.upd c.nv ct.nx V) β p Q c.k=kpost E β p Q c.k:=by
   unfold xOk at hb6
   rw [Bool.or_eq_true] at hb6
   rcases hb6 with h6|h6
   ·have hnx:ct.nx=0:=Nat.eq_of_beq_eq_true h6
    rw [hnx,Env.upd_zero] at hxf
    have e1:E.upd c.nv ct.nx V=E:=by rw [hnx,Env.upd_zero]
    have e2:(E.sub β S).upd xb ct.nx V=E.sub β S:=by rw [hnx,Env.upd_zero]
    have e3:S1.fresh c.nv ct.nx=S1:=by rw [hnx];rfl
    rw [e1,e2,e3]
    have hsub:E.sub (bcall β β0 ct.heap.length c.heap.length) S1=E.sub β S:=sub_env a1 a2 a3 ⟨a4,a5⟩ hSt hag hobnd
    rw [hsub]
    refine ⟨fun _ _ _=>⟨fun _ _ _=>Iff.rfl,fun _ _=>Iff.rfl⟩,fun _ _ _=>⟨fun _ _ _=>Iff.rfl,fun _ _=>Iff.rfl⟩,fun _ _ _=>⟨fun _ _ _=>Iff.rfl,fun _ _=>Iff.rfl⟩,rfl,?_,?_,hF,rfl,rfl⟩
    ·exact factsI_put (β:=bcall β β0 ct.heap.length c.heap.length) (G:=E.sub β S) (fun q _=>by rw [hsub]) hxf
    ·exact factsI_put (β:=bcall β β0 ct.heap.length c.heap.length) (G:=E.sub β S) (fun q _=>by rw [hsub]) hf1
   ·simp only [Bool.and_eq_true] at h6
    obtain ⟨⟨⟨⟨⟨⟨⟨⟨⟨⟨⟨x1,x2⟩,x3⟩,x4⟩,x5⟩,x6⟩,x7⟩,x8⟩,x9⟩,x10⟩,x11⟩,x12⟩:=h6
    have x1:=Nat.le_of_ble_eq_true x1
    have hE:=Env.upd_ag E c.nv ct.nx V
    have hE2:=Env.upd_ag (E.sub β S) xb ct.nx V
    have hE3:=sub_fresh (E:=E) (β:=β) (S:=S) (S':=S1) (β':=bcall β β0 ct.heap.length c.heap.length) (n:=c.heap.length) (nv:=c.nv) (m:=ct.nx) (V:=V) ⟨a1,a2,a3,a4,a5⟩ hSt hag hobnd x2
    refine ⟨fun i s hs=>⟨fun γ bk w=>SBlk.ok_ag hE s (vbAll x3 hs) bk w,fun bk x=>SBlk.at_ag hE s (vbAll x3 hs) bk x⟩,fun i q hq=>⟨fun γ bk w=>SBlk.ok_ag hE2 q (vbAll x4 hq) bk w,fun bk x=>SBlk.at_ag hE2 q (vbAll x4 hq) bk x⟩,
     fun i q hq=>⟨fun γ bk w=>SBlk.ok_ag hE3 q (vbAll x5 hq) bk w,fun bk x=>SBlk.at_ag hE3 q (vbAll x5 hq) bk x⟩,SV.den_ag hE3 β0 a.res x6,?_,?_,fun q hq=>?_,actS_ag hE x10 x11,kpost_ag hE x12⟩
    ·exact factsI_put (β:=bcall β β0 ct.heap.length c.heap.length) (fun q hq=>SB.den_ag hE3 q.1 (List.all_eq_true.1 x7 q hq)) hxf
    ·refine factsI_put (β:=bcall β β0 ct.heap.length c.heap.length) (G:=E.sub β S) (fun q hq=>?_) hf1
     have h8:=List.all_eq_true.1 x8 q hq
     have mono: ∀{m n:Nat} {A B:Env},m≤n→AgE n A B→AgE m A B:=fun hmn H=>⟨fun j hj=>H.i j (by omega),fun j hj=>H.b j (by omega),fun j hj=>H.a j (by omega),H.o,H.fn⟩
     rw [SB.den_ag (mono (by omega) hE3:AgE xb _ _) q.1 h8,SB.den_ag hE2 q.1 h8]
    ·rw [SB.den_ag hE q.1 (List.all_eq_true.1 x9 q hq)];exact hF q hq
  obtain ⟨b1,b2,b3,b4,b5,b6,b7,b8,b9⟩:=B
  obtain ⟨k1,k2,k3,k4⟩:=call_heap (E:=E) (β:=β) (w:=w) (S:=S) (Sf:=S1.fresh c.nv ct.nx) (E':=E.upd c.nv ct.nx V) hF hw hb2 hch hb0 (by rw [(fresh_ko S1 c.nv ct.nx).1,hS1]) h0 hx0 b1 b2 b3
  refine ⟨E.upd c.nv ct.nx V,_,⟨Env.upd_ag _ _ _ _,Nat.le_add_right _ _,fun hh=>?_⟩,k2,k1,fun q hq=>?_,fun H=>?_⟩
  ·have:ct.nx=0:=by
    rcases hh with hh|hh
    ·simp only at hh;omega
    ·exact hnox hh
   rw [this,Env.upd_zero]
  ·simp only [List.mem_append] at hq
   rcases hq with hq|hq|hq
   ·exact b5 q hq
   ·exact b6 q hq
   ·exact b7 q hq
  ·simp only [Cf.wp] at H
   rw [kpost_agree k4 hb5,putS_ok,actS_agree k4 hb3 hb4,SV.inst_ok (E:=E.upd c.nv ct.nx V) k3 a.res hb1,b4,b8,b9] at H
   exact H
 ·cases h
theorem nox_ct {p:Prm} (h:p.nox=true) {ct:Ct} (hc:ct∈p.ct):ct.nx=0:=by
 unfold Prm.nox at h
 rw [Bool.and_eq_true] at h
 simpa using List.all_eq_true.1 h.1 ct hc
theorem nox_bt {p:Prm} (h:p.nox=true) {b:Bt} (hc:b∈p.bt):b.ct.nx=0:=by
 unfold Prm.nox at h
 rw [Bool.and_eq_true] at h
 simpa using List.all_eq_true.1 h.2 b hc
theorem ctStep_ok (hp:PrmOk E p) (hg:p.gm.ok β) {c c':Cf} {all:Array Oper} {o:Oper} {rest:Rest} {cl:Call} {ct:Ct} {args:List SV} (hF:Facts E c.facts) (hw:HOk E β c.heap w)
 (hx:c.fo= .ops all { rest with q:=(0,o)::rest.q }) (hwt:Region.wanted o (yielded all (actS E β c.tmps c.ds).tmps)=true) (ho:o.op= .call cl) (hcl:sCall p c.tmps cl=some (ct.g,args)) (hct:ct∈p.ct) (h:ctStep p c ct args o.dst all rest= .next c'):
 SoundE E β p Q c w c':=by
 intro H
 unfold ctStep at h
 simp only at h
 generalize mCall p.gm ct args c.heap=S at h
 split at h
 ·rename_i hc
  split at h
  ·rename_i a ha
   have hch:chkHeap S c.facts ct.heap c.heap=true:=by
    unfold chkCall at hc
    simp only [Bool.and_eq_true] at hc
    exact hc.1.2
   obtain ⟨f1,f2⟩:=chkCall_ok hp hg hF hw hct hc ha
   simp only [Cf.wp,hx] at⊢
   simp only [wpR,wpQ,hwt,if_true]
   unfold opN
   obtain ⟨h1,h2⟩:=sCall_ok (E:=E) (w:=w) (ds:=c.ds.map (SD.den E β)) hp hg ho hcl
   have h1':(execOp (actS E β c.tmps c.ds).eval o).run p.P w= .ok (.enter ct.g (SV.denL E β args).toArray) w:=h1
   rw [h1']
   refine f2.mono fun e w' ⟨β0,V,he,h0,hx0,hxf⟩=>?_
   subst he
   obtain ⟨E',β',r1,r2,r3,r4,r5⟩:=ctNext_ok (Q:=Q) hF hw hch f1 h (fun hh=>nox_ct hh hct) h0 hx0 hxf
   exact r5 (H E' β' w' r1 r2 r3 r4)
  ·cases h
  ·cases h
  ·cases h
 ·cases h
theorem btStep_ok (hp:PrmOk E p) (hg:p.gm.ok β) {c c':Cf} {all:Array Oper} {o:Oper} {rest:Rest} (hF:Facts E c.facts) (hw:HOk E β c.heap w)
 (hx:c.fo= .ops all { rest with q:=(0,o)::rest.q }) (hwt:Region.wanted o (yielded all (actS E β c.tmps c.ds).tmps)=true): ∀{bs:List Bt},(∀b∈bs,b∈p.bt)→btStep p c all o rest bs=some (.next c')→SoundE E β p Q c w c'
 |[],_,h=>by simp [btStep] at h
 |b::r,hb,h=>by
  have next:btStep p c all o rest r=some (.next c')→SoundE E β p Q c w c':=fun h=>btStep_ok (bs:=r) hp hg hF hw hx hwt (fun b' hb'=>hb b' (by simp [hb'])) h
  simp only [btStep] at h
  split at h
  ·rename_i xs hsel
   split at h
   ·rename_i args hargs
    try simp only at h
    generalize mCall p.gm b.ct args c.heap=S at h
    split at h
    ·rename_i hc
     split at h
     ·rename_i a ha
      have h:=Option.some.inj h
      have hch:chkHeap S c.facts b.ct.heap c.heap=true:=by
       unfold chkCall at hc
       simp only [Bool.and_eq_true] at hc
       exact hc.1.2
      obtain ⟨f1,v,w',g1,_,β0,V,hv,h0,hx0,hxf⟩:=chkBt_ok hp hg hF hw (hb b (by simp)) hc ha hsel (evL_ok (ds:=c.ds.map (SD.den E β)) hg hargs)
      intro H
      obtain ⟨E',β',r1,r2,r3,r4,r5⟩:=ctNext_ok (Q:=Q) hF hw hch f1 h (fun hh=>nox_bt hh (hb b (by simp))) h0 hx0 hxf
      have:=r5 (H E' β' w' r1 r2 r3 r4)
      simp only [Cf.wp,hx] at⊢
      rw [←hv] at this
      rcases g1 with g1|⟨_,g1,g2⟩
      ·exact wpN_value hwt g1 this
      ·rw [g2] at this
       exact wpN_sk hwt g1 this
     ·cases h
     ·cases h
     ·exact next h
    ·exact next h
   ·exact next h
  ·exact next h
theorem sAppA_ok {gm:Gm} (hg:gm.ok β) {F:Fx} (hF:Facts E F) {h h':List SBlk} (hw:HOk E β h w) {tmps:Tm} {ds:List Deferred} {o:Oper} {v:SV} {P:Program}
 (hr:sAppA P gm F h tmps o.op= .ok h' v): ∃bk w',(execOp (actD E β tmps ds).eval o).run P w= .ok (.value (v.den E (upB β h.length bk))) w'∧HOk E (upB β h.length bk) h' w'∧Ext E h β w E h' (upB β h.length bk) w':=by
 unfold sAppA at hr
 split at hr
 ·exact sAppend2_ok hg hF hw hr
 ·exact sAppend_ok hg hF hw hr
theorem stepRest_ok (hp:PrmOk E p) (hg:p.gm.ok β) {c c':Cf} {all:Array Oper} {o:Oper} {rest:Rest} (hF:Facts E c.facts) (hw:HOk E β c.heap w)
 (hx:c.fo= .ops all { rest with q:=(0,o)::rest.q }) (hwt:Region.wanted o (yielded all (actS E β c.tmps c.ds).tmps)=true) (h:stepRest p c all o rest= .next c'):SoundE E β p Q c w c'∨(Sound E β p Q c w c'∧Facts E c'.facts):=by
 unfold Sound
 unfold stepRest at h
 split at h
 ·rename_i T a x ho
  split at h
  ·rename_i sa sx ha hxx
   split at h
   ·rename_i h' hs
    cases h
    refine .inr ⟨fun H=>?_,hF⟩
    obtain ⟨w',h1,h2,h3⟩:=sStore_ok (P:=p.P) hw hs
    have:=H β w' h3 h2
    simp only [Cf.wp,hx] at this⊢
    rw [put_undef] at this
    refine wpN_sk hwt ?_ this
    have e1:=ev_ok (E:=E) (ds:=c.ds.map (SD.den E β)) hg ha
    have e2:=ev_ok (E:=E) (ds:=c.ds.map (SD.den E β)) hg hxx
    simp only [execOp,ho]
    show (((do Instr.storeAt T ((actD E β c.tmps _).eval a) ((actD E β c.tmps _).eval x);pure Next.skip):Sem Next)).run p.P w=_
    rw [e1,e2]
    simp [h1]
   ·split at h
    ·rename_i h' hs
     cases h
     refine .inr ⟨fun H=>?_,hF⟩
     obtain ⟨w',h1,h2,h3⟩:=sStore2_ok (P:=p.P) hF hw hs
     have:=H β w' h3 h2
     simp only [Cf.wp,hx] at this⊢
     rw [put_undef] at this
     refine wpN_sk hwt ?_ this
     have e1:=ev_ok (E:=E) (ds:=c.ds.map (SD.den E β)) hg ha
     have e2:=ev_ok (E:=E) (ds:=c.ds.map (SD.den E β)) hg hxx
     simp only [execOp,ho]
     show (((do Instr.storeAt T ((actD E β c.tmps _).eval a) ((actD E β c.tmps _).eval x);pure Next.skip):Sem Next)).run p.P w=_
     rw [e1,e2]
     simp [h1]
    ·split at h
     ·rename_i h' hs
      cases h
      refine .inr ⟨fun H=>?_,hF⟩
      obtain ⟨w',h1,h2,h3⟩:=sStore3_ok (P:=p.P) hF hw hs
      have:=H β w' h3 h2
      simp only [Cf.wp,hx] at this⊢
      rw [put_undef] at this
      refine wpN_sk hwt ?_ this
      have e1:=ev_ok (E:=E) (ds:=c.ds.map (SD.den E β)) hg ha
      have e2:=ev_ok (E:=E) (ds:=c.ds.map (SD.den E β)) hg hxx
      simp only [execOp,ho]
      show (((do Instr.storeAt T ((actD E β c.tmps _).eval a) ((actD E β c.tmps _).eval x);pure Next.skip):Sem Next)).run p.P w=_
      rw [e1,e2]
      simp [h1]
     ·cases h
  ·cases h
 ·rename_i cl ho
  split at h
  ·rename_i g args hc
   split at h
   ·cases h
   split at h
   ·rename_i ct hct
    obtain ⟨m1,m2⟩:=ctSelect_ok hct
    subst m2
    exact .inl (ctStep_ok hp hg hF hw hx hwt ho hc m1 h)
   split at h
   ·rename_i fn hfn
    split at h
    ·rename_i b hb
     cases h
     refine .inr ⟨fun H=>?_,hF⟩
     have:=H β w (Ext.refl _ _ _ _) hw
     simp only [Cf.wp,hx,kpost,hfn] at this⊢
     simp only [wpR,wpQ,hwt,if_true]
     unfold opN
     obtain ⟨h1,h2⟩:=sCall_ok (E:=E) (w:=w) (ds:=c.ds.map (SD.den E β)) hp hg ho hc
     have h1':(execOp (actS E β c.tmps c.ds).eval o).run p.P w= .ok (.enter g (SV.denL E β args).toArray) w:=h1
     rw [h1']
     have hcalls:Calls p.P g (SV.denL E β args).toArray w (retR p.P (kpost E β p Q c.k) all rest o.dst (actS E β c.tmps c.ds)):=by
      refine calls_of_wp_defers hfn hb ?_
      have e:({ tmps:=(SV.denL E β args).toArray++Array.replicate (fn.ntmps - (SV.denL E β args).toArray.size) undef,defers:=[] }:Act)=actS E β (Tm.entry args fn.ntmps) []:=by
       unfold actS actD
       rw [Tm.entry_den];rfl
      rw [e]
      exact this
     exact hcalls.mono fun e w' he=>by cases e<;>exact he
    ·cases h
   ·cases h
  ·split at h
   ·rename_i h' v hap
    split at h
    ·rename_i hb
     cases h
     simp only [Bool.and_eq_true] at hb
     obtain ⟨⟨hb3,hb4⟩,hb5⟩:=hb
     refine .inr ⟨fun H=>?_,hF⟩
     rw [←ho] at hap
     obtain ⟨bk,w',k0,k1,k2⟩:=sAppA_ok (ds:=c.ds.map (SD.den E β)) hg hF hw hap
     have:=H _ _ k2 k1
     have hag: ∀i,i<c.heap.length→upB β c.heap.length bk i=β i:=fun i hi=>upB_ne (by omega)
     simp only [Cf.wp,hx] at this⊢
     rw [kpost_agree hag hb5,putS_ok,actS_agree hag hb3 hb4] at this
     exact wpN_value hwt k0 this
    ·cases h
   ·cases h
   ·cases h
   ·split at h
    ·rename_i h' v hap
     cases h
     refine .inr ⟨fun H=>?_,hF⟩
     rw [←ho] at hap
     obtain ⟨w',k0,k1,k2⟩:=sCopy_ok (ds:=c.ds.map (SD.den E β)) hg hF hw hap
     have:=H _ _ k2 k1
     simp only [Cf.wp,hx] at this⊢
     rw [putS_ok] at this
     exact wpN_value hwt k0 this
    ·cases h
 ·rename_i cl ho
  split at h
  ·rename_i d hd
   cases h
   refine .inr ⟨fun H=>?_,hF⟩
   have:=H β w (Ext.refl _ _ _ _) hw
   simp only [Cf.wp,hx] at this⊢
   simp only [wpR,wpQ,hwt,if_true]
   unfold opN
   have h1:(execOp (actS E β c.tmps c.ds).eval o).run p.P w= .ok (.defer (d.den E β)) w:=sDefer_ok hg ho hd
   rw [h1]
   rw [put_undef] at this
   exact this
  ·cases h
 ·cases h
 ·rename_i hn1 hn2 hn3 hn4
  split at h
  ·rename_i l ks S hrow0
   have hrow:=rowOf_ok hrow0
   split at h
   ·rename_i hb
    cases h
    simp only [Bool.and_eq_true] at hb
    obtain ⟨⟨⟨⟨hb1,hb2⟩,hb3⟩,hb4⟩,hb5⟩:=hb
    refine .inr ⟨fun H=>?_,hF⟩
    obtain ⟨len,l1,l2,l3,l4⟩:=rowOp_ok (E:=E) (w:=w) (ds:=c.ds.map (SD.den E β)) hg hrow
    obtain ⟨k1,k2⟩:=HOk.pushRow (S:=S) hw hb1 hb2 l1 l2 l3
    have:=H _ _ k2 k1
    have hag: ∀i,i<c.heap.length→upB β c.heap.length ⟨w.heap.size,false,len,len,0,fun _=> .nilIface⟩ i=β i:=fun i hi=>upB_ne (by omega)
    simp only [Cf.wp,hx] at this⊢
    rw [kpost_agree hag hb5,putS_ok,actS_agree hag hb3 hb4] at this
    have ev:(SV.own c.heap.length).den E (upB β c.heap.length ⟨w.heap.size,false,len,len,0,fun _=> .nilIface⟩)= .slice (some ⟨w.heap.size,0,none⟩) len len:=by
     simp only [SV.den,upB_self];rfl
    rw [ev] at this
    exact wpN_value hwt l4 this
   ·cases h
  split at h
  ·rename_i l S v hnew
   split at h
   ·rename_i hb
    cases h
    simp only [Bool.and_eq_true] at hb
    obtain ⟨⟨⟨⟨hb1,hb2⟩,hb3⟩,hb4⟩,hb5⟩:=hb
    refine .inr ⟨fun H=>?_,hF⟩
    obtain ⟨k1,k2⟩:=HOk.push (S:=S) hw hb1 hb2
    have:=H _ _ k2 k1
    have hag: ∀i,i<c.heap.length→upB β c.heap.length { a:=w.heap.size } i=β i:=fun i hi=>upB_ne (by omega)
    simp only [Cf.wp,hx] at this⊢
    rw [kpost_agree hag hb5,putS_ok,actS_agree hag hb3 hb4] at this
    exact wpN_value hwt (newOp_ok (ds:=c.ds.map (SD.den E β)) hg (by rw [upB_self]) (by rw [upB_self]) hnew) this
   ·cases h
  ·cases h
theorem stepOps_ok (hp:PrmOk E p) (hg:p.gm.ok β) {c c':Cf} {all:Array Oper} {o:Oper} {rest:Rest} (hF:Facts E c.facts) (hw:HOk E β c.heap w)
 (hx:c.fo= .ops all { rest with q:=(0,o)::rest.q }) (h:stepOps p c all o rest= .next c'):SoundE E β p Q c w c'∨(Sound E β p Q c w c'∧Facts E c'.facts):=by
 unfold stepOps at h
 split at h
 ·rename_i hgd
  have hwt:=guardS_run (β:=β) (ds:=c.ds) hF hgd
  split at h
  ·rename_i v hv
   cases h
   refine .inr ⟨fun H=>?_,hF⟩
   have:=H β w (Ext.refl _ _ _ _) hw
   simp only [Cf.wp,hx] at this⊢
   rw [putS_ok] at this
   exact wpN_value hwt (readOp_ok hg hF hw hv) this
  ·cases h
  ·cases h
  ·split at h
   ·rename_i s hs
    subst h
    exact .inl (btStep_ok hp hg hF hw hx hwt (fun b hb=>hb) hs)
   ·exact stepRest_ok hp hg hF hw hx hwt h
 ·rename_i hgd
  have hwt:=guardS_skip (β:=β) (ds:=c.ds) hF hgd
  cases h
  refine .inr ⟨fun H=>?_,hF⟩
  have:=H β w (Ext.refl _ _ _ _) hw
  simp only [Cf.wp,hx] at this⊢
  rw [put_undef] at this
  simp only [wpR,wpQ,hwt]
  exact this
 ·cases h
 ·cases h
theorem ctNext_alts {c:Cf} {ct:Ct} {S:Sub} {a:Alt} {dst:Option Tmp} {all:Array Oper} {rest:Rest} {l:List Fo}:ctNext p c ct S a dst all rest≠ .alts l:=by
 intro h
 unfold ctNext at h
 simp only at h
 split at h<;>cases h
theorem btStep_alts {c:Cf} {all:Array Oper} {o:Oper} {rest:Rest} {l:List Fo}: ∀{bs:List Bt},btStep p c all o rest bs≠some (.alts l)
 |[],h=>by cases h
 |b::r,h=>by
  have next:btStep p c all o rest r≠some (.alts l):=btStep_alts
  simp only [btStep] at h
  split at h
  ·split at h
   ·split at h
    ·split at h
     ·exact ctNext_alts (Option.some.inj h)
     ·cases h
     ·cases h
     ·exact next h
    ·exact next h
   ·exact next h
  ·exact next h
theorem stepRest_alts {c:Cf} {all:Array Oper} {o:Oper} {rest:Rest} {l:List Fo}:stepRest p c all o rest≠ .alts l:=by
 intro h
 unfold stepRest at h
 split at h
 ·split at h
  ·split at h
   ·cases h
   ·split at h
    ·cases h
    ·split at h<;>cases h
  ·cases h
 ·split at h
  ·split at h
   ·cases h
   split at h
   ·unfold ctStep at h
    simp only at h
    split at h
    ·split at h
     ·exact ctNext_alts h
     ·cases h
     ·cases h
     ·cases h
    ·cases h
   split at h
   ·split at h<;>cases h
   ·cases h
  ·split at h
   ·split at h<;>cases h
   ·cases h
   ·cases h
   ·split at h<;>cases h
 ·split at h<;>cases h
 ·cases h
 ·split at h
  ·split at h<;>cases h
  split at h
  ·split at h<;>cases h
  ·cases h
theorem softV_ok (hp:PrmOk E p) (hg:p.gm.ok β) {c:Cf} {all:Array Oper} {o:Oper} {v:SV} (hF:Facts E c.facts) (hw:HOk E β c.heap w) (h:softV p c all o= .val v):
 QW p.P all o (actS E β c.tmps c.ds) w (v.den E β):=by
 unfold softV at h
 split at h
 ·rename_i hgd
  have hwt:=guardS_run (β:=β) (ds:=c.ds) hF hgd
  refine .inr ⟨hwt,?_⟩
  split at h
  ·exact btRead_ok (ds:=c.ds.map (SD.den E β)) hp hg hF hw (fun b hb=>hb) h
  ·exact readOp_ok (ds:=c.ds.map (SD.den E β)) hg hF hw h
 ·rename_i hgd
  cases h
  exact .inl ⟨guardS_skip (β:=β) (ds:=c.ds) hF hgd,by simp [SV.den,SV.denL,undef]⟩
 ·cases h
 ·cases h
theorem sameS_ok {tmps:Tm} {ds:List SD} {dst:Option Tmp} {v:SV} (h:sameS tmps dst v=true):(actS E β tmps ds).put dst (v.den E β)=actS E β tmps ds:=by
 unfold sameS at h
 cases dst with
 |none=>rfl
 |some d=>
  simp only at h
  split at h
  ·rename_i u hu
   have hvu:=SV.same_ok h
   subst hvu
   have hd:(actS E β tmps ds).tmps[d]?=some (v.den E β):=by
    show (tmps.den E β)[d]?=_
    rw [Tm.den_get?,hu];rfl
   simp only [Act.put]
   have:(actS E β tmps ds).tmps.setIfInBounds d (v.den E β)=(actS E β tmps ds).tmps:=by
    refine Array.ext_getElem? fun s=>?_
    rw [Array.getElem?_setIfInBounds]
    split
    ·rename_i hds
     subst hds
     rw [hd]
     have:=(Array.getElem?_eq_some_iff.1 hd).1
     simp [this]
    ·rfl
   rw [this]
  ·cases h
theorem stepSoft_ok (hp:PrmOk E p) (hg:p.gm.ok β) {c c':Cf} {all:Array Oper} {o:Oper} {rest:Rest} (hF:Facts E c.facts) (hw:HOk E β c.heap w)
 (hx:c.fo= .ops all { rest with q:=(1,o)::rest.q }) (h:stepSoft p c all o rest= .next c'):Sound E β p Q c w c'∧Facts E c'.facts:=by
 unfold stepSoft at h
 split at h
 ·rename_i v hv
  cases h
  refine ⟨fun H=>?_,hF⟩
  have:=H β w (Ext.refl _ _ _ _) hw
  simp only [Cf.wp,hx] at this⊢
  rw [putS_ok] at this
  exact ⟨_,softV_ok hp hg hF hw hv,this⟩
 ·cases h
 ·cases h
 ·cases h
theorem stepAgain_ok (hp:PrmOk E p) (hg:p.gm.ok β) {c c':Cf} {all:Array Oper} {o:Oper} {n:Nat} {rest:Rest} (hF:Facts E c.facts) (hw:HOk E β c.heap w)
 (hx:c.fo= .ops all { rest with q:=(n+2,o)::rest.q }) (h:stepAgain p c all o rest= .next c'):Sound E β p Q c w c'∧Facts E c'.facts:=by
 unfold stepAgain at h
 split at h
 ·rename_i v hv
  split at h
  ·rename_i hs
   cases h
   refine ⟨fun H=>?_,hF⟩
   have:=H β w (Ext.refl _ _ _ _) hw
   simp only [Cf.wp,hx] at this⊢
   exact ⟨⟨_,softV_ok hp hg hF hw hv,sameS_ok hs⟩,this⟩
  ·cases h
 ·cases h
 ·cases h
 ·cases h
theorem hardS_ok {c:Cf} {all:Array Oper} {M:List Nat} {k:Nat} {dn:List Nat} {h:Nat} (hm:h∈candsM all M dn) (H:({ c with fo:=hardS all M k dn h }:Cf).wp E β p Q w) {o:Oper} (ho:all[h]?=some o):
 wpQ p.P all (LetsOut (kpost E β p Q c.k)) (wpA p.P all M (kpost E β p Q c.k) k (h::dn)) ((0,o)::behindM all M dn h) (actS E β c.tmps c.ds) w:=by
 unfold hardS at H
 rw [ho] at H
 exact H
theorem plan_wp {c:Cf} {all:Array Oper} {M:List Nat} {k:Nat} {dn:List Nat} (hx:c.fo= .ops all ⟨[],k+1,dn,M⟩) (h0:candsM all M dn=[]→({ c with fo:= .exit .normal }:Cf).wp E β p Q w)
 (h1: ∀h∈candsM all M dn,({ c with fo:=hardS all M k dn h }:Cf).wp E β p Q w):c.wp E β p Q w:=by
 unfold Cf.wp
 rw [hx]
 exact ⟨h0,fun h hm o ho=>hardS_ok hm (h1 h hm) ho⟩
theorem stepPlan_ok {c c':Cf} {all:Array Oper} {M:List Nat} {k:Nat} {dn:List Nat} (hF:Facts E c.facts) (hw:HOk E β c.heap w) (hx:c.fo= .ops all ⟨[],k+1,dn,M⟩) (h:stepPlan c all M k dn= .next c'):
 Sound E β p Q c w c'∧Facts E c'.facts:=by
 unfold stepPlan at h
 split at h
 ·rename_i hc
  cases h
  exact ⟨fun H=>plan_wp hx (fun _=>H β w (Ext.refl _ _ _ _) hw) (fun h hm=>(by rw [hc] at hm;cases hm)),hF⟩
 ·rename_i h' hc
  cases h
  refine ⟨fun H=>plan_wp hx (fun hh=>(by rw [hc] at hh;cases hh)) (fun h hm=>?_),hF⟩
  rw [hc,List.mem_singleton] at hm
  subst hm
  exact H β w (Ext.refl _ _ _ _) hw
 ·cases h
theorem alts_ok {c:Cf} {l:List Fo} (h:step p c= .alts l) (H: ∀fo∈l,({ c with fo:=fo }:Cf).wp E β p Q w):c.wp E β p Q w:=by
 unfold step at h
 split at h
 ·rename_i x hx
  exfalso
  have key: ∀(F G:Fx),hintGo F G≠some (.alts l):=by
   intro F G
   induction G with
   |nil=>intro hh;cases hh
   |cons q r ih=>
    intro hh
    obtain ⟨b,t⟩:=q
    simp only [hintGo] at hh
    split at hh
    ·split at hh
     ·exact ih hh
     ·cases hh
    ·cases hh
  have key2: ∀(F:Fx) (l':List SB),partGo F l'≠some (.alts l):=by
   intro F l'
   induction l' with
   |nil=>intro hh;cases hh
   |cons b r ih=>
    intro hh
    simp only [partGo] at hh
    split at hh
    ·exact ih hh
    ·cases hh
  split at h
  ·rename_i s hs
   subst h
   unfold hintS at hs
   split at hs
   ·split at hs
    ·rename_i s hg
     cases hs
     exact key _ _ hg
    ·exact key2 _ _ hs
   ·cases hs
  ·unfold stepCode at h
   split at h<;>(try cases h)
   ·split at h
    ·split at h<;>cases h
    ·cases h
   ·split at h<;>cases h
   ·simp only at h
    split at h<;>cases h
 ·cases h
 ·rename_i all k dn M hx
  unfold stepPlan at h
  split at h
  ·cases h
  ·cases h
  ·cases h
   refine plan_wp hx (fun hh=>?_) (fun h hm=>H _ (List.mem_map.2 ⟨h,hm,rfl⟩))
   rename_i hn _
   exact (hn hh).elim
 ·exfalso
  rename_i all o q k dn M hx
  unfold stepOps at h
  split at h
  ·split at h
   ·cases h
   ·cases h
   ·cases h
   ·split at h
    ·rename_i s hs
     subst h
     exact btStep_alts hs
    ·exact stepRest_alts h
  ·cases h
  ·cases h
  ·cases h
 ·exfalso
  unfold stepSoft at h
  split at h<;>cases h
 ·exfalso
  unfold stepAgain at h
  split at h
  ·split at h<;>cases h
  ·cases h
  ·cases h
  ·cases h
 ·exfalso
  unfold stepExit at h
  split at h
  ·cases h
  ·split at h<;>cases h
  ·split at h
   ·split at h<;>cases h
   ·cases h
  ·split at h
   ·split at h<;>cases h
   ·cases h
  ·split at h
   ·cases h
   ·split at h
    ·split at h
     ·split at h<;>cases h
     ·cases h
    ·cases h
theorem stepExit_ok (hp:PrmOk E p) {c c':Cf} {e:SX} (hF:Facts E c.facts) (hw:HOk E β c.heap w) (hx:c.fo= .exit e) (h:stepExit p c e= .next c'):Sound E β p Q c w c'∧Facts E c'.facts:=by
 unfold Sound
 unfold stepExit at h
 split at h
 ·cases h
 ·rename_i b k hk
  cases e<;>cases h<;>refine ⟨fun H=>?_,hF⟩<;>have:=H β w (Ext.refl _ _ _ _) hw<;>simp only [Cf.wp,hx,hk,kpost] at this⊢ <;>exact this
 ·rename_i id k hk
  cases e with
  |normal=>cases h;refine ⟨fun H=>?_,hF⟩;have:=H β w (Ext.refl _ _ _ _) hw;simp only [Cf.wp,hx,hk,kpost] at this⊢;exact this
  |ret=>cases h;refine ⟨fun H=>?_,hF⟩;have:=H β w (Ext.refl _ _ _ _) hw;simp only [Cf.wp,hx,hk,kpost] at this⊢;exact this
  |ex j=>
   simp only at h
   split at h
   ·rename_i hj;subst hj;cases h;refine ⟨fun H=>?_,hF⟩;have:=H β w (Ext.refl _ _ _ _) hw;simp only [Cf.wp,hx,hk,kpost] at this⊢
    simp only [SX.den,Exit.inBlock,if_true];exact this
   ·rename_i hj;cases h;refine ⟨fun H=>?_,hF⟩;have:=H β w (Ext.refl _ _ _ _) hw;simp only [Cf.wp,hx,hk,kpost] at this⊢
    simp only [SX.den,Exit.inBlock,hj,if_false];exact this
 ·rename_i b k hk
  cases e with
  |normal=>
   simp only at h
   split at h
   ·cases h
   ·cases h;refine ⟨fun H=>?_,hF⟩;have:=H β w (Ext.refl _ _ _ _) hw;simp only [Cf.wp,hx,hk,kpost] at this⊢;exact loopC_of this
  |ret=>cases h;refine ⟨fun H=>?_,hF⟩;have:=H β w (Ext.refl _ _ _ _) hw;simp only [Cf.wp,hx,hk,kpost] at this⊢;exact this
  |ex j=>cases h;refine ⟨fun H=>?_,hF⟩;have:=H β w (Ext.refl _ _ _ _) hw;simp only [Cf.wp,hx,hk,kpost] at this⊢;exact this
 ·rename_i f dst tmps ds all rest fid k hk
  have h':(∀j,e≠ .ex j)∧(if c.ds.all (SD.fine p) then
   match p.P.funcs[f]? with
   |some fn=>match sRes p.P c.facts c.heap c.tmps fn.results.toList with
    |some v=>Stp.next { c with tmps:=putS tmps dst v,ds:=ds,fo:= .ops all rest,k:=k,fid:=fid }
    |none=> .stop
   |none=> .stop
   else .stop)= .next c':=by
   cases e with
   |ex j=>cases h
   |normal=>exact ⟨fun j hj=>(by cases hj),h⟩
   |ret=>exact ⟨fun j hj=>(by cases hj),h⟩
  clear h
  obtain ⟨hne,h⟩:=h'
  ·split at h
   ·rename_i hfine
    split at h
    ·rename_i fn hfn
     split at h
     ·rename_i v hv
      cases h
      refine ⟨fun H=>?_,hF⟩
      have:=H β w (Ext.refl _ _ _ _) hw
      simp only [Cf.wp,hx,hk,kpost,hfn] at this⊢
      have hl:Leaves p.P fn (c.tmps.den E β) (retR p.P (kpost E β p Q k) all rest dst (actS E β tmps ds)) (c.ds.map (SD.den E β)) .returning w:=
       benign_leaves hp hfine ⟨_,sRes_ok hF hw hv,by rw [putS_ok] at this;exact this⟩
      cases e with
      |normal=>exact hl
      |ex id=>exact (hne id rfl).elim
      |ret=>exact hl
     ·cases h
    ·cases h
   ·cases h
theorem step_ok (hp:PrmOk E p) (hg:p.gm.ok β) {c c':Cf} (hb: ∀q∈p.gm,q.2<c.heap.length) (hF:Facts E c.facts) (hw:HOk E β c.heap w) (h:step p c= .next c') (hn:c.nv≤c'.nv):SoundE E β p Q c w c':=by
 unfold step at h
 split at h
 ·rename_i x hx
  split at h
  ·rename_i s hs
   subst h
   exfalso
   have key: ∀(G:Fx),hintGo c.facts G≠some (.next c'):=by
    intro G
    induction G with
    |nil=>intro hh;cases hh
    |cons q r ih=>
     intro hh
     obtain ⟨b,t⟩:=q
     simp only [hintGo] at hh
     split at hh
     ·split at hh
      ·exact ih hh
      ·cases hh
     ·cases hh
   have key2: ∀(l:List SB),partGo c.facts l≠some (.next c'):=by
    intro l
    induction l with
    |nil=>intro hh;cases hh
    |cons b r ih=>
     intro hh
     simp only [partGo] at hh
     split at hh
     ·exact ih hh
     ·cases hh
   unfold hintS at hs
   split at hs
   ·split at hs
    ·rename_i s hg
     cases hs
     exact key _ hg
    ·exact key2 _ hs
   ·cases hs
  ·exact SoundE.of hn (stepCode_ok hp hg hb hF hw hx h)
 ·rename_i all dn M hx
  cases h
  refine SoundE.of hn ⟨fun H=>?_,hF⟩
  have:=H β w (Ext.refl _ _ _ _) hw
  simp only [Cf.wp,hx] at this⊢
  exact this
 ·rename_i all k dn M hx;exact SoundE.of hn (stepPlan_ok hF hw hx h)
 ·rename_i all o q k dn M hx;exact (stepOps_ok (rest:=⟨q,k,dn,M⟩) hp hg hF hw hx h).elim id (SoundE.of hn)
 ·rename_i all o q k dn M hx;exact SoundE.of hn (stepSoft_ok (rest:=⟨q,k,dn,M⟩) hp hg hF hw hx h)
 ·rename_i all n o q k dn M hx;exact SoundE.of hn (stepAgain_ok (rest:=⟨q,k,dn,M⟩) hp hg hF hw hx h)
 ·rename_i e hx;exact SoundE.of hn (stepExit_ok hp hF hw hx h)
theorem gm_ext {E':Env} {h h':List SBlk} {β':Nat→Bk} {w':World} (hg:p.gm.ok β) (hb: ∀q∈p.gm,q.2<h.length) (x:Ext E h β w E' h' β' w'):p.gm.ok β'∧ ∀q∈p.gm,q.2<h'.length:=
 ⟨fun q hq=>by rw [x.agree _ (hb q hq)];exact hg q hq,fun q hq=>Nat.lt_of_lt_of_le (hb q hq) x.len⟩
theorem PrmOk.fn {E':Env} (hp:PrmOk E p) (h:E'.fn=E.fn):PrmOk E' p:=
 ⟨fun b hb=>by rw [h];exact hp.bt b hb,fun c hc=>by rw [h];exact hp.ct c hc,hp.mix,hp.okf,hp.body,hp.mts,hp.dfr,hp.dfk⟩
theorem run_sound: ∀(n:Nat) (c:Cf) (E:Env) (β:Nat→Bk) (w:World) (Q:Exit→Act→World→Prop),PrmOk E p→p.gm.ok β→(∀q∈p.gm,q.2<c.heap.length)→Facts E c.facts→HOk E β c.heap w→
 (∀l∈run p n c,LeafOk E p Q c.nv c.heap β w l)→c.wp E β p Q w
 |0,c,E,β,w,Q,hp,hg,hb,hF,hw,H=>by
  have:=H (false,c) (by simp [run]) E (RelE.refl _ _ _) hF
  exact this.2 β w (Ext.refl _ _ _ _) hw
 |n+1,c,E,β,w,Q,hp,hg,hb,hF,hw,H=>by
  simp only [run] at H
  split at H
  ·rename_i c' hs
   cases hn:Nat.ble c.nv c'.nv with
   |false=>
    rw [hn] at H
    have:=H (false,c) (by simp) E (RelE.refl _ _ _) hF
    exact this.2 β w (Ext.refl _ _ _ _) hw
   |true=>
    rw [hn] at H
    simp only [cond_true] at H
    have hn:=Nat.le_of_ble_eq_true hn
    have h1:=step_ok (Q:=Q) hp hg hb hF hw hs hn
    refine h1 fun E' β' w' hR hx hw' h2=>?_
    obtain ⟨hg',hb'⟩:=gm_ext hg hb hx
    refine run_sound n c' E' β' w' Q (hp.fn hR.1.fn) hg' hb' h2 hw' fun l hl E'' hR' hf=>?_
    obtain ⟨e1,e2⟩:=H l hl E'' (hR.trans hR') hf
    exact ⟨e1,fun β'' w'' hx' hw''=>e2 β'' w'' (hx.trans hx') hw''⟩
  ·rename_i b hs
   cases hd:(strip b).den E with
   |true=>
    refine run_sound n { c with facts:=(strip b,true)::c.facts } E β w Q hp hg hb ?_ hw fun l hl=>H l (List.mem_append_left _ hl)
    intro q hq
    simp only [List.mem_cons] at hq
    rcases hq with rfl|hq
    ·exact hd
    ·exact hF q hq
   |false=>
    refine run_sound n { c with facts:=(strip b,false)::c.facts } E β w Q hp hg hb ?_ hw fun l hl=>H l (List.mem_append_right _ hl)
    intro q hq
    simp only [List.mem_cons] at hq
    rcases hq with rfl|hq
    ·exact hd
    ·exact hF q hq
  ·rename_i l hs
   refine alts_ok hs fun fo hfo=>run_sound n { c with fo:=fo } E β w Q hp hg hb hF hw fun l' hl'=>H l' (List.mem_flatMap.2 ⟨fo,hfo,hl'⟩)
  ·have:=H (true,c) (by simp) E (RelE.refl _ _ _) hF
   cases this.1
  ·have:=H (false,c) (by simp) E (RelE.refl _ _ _) hF
   exact this.2 β w (Ext.refl _ _ _ _) hw
structure Out where
 dead:Bool
 facts:Fx
 res:SV
 heap:List SBlk
def outOf (p:Prm) (l:Bool×Cf):Option Out:=
 if l.1 then some ⟨true,l.2.facts,.tup [],[]⟩ else
 match l.2.k,l.2.fo with
 |[],.exit (.ex _)=>none
 |[],.exit _=>if l.2.ds.all (SD.fine p) then
    match p.P.funcs[l.2.fid]? with
    |some fn=>match sRes p.P l.2.facts l.2.heap l.2.tmps fn.results.toList with
     |some v=>some ⟨false,l.2.facts,v,l.2.heap⟩
     |none=>none
    |none=>none
  else none
 |_,_=>none
def enter (p:Prm) (f:FuncId) (args:List SV) (heap:List SBlk) (F:Fx):Option Cf:=
 match p.P.funcs[f]? with
 |some fn=>match fn.body with
  |some b=>some { tmps:=Tm.entry args fn.ntmps,ds:=[],heap:=heap,facts:=F,fo:= .code b,k:=[],fid:=f }
  |none=>none
 |none=>none
end Go.Sy
end
section
set_option autoImplicit true
set_option relaxedAutoImplicit true
set_option linter.unusedVariables false
set_option linter.unusedSimpArgs false
namespace Go.Sy
open Go Go.RowKit
variable {E:Env} {β:Nat→Bk} {p:Prm} {w:World}
theorem facts_cons {b:SB} {t:Bool} {r:Fx}:Facts E ((b,t)::r)↔b.den E=t∧Facts E r:=by
 unfold Facts;simp
theorem fat {F:Fx} (h:Facts E F) (i:Nat) {b:SB} {t:Bool} (hi:F[i]?=some (b,t)):b.den E=t:=h _ (List.mem_of_getElem? hi)
theorem facts_nil:Facts E []↔True:=by unfold Facts;simp
theorem lt_t {x y:SE}:(SB.lt x y).den E=true↔x.den E<y.den E:=by simp only [SB.den,decide_eq_true_eq]
theorem lt_f {x y:SE}:(SB.lt x y).den E=false↔y.den E≤x.den E:=by simp only [SB.den,decide_eq_false_iff_not,Int.not_lt]
theorem le_t {x y:SE}:(SB.le x y).den E=true↔x.den E≤y.den E:=by simp only [SB.den,decide_eq_true_eq]
theorem le_f {x y:SE}:(SB.le x y).den E=false↔y.den E<x.den E:=by simp only [SB.den,decide_eq_false_iff_not,Int.not_le]
theorem eq_t {x y:SE}:(SB.eq x y).den E=true↔x.den E=y.den E:=by simp only [SB.den,beq_iff_eq]
theorem eq_f {x y:SE}:(SB.eq x y).den E=false↔x.den E≠y.den E:=by simp only [SB.den,beq_eq_false_iff_ne]
theorem d_c (n:Int):(SE.c n).den E=n:=rfl
theorem d_v (i:Nat):(SE.v i).den E=E.i i:=rfl
theorem d_add (x y:SE):(SE.add x y).den E=x.den E+y.den E:=rfl
theorem d_sub (x y:SE):(SE.sub x y).den E=x.den E - y.den E:=rfl
theorem d_mul (x y:SE):(SE.mul x y).den E=x.den E*y.den E:=rfl
theorem d_ite (b:SB) (x y:SE):(SE.ite b x y).den E=if b.den E then x.den E else y.den E:=rfl
theorem d_bv (i:Nat):(SB.v i).den E=E.b i:=rfl
theorem d_bc (b:Bool):(SB.c b).den E=b:=rfl
theorem d_slnil:(SL.nil).den E=[]:=rfl
theorem d_sli (x:SE) (r:SL):(SL.i x r).den E= .i (x.den E)::r.den E:=rfl
theorem d_sla (x:AE) (r:SL):(SL.a x r).den E= .a (x.den E)::r.den E:=rfl
theorem d_ap (f:Nat) (l:SL):(SE.ap f l).den E=E.fn.f f (l.den E):=rfl
end Go.Sy
end
section
set_option autoImplicit true
set_option relaxedAutoImplicit true
set_option linter.unusedVariables false
set_option linter.unusedSimpArgs false
namespace Go.Sy
open Go Go.RowKit
variable {E:Env} {β:Nat→Bk} {p:Prm} {w:World} {Q:Exit→Act→World→Prop}
def loopAt (r:Nat):Code→Option (Code×List KF)
 | .loop b=>if firstRegion b=some r then some (b,[]) else
   match loopAt r b with
   |some (c,k)=>some (c,k++[.loop b])
   |none=>none
 | .seq a b=>match loopAt r a with
   |some (c,k)=>some (c,k++[.seq b])
   |none=>loopAt r b
 | .cond _ a b=>match loopAt r a with
   |some x=>some x
   |none=>loopAt r b
 | .block id b=>match loopAt r b with
   |some (c,k)=>some (c,k++[.blk id])
   |none=>none
 |_=>none
def loopIn (P:Program) (f r:Nat):Option (Code×List KF):=
 match P.funcs[f]? with
 |some fn=>match fn.body with
  |some b=>loopAt r b
  |none=>none
 |none=>none
def loopB (P:Program) (f r:Nat):Code:=match loopIn P f r with|some x=>x.1|none=> .skip
def loopK (P:Program) (f r:Nat):List KF:=match loopIn P f r with|some x=>x.2|none=>[]
def noRet:List KF→Bool
 |[]=>true
 | .ret .. ::_=>false
 |_::k=>noRet k
theorem kpost_env {E':Env} {β':Nat→Bk}: ∀{k:List KF},noRet k=true→kpost E' β' p Q k=kpost E β p Q k
 |[],_=>rfl
 | .seq c::k,hk=>by simp only [noRet] at hk;simp only [kpost,kpost_env hk]
 | .blk id::k,hk=>by simp only [noRet] at hk;simp only [kpost,kpost_env hk]
 | .loop c::k,hk=>by simp only [noRet] at hk;simp only [kpost,kpost_env hk]
 | .ret .. ::k,hk=>by simp [noRet] at hk
theorem hok_sub {E2:Env} {h h2:List SBlk} {β2:Nat→Bk} (hw:HOk E β h w) (ι:Nat→Nat) (hinj: ∀(i j:Nat) (s t:SBlk) (x:Nat),h2[i]?=some s→h2[j]?=some t→s.at E2 (β2 i) x→t.at E2 (β2 j) x→ι i=ι j→i=j)
 (hι: ∀(i:Nat) (s:SBlk) (x:Nat),h2[i]?=some s→s.at E2 (β2 i) x→ ∃t:SBlk,h[ι i]?=some t∧t.at E (β (ι i)) x)
 (hok: ∀(i:Nat) (s:SBlk),h2[i]?=some s→SBlk.ok E2 β2 (β2 i) w s):HOk E2 β2 h2 w:=by
 refine ⟨fun i j s t x hi hj hri hrj=>?_,fun i s x hi hr=>?_,hok⟩
 ·obtain ⟨s',h1,h2⟩:=hι i s x hi hri
  obtain ⟨t',h4,h5⟩:=hι j t x hj hrj
  exact hinj i j s t x hi hj hri hrj (hw.dis _ _ s' t' x h1 h4 h2 h5)
 ·obtain ⟨s',h1,h2⟩:=hι i s x hi hr
  exact hw.lt _ s' x h1 h2
def isW:Option SBlk→Bool
 |some (.row ..)|some (.cells ..)|some (.pr ..)=>true
 |_=>false
theorem isW_wr {o:Option SBlk} {s:SBlk} {bk:Bk} {x:Nat} (h:isW o=true) (ho:o=some s) (hs:s.at E bk x):s.wr bk:=by
 subst ho
 cases s<;>simp_all [isW,SBlk.at,SBlk.wr,SBlk.real]
theorem ext_sub {E0 E2:Env} {h0 h h2:List SBlk} {β0 β2:Nat→Bk} {w0:World} (x:Ext E0 h0 β0 w0 E h β w) (ι:Nat→Nat) (hlen:h0.length≤h2.length) (hag: ∀i,i<h0.length→β2 i=β0 i)
 (hι: ∀(i:Nat) (s:SBlk) (q:Nat),h2[i]?=some s→s.at E2 (β2 i) q→ ∃t:SBlk,h[ι i]?=some t∧t.at E (β (ι i)) q)
 (hwr: ∀(i:Nat) (s:SBlk),i<h0.length→h2[i]?=some s→s.wr (β2 i)→ ∃t:SBlk,h[i]?=some t∧t.wr (β i))
 (hlow: ∀(i:Nat) (s:SBlk) (q:Nat),i<h0.length→h2[i]?=some s→s.at E2 (β2 i) q→ι i=i) (hhi: ∀(i:Nat) (s:SBlk) (q:Nat),h0.length≤i→h2[i]?=some s→s.at E2 (β2 i) q→h0.length≤ι i∨isW h0[ι i]?=true):Ext E0 h0 β0 w0 E2 h2 β2 w where
 len:=hlen
 agree:=hag
 kind i s hi hs hw:=by
  obtain ⟨t,h1,h2⟩:=hwr i s hi hs (by rw [hag i hi];exact hw)
  rw [x.agree i hi] at h2
  exact x.kind i t hi h1 h2
 fresh i s q hs hr:=by
  obtain ⟨t,h1,h2⟩:=hι i s q hs hr
  rcases x.fresh _ t q h1 h2 with h3|⟨j,u,h3,h4,h5⟩
  ·exact .inl h3
  ·refine .inr ⟨j,u,h3,h4,?_⟩
   rcases h5 with h5|rfl
   ·exact .inl h5
   ·have hj:=(List.getElem?_eq_some_iff.1 h3).1
    rcases Nat.lt_or_ge i h0.length with h6|h6
    ·exact .inr (hlow i s q h6 hs hr)
    ·rcases hhi i s q h6 hs hr with h7|h7
     ·omega
     ·exact .inl (isW_wr h7 h3 h4)
 size:=x.size
 same:=x.same
 os:=x.os
 tape:=x.tape
 output:=x.output
structure Pt where
 r:Nat
 b:Code
 K:List KF
 n:Nat
 tmps:List (Nat×SV)
 ds:List SD:=[]
 heap:List SBlk
 facts:Fx
def tm (n:Nat):List (Nat×SV)→Tm
 |[]=>Tm.empty n true
 |(i,v)::r=>(tm n r).put i v
def Pt.cf (t:Pt) (f:FuncId):Cf:={ tmps:=tm t.n t.tmps,ds:=t.ds,heap:=t.heap,facts:=t.facts,fo:= .code t.b,k:= .loop t.b::t.K,fid:=f }
def chkDs (S:Sub):List SD→List SD→Bool
 |[],[]=>true
 |d::r,e::t=>d.fn==e.fn&&chkVL S d.cap e.cap&&chkVL S d.args e.args&&chkDs S r t
 |_,_=>false
theorem chkDs_ok {S:Sub} {β0:Nat→Bk} (hB:Bmap S β β0): ∀{l l':List SD},chkDs S l l'=true→l'.map (SD.den E β)=l.map (SD.den (E.sub β S) β0)
 |[],[],_=>rfl
 |d::r,e::t,h=>by
  simp only [chkDs,Bool.and_eq_true,beq_iff_eq] at h
  simp only [List.map_cons,SD.den,h.1.1.1,chkVL_ok (E:=E) hB h.1.1.2,chkVL_ok (E:=E) hB h.1.2,chkDs_ok hB h.2]
 |[],_::_,h=>by simp [chkDs] at h
 |_::_,[],h=>by simp [chkDs] at h
def idK:Nat→List (Nat×Option Nat)
 |0=>[]
 |n+1=>(n,some n)::idK n
def mDs:List SD→List SD→Sub→Sub
 |d::r,e::t,S=>mDs r t (mVL d.args e.args (mVL d.cap e.cap S))
 |_,_,S=>S
def mTm:List (Nat×SV)→Tm→Sub→Sub
 |[],_,S=>S
 |(i,p)::r,x,S=>mTm r x (mV p (x.get i) S)
def chkTm (S:Sub) (x:Tm):List (Nat×SV)→Bool
 |[]=>true
 |(i,p)::r=>chkV S p (x.get i)&&chkTm S x r
theorem tm_n (n:Nat): ∀(l:List (Nat×SV)),(tm n l).n=n
 |[]=>rfl
 |(i,v)::r=>by show (tm n r).n=n;exact tm_n n r
theorem chkTm_ok {S:Sub} {β0:Nat→Bk} (hB:Bmap S β β0) {n:Nat} {x:Tm} (ht:S.t=some x) (hn:x.n=n) (hn1:n≤1000) (ho: ∀p∈S.o,n≤p.1): ∀{l:List (Nat×SV)},chkTm S x l=true→x.den E β=(tm n l).den (E.sub β S) β0:=by
 have key: ∀(l:List (Nat×SV)),chkTm S x l=true→ ∀i,i<n→(x.get i).den E β=((tm n l).get i).den (E.sub β S) β0:=by
  intro l
  induction l with
  |nil=>
   intro _ i hi
   have hb:Nat.ble n i=false:=by
    cases hh:Nat.ble n i with
    |true=>have:=Nat.le_of_ble_eq_true hh;omega
    |false=>rfl
   have hf:fnd i S.o=none:=by
    cases hh:fnd i S.o with
    |none=>rfl
    |some u=>have:=ho (i,u) (fnd_mem hh);simp only at this;omega
   have hi1: ¬1000≤i:=by omega
   simp only [tm,Tm.get,Tm.empty,hb,cond_false,Tr.get,cond_true,SV.den,Env.sub,hf,ht,hi1,if_false]
  |cons q r ih=>
   intro h i hi
   obtain ⟨k,p⟩:=q
   simp only [chkTm,Bool.and_eq_true] at h
   simp only [tm]
   rw [Tm.get_put,tm_n]
   by_cases hk:i=k
   ·subst hk
    rw [if_pos ⟨rfl,hi⟩]
    have hc:=h.1
    simp only [chkV,Bool.and_eq_true] at hc
    have:=SV.inst_ok (E:=E) hB p hc.1
    rw [SV.same_ok hc.2] at this
    exact this
   ·rw [if_neg (by omega)]
    exact ih h.2 i hi
 intro l h
 unfold Tm.den
 rw [tm_n,hn]
 congr 1
 apply List.map_congr_left
 intro i hi
 exact key l h i (List.mem_range.1 hi)
def idD (pat:List SBlk) (m:Nat):List (Nat×Option Nat):=(idK m).filter fun x=>!(match pat[x.1]? with|some s=>isDead s|none=>false)
def mHead (m:Nat) (t:Pt) (l:Cf):Sub:=mHeap t.heap l.heap t.heap.length (mDs t.ds l.ds (mTm t.tmps l.tmps { k:=idD t.heap m,t:=some l.tmps }))
def lowOk (S:Sub) (m:Nat) (pat h:List SBlk):Bool:=
 (List.range m).all fun j=>match fnd j S.k with
   |some (some b)=>b==j&&(match h[j]? with|some (.row _ _ _ (_::_) _)=>false|_=>true)
   |some none=>false
   |none=>match pat[j]? with|some s=>isDead s|none=>false
def hiOk (S:Sub) (h0:List SBlk) (n:Nat):Bool:=
 (List.range n).all fun j=>decide (j<h0.length)||match fnd j S.k with
   |some (some b)=>decide (h0.length≤b)||isW h0[b]?
   |_=>true
def chkHead (h0:List SBlk) (t:Pt) (l:Cf) (S0:Sub):Bool:=
 let S:={ S0 with t:=some l.tmps }
 (chkTm S l.tmps t.tmps&&(S.o.all (fun p=>decide (t.n≤p.1)&&(decide (p.1<1000)||SV.same p.2 (.opq p.1)))&&(decide (t.n≤1000)&&l.tmps.n==t.n)))&&chkDs S t.ds l.ds&&chkHeap S l.facts t.heap l.heap&&lowOk S h0.length t.heap l.heap&&hiOk S h0 t.heap.length&&decide (h0.length≤t.heap.length)
theorem bsub_low {S:Sub} {m:Nat} {pat h:List SBlk} (hl:lowOk S m pat h=true) {i:Nat} (hi:i<m):bsub E β h S i=β i∧(fnd i S.k=some (some i)∨ ∃s,pat[i]?=some s∧isDead s=true):=by
 have:=List.all_eq_true.1 hl i (List.mem_range.2 hi)
 split at this
 ·rename_i b hb
  simp only [Bool.and_eq_true,beq_iff_eq] at this
  obtain ⟨rfl,h2⟩:=this
  refine ⟨?_,.inl hb⟩
  unfold bsub siteQ
  rw [hb]
  simp only
  cases hh:h[b]? with
  |none=>rfl
  |some s=>
   rw [hh] at h2
   cases s with
   |row a ks n tail T=>
    cases tail with
    |nil=>rfl
    |cons v r=>simp at h2
   |_=>rfl
 ·cases this
 ·rename_i hb
  split at this
  ·rename_i s hs
   refine ⟨?_,.inr ⟨s,hs,this⟩⟩
   unfold bsub;rw [hb]
  ·cases this
theorem ext_match {F:Fx} (hF:Facts E F) {S:Sub} {E0:Env} {h0 h pat:List SBlk} {β0:Nat→Bk} {w0:World} (hw:HOk E β h w) (x:Ext E0 h0 β0 w0 E h β w) (hc:chkHeap S F pat h=true) (h1:lowOk S h0.length pat h=true) (h2:hiOk S h0 pat.length=true) (h3:h0.length≤pat.length):
 Ext E0 h0 β0 w0 (E.sub β S) pat (bsub E β h S) w:=by
 refine ext_sub x (fun i=>match fnd i S.k with|some (some b)=>b|_=>i) h3 (fun i hi=>?_) (fun i s q hi hr=>?_) (fun i s hi hs hw=>?_) (fun i s q hi hs hr=>?_) (fun i s q hi hs hr=>?_)
 ·rw [(bsub_low h1 hi).1];exact x.agree i hi
 ·obtain ⟨b,t,f1,f2,_,f3,f4⟩:=chk_at hF hc hi hr
  simp only [f1]
  exact ⟨t,f2,f3⟩
 ·have hk:fnd i S.k=some (some i):=by
   rcases (bsub_low (E:=E) (β:=β) h1 hi).2 with hk|⟨s',e1,e2⟩
   ·exact hk
   ·rw [hs] at e1;cases e1;cases s<;>simp_all [isDead,SBlk.wr]
  have hone:=chk_one hc hs
  unfold chkOne at hone
  simp only [hk] at hone
  cases hb:h[i]? with
  |none=>unfold chkBlk at hone;simp only [hb] at hone;cases s<;>simp_all
  |some t=>exact ⟨t,rfl,(blk_iff (E:=E) (β:=β) hF hk hb hone).2.2.2.2 hw⟩
 ·rcases (bsub_low (E:=E) (β:=β) h1 hi).2 with hk|⟨s',e1,e2⟩
  ·simp only [hk]
  ·rw [hs] at e1;cases e1;exact (dead_at e2 hr).elim
 ·obtain ⟨b,t,f1,f2,_,f3,f4⟩:=chk_at hF hc hs hr
  simp only [f1]
  have:=List.all_eq_true.1 h2 i (List.mem_range.2 (List.getElem?_eq_some_iff.1 hs).1)
  rw [f1] at this
  simp only [Bool.or_eq_true,decide_eq_true_eq] at this
  rcases this with h|h
  ·omega
  ·exact h
inductive Eqn where
 |i (x y:SE)
 |b (x y:SB)
 |a (x y:AE) (n:SE) (K:Nat)
 |p (k:Nat) (x y:SL)
def Eqn.ok (E E0:Env):Eqn→Prop
 | .i x y=>x.den E=y.den E0
 | .b x y=>x.den E=y.den E0
 | .a x y n K=> ∀j,j<(n.den E0).toNat*K→x.den E j=y.den E0 j
 | .p k x y=> ∀a v w,E.fn.p k (x.den E) a v w→E0.fn.p k (y.den E0) a v w∧ ∀q,E0.fn.ft k (y.den E0) a v q→E.fn.ft k (x.den E) a v q
theorem Eqn.p_of {E0:Env} {k:Nat} {x y:SL} (hf:E.fn=E0.fn) (h:x.den E=y.den E0):(Eqn.p k x y).ok E E0:=fun a v w hp=>by rw [←hf,←h];exact ⟨hp,fun _ hq=>hq⟩
def eqnE (x y:SE):List Eqn:=match x,y with
 | .c a,.c b=>if a=b then [] else [.i x y]
 |x,y=>[.i x y]
def eqnB (x y:SB):List Eqn:=match x,y with
 | .c a,.c b=>if a=b then [] else [.b x y]
 |x,y=>[.b x y]
theorem eqnE_ok {E0:Env} {x y:SE} (h: ∀q∈eqnE x y,q.ok E E0):x.den E=y.den E0:=by
 unfold eqnE at h
 split at h
 ·split at h
  ·rename_i hab;subst hab;rfl
  ·exact h (.i _ _) List.mem_cons_self
 ·exact h (.i _ _) List.mem_cons_self
theorem eqnB_ok {E0:Env} {x y:SB} (h: ∀q∈eqnB x y,q.ok E E0):x.den E=y.den E0:=by
 unfold eqnB at h
 split at h
 ·split at h
  ·rename_i hab;subst hab;rfl
  ·exact h (.b _ _) List.mem_cons_self
 ·exact h (.b _ _) List.mem_cons_self
def oapp (x y:Option (List Eqn)):Option (List Eqn):=match x,y with
 |some a,some b=>some (a++b)
 |_,_=>none
theorem oapp_some {x y:Option (List Eqn)} {l:List Eqn} (h:oapp x y=some l): ∃a b,x=some a∧y=some b∧l=a++b:=by
 unfold oapp at h;split at h
 ·cases h;exact ⟨_,_,rfl,rfl,rfl⟩
 ·cases h
def eqOff (o q:Off):Option (List Eqn):=if o.stride=q.stride∧o.col=q.col then some (eqnE o.row q.row) else none
theorem eqOff_ok {E0:Env} {o q:Off} {l:List Eqn} (h:eqOff o q=some l) (hl: ∀q∈l,q.ok E E0):o.den E=q.den E0:=by
 unfold eqOff at h
 split at h
 ·rename_i hc;cases h;simp only [Off.den,eqnE_ok hl,hc.1,hc.2]
 ·cases h
mutual
def eqV (S:Sub):SV→SV→Option (List Eqn)
 | .int k e,.int j f=>if k=j then some (eqnE e f) else none
 | .bool a,.bool b=>some (eqnB a b)
 | .flt k n,.flt j m=>if k=j∧n=m then some [] else none
 | .str a,.str b=>if a=b then some [] else none
 | .nilptr,.nilptr=>some []
 | .ptr b o,.ptr c o2=>if fnd c S.k=some (some b) then eqOff o o2 else none
 | .nilslice,.nilslice=>some []
 | .slice b o n c,.slice b' o' n' c'=>if fnd b' S.k=some (some b) then oapp (eqOff o o') (some (eqnE n n'++eqnE c c')) else none
 | .nilmap,.nilmap=>some []
 | .map b,.map c=>if fnd c S.k=some (some b) then some [] else none
 | .nilfunc,.nilfunc=>some []
 | .func f a c,.func g b d=>if f=g then oapp (eqVL S a b) (eqVL S c d) else none
 | .nilif,.nilif=>some []
 | .ifc t v,.ifc s u=>if t=s then eqV S v u else none
 | .agg a,.agg b=>eqVL S a b
 | .tup a,.tup b=>eqVL S a b
 | .own b,.own c=>if fnd c S.k=some (some b) then some [] else none
 | .nilslice,.own c=>if fnd c S.k=some none then some [] else none
 | .pa e o,.pa e' o'=>some (eqnE e e'++eqnE o o')
 | .nilptr,.pa e' _=>some (eqnE (.c (-1)) e')
 | .sa e o l c,.sa e' o' l' c'=>some ((eqnE e e'++eqnE o o')++(eqnE l l'++eqnE c c'))
 | .nilslice,.sa e' _ _ _=>some (eqnE (.c (-1)) e')
 | .opq i,.opq j=>if i=j∧1000≤i then some [] else none
 |_,_=>none
def eqVL (S:Sub):List SV→List SV→Option (List Eqn)
 |[],[]=>some []
 |x::r,y::s=>oapp (eqV S x y) (eqVL S r s)
 |_,_=>none
end
mutual
theorem eqV_ok {S:Sub} {E0:Env} {β0:Nat→Bk} (hB:Bmap S β β0) (ho: ∀i,1000≤i→E.o i=E0.o i): ∀{v u:SV} {l:List Eqn},eqV S v u=some l→(∀q∈l,q.ok E E0)→v.den E β=u.den E0 β0
 | .int k e,.int j f,l,h,hl=>by
   simp only [eqV] at h;split at h
   ·rename_i hk;subst hk;cases h;simp only [SV.den,eqnE_ok hl]
   ·cases h
 | .bool a,.bool b,l,h,hl=>by simp only [eqV] at h;cases h;simp only [SV.den,eqnB_ok hl]
 | .flt k n,.flt j m,l,h,hl=>by
   simp only [eqV] at h;split at h
   ·rename_i hk;simp only [SV.den,hk.1,hk.2]
   ·cases h
 | .str a,.str b,l,h,hl=>by
   simp only [eqV] at h;split at h
   ·rename_i hk;simp only [SV.den,hk]
   ·cases h
 | .nilptr,.nilptr,l,h,hl| .nilslice,.nilslice,l,h,hl| .nilmap,.nilmap,l,h,hl| .nilfunc,.nilfunc,l,h,hl| .nilif,.nilif,l,h,hl=>by simp only [SV.den]
 | .ptr b o,.ptr c o2,l,h,hl=>by
   simp only [eqV] at h;split at h
   ·rename_i hk
    have:=hB c _ hk
    simp only at this
    simp only [SV.den,eqOff_ok h hl,this.a,this.o]
   ·cases h
 | .slice b o n c,.slice b' o' n' c',l,h,hl=>by
   simp only [eqV] at h;split at h
   ·rename_i hk
    have:=hB b' _ hk
    simp only at this
    obtain ⟨x,y,h1,h2,rfl⟩:=oapp_some h
    cases h2
    simp only [SV.den,eqOff_ok h1 (fun q hq=>hl q (by simp [hq])),eqnE_ok (x:=n) (y:=n') (fun q hq=>hl q (by simp [hq])),eqnE_ok (x:=c) (y:=c') (fun q hq=>hl q (by simp [hq])),this.a,this.o]
   ·cases h
 | .map b,.map c,l,h,hl=>by
   simp only [eqV] at h;split at h
   ·rename_i hk
    have:=hB c _ hk
    simp only at this
    simp only [SV.den,this.a]
   ·cases h
 | .func f a c,.func g b d,l,h,hl=>by
   simp only [eqV] at h;split at h
   ·rename_i hk
    obtain ⟨x,y,h1,h2,rfl⟩:=oapp_some h
    simp only [SV.den,hk,eqVL_ok hB ho h1 (fun q hq=>hl q (by simp [hq])),eqVL_ok hB ho h2 (fun q hq=>hl q (by simp [hq]))]
   ·cases h
 | .ifc t v,.ifc s u,l,h,hl=>by
   simp only [eqV] at h;split at h
   ·rename_i hk;simp only [SV.den,hk,eqV_ok hB ho h hl]
   ·cases h
 | .agg a,.agg b,l,h,hl=>by simp only [eqV] at h;simp only [SV.den,eqVL_ok hB ho h hl]
 | .tup a,.tup b,l,h,hl=>by simp only [eqV] at h;simp only [SV.den,eqVL_ok hB ho h hl]
 | .own b,.own c,l,h,hl=>by
   simp only [eqV] at h;split at h
   ·rename_i hk
    have:=hB c _ hk
    simp only at this
    simp only [SV.den,this.like_v]
   ·cases h
 | .nilslice,.own c,l,h,hl=>by
   simp only [eqV] at h;split at h
   ·rename_i hk
    have:=hB c _ hk
    simp only at this
    simp only [SV.den,Bk.v,this,if_true]
   ·cases h
 | .pa e o,.pa e' o',l,h,hl=>by
   simp only [eqV] at h;cases h
   simp only [SV.den,eqnE_ok fun q hq=>hl q (List.mem_append_left _ hq),eqnE_ok fun q hq=>hl q (List.mem_append_right _ hq)]
 | .nilptr,.pa e' o',l,h,hl=>by
   simp only [eqV] at h;cases h
   have:=eqnE_ok hl
   simp only [SE.den] at this
   simp only [SV.den,←this];rfl
 | .sa e o n c,.sa e' o' n' c',l,h,hl=>by
   simp only [eqV] at h;cases h
   simp only [SV.den,eqnE_ok (x:=e) (y:=e') (fun q hq=>hl q (by simp [hq])),eqnE_ok (x:=o) (y:=o') (fun q hq=>hl q (by simp [hq])),eqnE_ok (x:=n) (y:=n') (fun q hq=>hl q (by simp [hq])),eqnE_ok (x:=c) (y:=c') (fun q hq=>hl q (by simp [hq]))]
 | .nilslice,.sa e' _ _ _,l,h,hl=>by
   simp only [eqV] at h;cases h
   have:=eqnE_ok hl
   simp only [SE.den] at this
   simp only [SV.den,←this];rfl
 | .opq i,.opq j,l,h,hl=>by
   simp only [eqV] at h
   split at h
   ·rename_i hc
    obtain ⟨rfl,h2⟩:=hc
    simp only [SV.den];exact ho i h2
   ·cases h
theorem eqVL_ok {S:Sub} {E0:Env} {β0:Nat→Bk} (hB:Bmap S β β0) (ho: ∀i,1000≤i→E.o i=E0.o i): ∀{v u:List SV} {l:List Eqn},eqVL S v u=some l→(∀q∈l,q.ok E E0)→SV.denL E β v=SV.denL E0 β0 u
 |[],[],l,h,hl=>rfl
 |x::r,y::s,l,h,hl=>by
  simp only [eqVL] at h
  obtain ⟨a,b,h1,h2,rfl⟩:=oapp_some h
  simp only [SV.denL,eqV_ok hB ho h1 (fun q hq=>hl q (by simp [hq])),eqVL_ok hB ho h2 (fun q hq=>hl q (by simp [hq]))]
 |[],_::_,l,h,hl=>by simp [eqVL] at h
 |_::_,[],l,h,hl=>by simp [eqVL] at h
end
def eqBlk (S:Sub) (F:Fx) (h:List SBlk) (pat:SBlk) (x:Option Nat):Option (List Eqn):=
 match x with
 |none=>match pat with
  | .row a ks n [] T=>some (eqnE (.c 0) n)
  | .pr k (.i n _)=>if 1000≤k then some (eqnE (.c 0) n) else none
  |_=>none
 |some b=>match pat,h[b]? with
  | .any,some (.cells ..)=>some []
  | .any,some (.arr ..)=>some []
  | .any,some .any=>some []
  | .cells l T,some (.cells l' T')=>if T=T' then eqVL S l' l else none
  | .arr a ks n,some (.arr a' ks' n')=>if ks=ks' then some (.a a' a n ks.length::eqnE n' n) else none
  | .row a ks n [] T,some (.row a' ks' n' tail T')=>if ks=ks'∧T=T'∧ks.length≠0∧tail.length % ks.length=0∧(tail.isEmpty||nonneg F n')=true∧tailOk ks 0 tail=true then
     some (.a (tailA a' n' ks.length tail) a n ks.length::eqnE (rowsN n' ks.length tail) n) else none
  | .pr k l,some (.pr k' l')=>if k=k' then some [.p k l' l] else none
  |_,_=>none
theorem eqBlk_ok {F:Fx} (hF:Facts E F) {S:Sub} {E0:Env} {h:List SBlk} {pat s:SBlk} {j b:Nat} {l:List Eqn} (hj:fnd j S.k=some (some b)) (hs:h[b]?=some s) (hc:eqBlk S F h pat (some b)=some l) (hl: ∀q∈l,q.ok E E0) (ho: ∀i,1000≤i→E.o i=E0.o i):
 (SBlk.ok E β (β b) w s→SBlk.ok E0 (bsub E β h S) (bsub E β h S j) w pat∧(∀x,pat.at E0 (bsub E β h S j) x→s.at E (β b) x))∧(pat.wr (bsub E β h S j)→s.wr (β b)):=by
 have hlk:=bsub_like (E:=E) (β:=β) (h:=h) hj
 unfold eqBlk at hc
 simp only [hs] at hc
 split at hc
 all_goals try (cases hc;done)
 ·rename_i hx;cases hx;exact ⟨fun _=>⟨trivial,fun x hx=>⟨trivial,hx.2.trans hlk.a⟩⟩,fun hh=>hh.elim⟩
 ·rename_i hx;cases hx;exact ⟨fun _=>⟨trivial,fun x hx=>⟨trivial,hx.2.trans hlk.a⟩⟩,fun hh=>hh.elim⟩
 ·rename_i hx;cases hx;exact ⟨fun _=>⟨trivial,fun x hx=>⟨trivial,hx.2.trans hlk.a⟩⟩,fun hh=>hh.elim⟩
 ·rename_i l0 T l' T' hx
  cases hx
  split at hc
  ·rename_i hT
   subst hT
   have e:=eqVL_ok (E:=E) (bsub_map (E:=E) (β:=β) (h:=h) (S:=S)) ho hc hl
   refine ⟨fun hh=>⟨?_,fun x hx=>⟨trivial,hx.2.trans hlk.a⟩⟩,fun _=>trivial⟩
   simp only [SBlk.ok,hlk.o,hlk.a,←e] at hh⊢;exact hh
  ·cases hc
 ·rename_i a ks n a' ks' n' hx
  cases hx
  split at hc
  ·rename_i hk
   subst hk
   cases hc
   have hq:(bsub E β h S j).q=(β b).q:=by
    unfold bsub siteQ;rw [hj];simp only [hs]
   have e1: ∀k,k<(n.den E0).toNat*ks.length→a'.den E k=a.den E0 k:=hl (.a a' a n ks.length) List.mem_cons_self
   have e2:=eqnE_ok (E:=E) (E0:=E0) (x:=n') (y:=n) (fun q hq=>hl q (by simp [hq]))
   refine ⟨fun hh=>⟨?_,fun x hx=>⟨trivial,hx.2.trans hlk.a⟩⟩,fun hh=>hh.elim⟩
   simp only [SBlk.ok,hlk.o,hlk.a,hq] at hh⊢
   obtain ⟨cs,T,fz,h1,h2⟩:=hh
   refine ⟨cs,T,fz,h1,fun k hk=>?_⟩
   rw [h2 k (by rw [e2];exact hk),e1 k hk]
  ·cases hc
 ·rename_i a ks n T a' ks' n' tail T' hx
  cases hx
  split at hc
  ·rename_i hcc
   obtain ⟨h1,h2,h3,h4,h5,h6⟩:=hcc
   subst h1;subst h2
   cases hc
   have hq:(bsub E β h S j).q=rowQ E β (β b).q n' ks.length tail:=by
    unfold bsub siteQ;rw [hj];simp only [hs]
   have e1: ∀k,k<(n.den E0).toNat*ks.length→(tailA a' n' ks.length tail).den E k=a.den E0 k:=hl (.a (tailA a' n' ks.length tail) a n ks.length) List.mem_cons_self
   have e2:=eqnE_ok (E:=E) (E0:=E0) (x:=rowsN n' ks.length tail) (y:=n) (fun q hq=>hl q (by simp [hq]))
   have hn:tail=[]∨0≤n'.den E:=by
    rw [Bool.or_eq_true] at h5
    rcases h5 with h|h
    ·left;cases tail<;>simp_all
    ·right;exact nonneg_ok hF h
   obtain ⟨m,hm⟩: ∃m,tail.length=m*ks.length:=⟨tail.length/ks.length,by rw [Nat.div_mul_cancel (Nat.dvd_of_mod_eq_zero h4)]⟩
   have hnn:(n.den E0).toNat=(n'.den E).toNat+m:=by rw [←e2];exact rowsN_den h3 hm hn
   have hcells:rowCells E0 (bsub E β h S) (bsub E β h S j).q a ks (n.den E0).toNat []=rowCells E β (β b).q a' ks (n'.den E).toNat tail:=by
    rw [rowCells_norm hm hn h6,hq]
    simp only [rowCells,SV.denL,List.append_nil]
    rw [←hnn]
    apply List.map_congr_left
    intro k hk
    rw [e1 k (List.mem_range.1 hk)]
   refine ⟨fun hh=>⟨?_,fun x hh=>⟨?_,hh.2.trans hlk.a⟩⟩,fun hh=>?_⟩
   ·obtain ⟨h0,m',hm',hh⟩:=hh
    have:m'=m:=Nat.eq_of_mul_eq_mul_right (Nat.pos_of_ne_zero h3) (hm'.symm.trans hm)
    subst this
    refine ⟨by rw [hlk.o];exact h0,0,by simp,?_⟩
    rw [hcells,hlk.like_v,hnn];exact hh
   ·have:=hh.1;simp only [SBlk.real,hlk.z] at this⊢;exact this
   ·simp only [SBlk.wr,hlk.z] at hh⊢;exact hh
  ·cases hc
 ·rename_i k l0 k' l' hx
  cases hx
  split at hc
  ·rename_i hk
   subst hk
   cases hc
   have e:=hl (.p k l' l0) List.mem_cons_self
   refine ⟨fun hh=>?_,fun _=>trivial⟩
   simp only [SBlk.ok,SBlk.at,hlk.o,hlk.a,hlk.like_v] at hh⊢
   obtain ⟨e1,e2⟩:=e _ _ _ hh
   exact ⟨e1,e2⟩
  ·cases hc
def eqHeapGo (S:Sub) (F:Fx) (h:List SBlk):List (SBlk×Nat)→Option (List Eqn)
 |[]=>some []
 |(p,j)::r=>match fnd j S.k with
  |some x=>if isDead p then eqHeapGo S F h r else oapp (eqBlk S F h p x) (eqHeapGo S F h r)
  |none=>if isDead p then eqHeapGo S F h r else none
theorem eqHeapGo_ok {S:Sub} {F:Fx} {h:List SBlk} {E0:Env}: ∀{l:List (SBlk×Nat)} {es:List Eqn},eqHeapGo S F h l=some es→(∀q∈es,q.ok E E0)→ ∀p j,(p,j)∈l→isDead p=true∨ ∃x e,fnd j S.k=some x∧eqBlk S F h p x=some e∧ ∀q∈e,q.ok E E0
 |[],es,h,hq,p,j,hm=>by cases hm
 |(p',j')::r,es,h,hq,p,j,hm=>by
  simp only [eqHeapGo] at h
  simp only [List.mem_cons,Prod.mk.injEq] at hm
  split at h
  ·rename_i x hx
   split at h
   ·rename_i hd
    rcases hm with ⟨rfl,rfl⟩|hm
    ·exact .inl hd
    ·exact eqHeapGo_ok h hq p j hm
   ·obtain ⟨a,b,h1,h2,rfl⟩:=oapp_some h
    rcases hm with ⟨rfl,rfl⟩|hm
    ·exact .inr ⟨x,a,hx,h1,fun q hh=>hq q (by simp [hh])⟩
    ·exact eqHeapGo_ok h2 (fun q hh=>hq q (by simp [hh])) p j hm
  ·split at h
   ·rename_i hd
    rcases hm with ⟨rfl,rfl⟩|hm
    ·exact .inl hd
    ·exact eqHeapGo_ok h hq p j hm
   ·cases h
end Go.Sy
end
end
