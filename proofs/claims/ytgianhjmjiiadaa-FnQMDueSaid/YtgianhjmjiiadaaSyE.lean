/- Struct and array values, indexes, slices, assertions; then all pure operations in one. -/
import Derived.Test.YtgianhjmjiiadaaSyA
section
section
set_option autoImplicit true
set_option relaxedAutoImplicit true
set_option linter.unusedVariables false
set_option linter.unusedSimpArgs false
namespace Go.Sy
open Go
variable {E:Env} {β:Nat→Bk} {P:Program} {w:World}
def SV.cells:SV→Option (List SV)
 | .agg l=>some l
 | .opq _=>none
 | .q _ _=>none
 |v=>some [v]
theorem cells_ok {v:SV} {l:List SV} (h:v.cells=some l):(v.den E β).cells=(SV.denL E β l).toArray:=by
 cases v<;>simp [SV.cells] at h<;>subst h<;>simp [SV.den,SV.denL,Value.cells]
 case own b=>cases hz:(β b).z<;>simp [Bk.v,hz]
 case pa e o=>by_cases h:0≤e.den E<;>simp [h]
 case sa e o l c=>by_cases h:0≤e.den E<;>simp [h]
theorem denL_length (l:List SV):(SV.denL E β l).length=l.length:=by rw [SV.denL_map];simp
theorem denL_set (l:List SV) (i:Nat) (v:SV):SV.denL E β (l.set i v)=(SV.denL E β l).set i (v.den E β):=by
 rw [SV.denL_map,SV.denL_map,List.map_set]
def putAll (off:Nat):List SV→Nat→List SV→List SV
 |cs,_,[]=>cs
 |cs,j,v::r=>putAll off (cs.set (off+j) v) (j+1) r
theorem putAll_ok (off:Nat): ∀(vs cs:List SV) (j:Nat),
 ((SV.denL E β vs).zipIdx j).foldl (fun (a:Array Value) (x:Value×Nat)=>a.setIfInBounds (off+x.2) x.1) (SV.denL E β cs).toArray=(SV.denL E β (putAll off cs j vs)).toArray
 |[],cs,j=>by simp [SV.denL,putAll]
 |v::r,cs,j=>by
  simp only [SV.denL,List.zipIdx_cons,List.foldl_cons,putAll]
  rw [←putAll_ok off r (cs.set (off+j) v) (j+1),denL_set]
  simp
theorem putAll_length (off:Nat): ∀(vs cs:List SV) (j:Nat),(putAll off cs j vs).length=cs.length
 |[],cs,j=>rfl
 |v::r,cs,j=>by simp [putAll,putAll_length off r]
def sFill (place:Nat→Option (Nat×Nat)) (cells:List SV):List (Nat×SV)→Option (List SV)
 |[]=>some cells
 |(i,v)::rest=>
  match place i,v.cells with
  |some (off,size),some l=>if l.length≠size∨cells.length<off+l.length then none else sFill place (putAll off cells 0 l) rest
  |_,_=>none
theorem sFill_ok {place:Nat→Option (Nat×Nat)}: ∀{parts:List (Nat×SV)} {cells out:List SV},sFill place cells parts=some out→
 Instr.fill place (SV.denL E β cells).toArray (parts.map fun p=>(p.1,p.2.den E β))=some (SV.denL E β out).toArray
 |[],cells,out,h=>by simp [sFill] at h;subst h;rfl
 |(i,v)::rest,cells,out,h=>by
  simp only [sFill] at h
  split at h
  ·rename_i off size l hp hl
   split at h
   ·cases h
   ·rename_i hc
    have hc':l.length=size∧off+l.length≤cells.length:=by omega
    simp only [List.map_cons,Instr.fill,hp,cells_ok hl]
    have h1: ¬ ((decide ((SV.denL E β l).toArray.size≠size)||decide (off+(SV.denL E β l).toArray.size>(SV.denL E β cells).toArray.size))=true):=by
     simp only [List.size_toArray,denL_length,Bool.or_eq_true,decide_eq_true_eq];omega
    rw [if_neg h1]
    have h2:Array.foldl (fun (cs:Array Value) (x:Value×Nat)=>match x with|(c,j)=>cs.setIfInBounds (off+j) c) (SV.denL E β cells).toArray (SV.denL E β l).toArray.zipIdx=(SV.denL E β (putAll off cells 0 l)).toArray:=by
     rw [←putAll_ok,←Array.foldl_toList]
     simp
    rw [h2]
    exact sFill_ok h
  ·cases h
def sZero (P:Program) (T:TypeId):Option (List SV):=
 match P.info? T with
 |some i=>match i.zero with
  |some z=>liftL z.cells.toList
  |none=>none
 |none=>none
theorem sZero_ok {T:TypeId} {l:List SV} (h:sZero P T=some l): ∃z,(zeroValue T).run P w= .ok z w∧z.cells=(SV.denL E β l).toArray:=by
 unfold sZero at h
 split at h
 ·rename_i i hi
  split at h
  ·rename_i z hz
   exact ⟨z,by simp [zeroValue,typeInfo,hi,hz],by rw [liftL_ok h]⟩
  ·cases h
 ·cases h
def sPlaces (P:Program) (fs:List Field):Option (List (Nat×Nat)):=
 match fs with
 |[]=>some []
 |f::r=>match sizeT P f.type,sPlaces P r with
  |some n,some l=>some ((f.offset,n)::l)
  |_,_=>none
theorem sPlaces_ok: ∀{fs:List Field} {l:List (Nat×Nat)},sPlaces P fs=some l→
 (List.mapM (fun (f:Field)=>(do pure (f.offset,←sizeOf f.type):Sem (Nat×Nat))) fs).run P w= .ok l w
 |[],l,h=>by simp [sPlaces] at h;subst h;simp
 |f::r,l,h=>by
  simp only [sPlaces] at h
  split at h
  ·rename_i n t hn ht
   cases h
   rw [List.mapM_cons]
   have ih:=sPlaces_ok ht
   simp only [bind_pure_comp] at ih
   simp [sizeT_ok hn,ih]
  ·cases h
def evParts (gm:Gm) (tmps:Tm):List (Nat×Operand)→Option (List (Nat×SV))
 |[]=>some []
 |(i,x)::r=>match ev gm tmps x,evParts gm tmps r with
  |some v,some l=>some ((i,v)::l)
  |_,_=>none
theorem evParts_ok {gm:Gm} (hg:gm.ok β) {tmps:Tm} {ds:List Deferred}: ∀{ps:List (Nat×Operand)} {l:List (Nat×SV)},evParts gm tmps ps=some l→
 ps.map (fun p=>(p.1,(actD E β tmps ds).eval p.2))=l.map fun p=>(p.1,p.2.den E β)
 |[],l,h=>by simp [evParts] at h;subst h;rfl
 |(i,x)::r,l,h=>by
  simp only [evParts] at h
  split at h
  ·rename_i v t hv ht
   cases h
   simp only [List.map_cons,ev_ok hg hv,evParts_ok hg ht]
  ·cases h
def sBuild (P:Program) (T:TypeId) (parts:List (Nat×SV)):RP:=
 match P.underlying T,sZero P T with
 |some (.struct fs),some z=>match sPlaces P fs.toList with
  |some pl=>match sFill (pl[·]?) z parts with
   |some out=> .val (.agg out)
   |none=> .no
  |none=> .no
 |some (.array _ e),some z=>match sizeT P e with
  |some n=>match sFill (fun i=>some (i*n,n)) z parts with
   |some out=> .val (.agg out)
   |none=> .no
  |none=> .no
 |_,_=> .no
theorem sBuild_ok {T:TypeId} {parts:List (Nat×SV)} {v:SV} (hr:sBuild P T parts= .val v) {ps:Array (Nat×Value)} (hp:ps.toList=parts.map fun p=>(p.1,p.2.den E β)):
 (Instr.build T ps).run P w= .ok (v.den E β) w:=by
 unfold sBuild at hr
 split at hr
 ·rename_i fs z hd hz
  split at hr
  ·rename_i pl hpl
   split at hr
   ·rename_i out hout
    cases hr
    obtain ⟨zv,hz1,hz2⟩:=sZero_ok (E:=E) (β:=β) (w:=w) hz
    have hm:(Array.mapM (fun (f:Field)=>(do pure (f.offset,←sizeOf f.type):Sem (Nat×Nat))) fs).run P w= .ok pl.toArray w:=by
     rw [Array.mapM_eq_mapM_toList,Sem.run_map,sPlaces_ok hpl];rfl
    simp only [Instr.build,Sem.run_bind,hz1,Result.andThen_ok,underlying,run_program,hd,Sem.run_pure]
    rw [hm]
    simp only [Result.andThen_ok,hz2,hp]
    have hpl':(fun (x:Nat)=>pl.toArray[x]?)=(fun x=>pl[x]?):=by funext x;simp
    rw [hpl',sFill_ok hout]
    rfl
   ·cases hr
  ·cases hr
 ·rename_i n e z hd hz
  split at hr
  ·rename_i sz hsz
   split at hr
   ·rename_i out hout
    cases hr
    obtain ⟨zv,hz1,hz2⟩:=sZero_ok (E:=E) (β:=β) (w:=w) hz
    simp only [Instr.build,Sem.run_bind,hz1,Result.andThen_ok,underlying,run_program,hd,Sem.run_pure,sizeT_ok hsz,hz2,hp]
    rw [sFill_ok hout]
    rfl
   ·cases hr
  ·cases hr
 ·cases hr
end Go.Sy
end
section
set_option autoImplicit true
set_option relaxedAutoImplicit true
set_option linter.unusedVariables false
set_option linter.unusedSimpArgs false
namespace Go.Sy
open Go
variable {E:Env} {β:Nat→Bk} {P:Program} {w:World}
def constRow (o:Off):Option Nat:=
 match o.row with
 | .c r=>some (r.toNat*o.stride+o.col)
 |_=>none
theorem constRow_ok {o:Off} {p:Nat} (h:constRow o=some p):o.den E=p:=by
 unfold constRow at h
 split at h
 ·rename_i r hr;cases h;simp [Off.den,hr,SE.den]
 ·cases h
def offAdd (F:Fx) (o:Off) (i:SE) (sz:Nat):Option Off:=
 match constRow o with
 |some p=>some ⟨i,sz,p⟩
 |none=>if o.stride=sz&&nonneg F o.row then some { o with row:= .mkAdd o.row i } else none
theorem offAdd_ok {F:Fx} (hF:Facts E F) {o q:Off} {i:SE} {sz:Nat} (h:offAdd F o i sz=some q) (hi:0≤i.den E):q.den E=o.den E+(i.den E).toNat*sz:=by
 unfold offAdd at h
 split at h
 ·rename_i p hp;cases h;rw [constRow_ok hp];simp [Off.den];omega
 ·split at h
  ·rename_i hc
   simp only [Bool.and_eq_true,decide_eq_true_eq] at hc
   cases h
   have hn:=nonneg_ok hF hc.2
   simp only [Off.den,SE.den_mkAdd,←hc.1]
   rw [Int.toNat_add hn hi,Nat.add_mul];omega
  ·cases h
def sIndexAddr (P:Program) (F:Fx) (T:TypeId) (x ix:SV):RP:=
 match P.underlying T,x,ix with
 |some (.array n e),.ptr b o,.int _ i=>
  match sizeT P e with
  |some sz=>onB F (.mkLe (.c 0) i) (onB F (.mkLt i (.c n)) (match offAdd F o i sz with|some q=> .val (.ptr b q)|none=> .no) .dead) .dead
  |none=> .no
 |some (.slice e),.slice b o len _,.int _ i=>
  match sizeT P e with
  |some sz=>onB F (.mkLe (.c 0) i) (onB F (.mkLt i len) (match offAdd F o i sz with|some q=> .val (.ptr b q)|none=> .no) .dead) .dead
  |none=> .no
 |some (.slice _),.nilslice,.int _ _=> .dead
 |_,_,_=> .no
theorem sIndexAddr_ok {F:Fx} (hF:Facts E F) {T:TypeId} {x ix v:SV} (hr:sIndexAddr P F T x ix= .val v):
 (Instr.indexAt T (x.den E β) (ix.den E β)).run P w= .ok (v.den E β) w:=by
 unfold sIndexAddr at hr
 split at hr
 ·rename_i n e b o k i hd
  split at hr
  ·rename_i sz hsz
   rcases onB_val hF hr with ⟨h0,hr⟩|⟨_,hr⟩
   ·rcases onB_val hF hr with ⟨h1,hr⟩|⟨_,hr⟩
    ·rw [SB.den_mkLe] at h0;rw [SB.den_mkLt] at h1
     have h0:(0:Int)≤i.den E:=of_decide_eq_true h0
     have h1:i.den E<(n:Int):=of_decide_eq_true h1
     split at hr
     ·rename_i q hq
      cases hr
      simp only [Instr.indexAt,SV.den,asIntOf,Sem.run_bind,Sem.run_pure,Result.andThen_ok,underlying,run_program,hd,Instr.sureAddr]
      simp [h0,h1,sizeT_ok hsz,addr_add,offAdd_ok hF hq h0,Nat.add_assoc]
     ·cases hr
    ·cases hr
   ·cases hr
  ·cases hr
 ·rename_i e b o len cap k i hd
  split at hr
  ·rename_i sz hsz
   rcases onB_val hF hr with ⟨h0,hr⟩|⟨_,hr⟩
   ·rcases onB_val hF hr with ⟨h1,hr⟩|⟨_,hr⟩
    ·rw [SB.den_mkLe] at h0;rw [SB.den_mkLt] at h1
     have h0:(0:Int)≤i.den E:=of_decide_eq_true h0
     have h1:i.den E<len.den E:=of_decide_eq_true h1
     have h2:i.den E<((len.den E).toNat:Int):=by omega
     split at hr
     ·rename_i q hq
      cases hr
      simp only [Instr.indexAt,SV.den,asIntOf,Sem.run_bind,Sem.run_pure,Result.andThen_ok,underlying,run_program,hd]
      simp only [h0,h2,and_self,if_true,Sem.run_bind,sizeT_ok hsz,Result.andThen_ok,Sem.run_pure,addr_add,offAdd_ok hF hq h0,Nat.add_assoc]
     ·cases hr
    ·cases hr
   ·cases hr
  ·cases hr
 ·cases hr
 ·cases hr
def sIndex (P:Program) (T:TypeId) (x ix:SV):RP:=
 match P.underlying T,x,ix with
 |some (.array n e),.agg l,.int _ (.c i)=>
  match sizeT P e with
  |some sz=>if 0≤i∧i<n then sPart P e l (i.toNat*sz) else .dead
  |none=> .no
 |_,_,_=> .no
theorem sIndex_ok {T:TypeId} {x ix v:SV} (hr:sIndex P T x ix= .val v):
 (Instr.index T (x.den E β) (ix.den E β)).run P w= .ok (v.den E β) w:=by
 unfold sIndex at hr
 split at hr
 ·rename_i n e l k i hd
  split at hr
  ·rename_i sz hsz
   split at hr
   ·rename_i hb
    simp only [Instr.index,SV.den,SE.den,asIntOf,Sem.run_bind,Sem.run_pure,Result.andThen_ok,underlying,run_program,hd]
    rw [if_pos hb]
    simp only [Sem.run_bind,sizeT_ok hsz,Result.andThen_ok]
    exact sPart_ok hr
   ·cases hr
  ·cases hr
 ·cases hr
theorem sliceBound_ok {k:IntKind} {i:Int} {y:Nat} {code:BoundsCode} (h0:0≤i) (h1:i≤y):(Instr.sliceBound (.int k i) y code).run P w= .ok i.toNat w:=by
 simp [Instr.sliceBound,asIntOf,h0,h1]
theorem cut_off {cap l:Int} (h:0≤l) (a sz:Nat):(if cap.toNat=l.toNat then a else a+l.toNat*sz)=a+(ini cap l).toNat*sz:=by
 unfold ini
 by_cases h1:cap=l
 ·simp [h1]
 ·rw [if_neg h1]
  split
  ·rename_i h2
   have:l.toNat=0:=by omega
   simp [this]
  ·rfl
theorem ini_nonneg {cap l:Int} (h:0≤l):0≤ini cap l:=by unfold ini;split<;>omega
def inRange (F:Fx) (lo hi:Option SV) (len cap:SE) (k:SE→SE→RP):RP:=
 match lo,hi with
 |none,none=>k (.c 0) len
 |some (.int _ l),none=>onB F (.mkLe (.c 0) l) (onB F (.mkLe l len) (k l len) .dead) .dead
 |none,some (.int _ h)=>onB F (.mkLe (.c 0) h) (onB F (.mkLe h cap) (k (.c 0) h) .dead) .dead
 |some (.int _ l),some (.int _ h)=>onB F (.mkLe (.c 0) h) (onB F (.mkLe h cap) (onB F (.mkLe (.c 0) l) (onB F (.mkLe l h) (k l h) .dead) .dead) .dead) .dead
 |_,_=> .no
def denO (E:Env) (β:Nat→Bk) (x:Option SV):Option Value:=x.map (SV.den E β)
theorem inRange_ok {F:Fx} (hF:Facts E F) {lo hi:Option SV} {len cap:SE} {k:SE→SE→RP} {v:SV} (hr:inRange F lo hi len cap k= .val v) (isSlice:Bool):
 ∃l h:SE,k l h= .val v∧0≤l.den E∧
  (Instr.sliceBounds isSlice (len.den E).toNat (cap.den E).toNat (denO E β lo) (denO E β hi) none).run P w= .ok ((l.den E).toNat,(h.den E).toNat,(cap.den E).toNat) w:=by
 unfold inRange at hr
 split at hr
 ·exact ⟨_,_,hr,by simp [SE.den],by simp [denO,Instr.sliceBounds,SE.den]⟩
 ·rename_i kk l
  rcases onB_val hF hr with ⟨h0,hr⟩|⟨_,hr⟩
  ·rcases onB_val hF hr with ⟨h1,hr⟩|⟨_,hr⟩
   ·rw [SB.den_mkLe] at h0 h1
    have h0:(0:Int)≤l.den E:=of_decide_eq_true h0
    have h1:l.den E≤len.den E:=of_decide_eq_true h1
    exact ⟨_,_,hr,h0,by simp [denO,SV.den,Instr.sliceBounds,sliceBound_ok h0 (show l.den E≤((len.den E).toNat:Int) by omega)]⟩
   ·cases hr
  ·cases hr
 ·rename_i kk h
  rcases onB_val hF hr with ⟨h0,hr⟩|⟨_,hr⟩
  ·rcases onB_val hF hr with ⟨h1,hr⟩|⟨_,hr⟩
   ·rw [SB.den_mkLe] at h0 h1
    have h0:(0:Int)≤h.den E:=of_decide_eq_true h0
    have h1:h.den E≤cap.den E:=of_decide_eq_true h1
    exact ⟨_,_,hr,by simp [SE.den],by simp [denO,SV.den,Instr.sliceBounds,sliceBound_ok h0 (show h.den E≤((cap.den E).toNat:Int) by omega),SE.den]⟩
   ·cases hr
  ·cases hr
 ·rename_i kk l kh h
  rcases onB_val hF hr with ⟨h0,hr⟩|⟨_,hr⟩
  ·rcases onB_val hF hr with ⟨h1,hr⟩|⟨_,hr⟩
   ·rcases onB_val hF hr with ⟨h2,hr⟩|⟨_,hr⟩
    ·rcases onB_val hF hr with ⟨h3,hr⟩|⟨_,hr⟩
     ·rw [SB.den_mkLe] at h0 h1 h2 h3
      have h0:(0:Int)≤h.den E:=of_decide_eq_true h0
      have h1:h.den E≤cap.den E:=of_decide_eq_true h1
      have h2:(0:Int)≤l.den E:=of_decide_eq_true h2
      have h3:l.den E≤h.den E:=of_decide_eq_true h3
      exact ⟨_,_,hr,h2,by simp [denO,SV.den,Instr.sliceBounds,sliceBound_ok h0 (show h.den E≤((cap.den E).toNat:Int) by omega),sliceBound_ok h2 (show l.den E≤((h.den E).toNat:Int) by omega)]⟩
     ·cases hr
    ·cases hr
   ·cases hr
  ·cases hr
 ·cases hr
def sSlice (P:Program) (F:Fx) (T:TypeId) (x:SV) (lo hi:Option SV):RP:=
 match P.underlying T,x with
 |some (.array n e),.ptr b o=>
  match sizeT P e with
  |some sz=>inRange F lo hi (.c n) (.c n) fun l h=>
    match offAdd F o (.mkNi (.c n) l) sz with
    |some q=> .val (.slice b q (.mkSub h l) (.mkSub (.c n) l))
    |none=> .no
  |none=> .no
 |some (.slice e),.slice b o len cap=>
  match sizeT P e with
  |some sz=>inRange F lo hi len cap fun l h=>
    match (if l= .c 0 then some o else offAdd F o (.mkNi cap l) sz) with
    |some q=> .val (.slice b q (.mkSub h l) (.mkSub cap l))
    |none=> .no
  |none=> .no
 |some (.slice e),.nilslice=>
  match sizeT P e with
  |some _=>match lo,hi with
   |none,none=> .val .nilslice
   |some (.int _ (.c 0)),none=> .val .nilslice
   |none,some (.int _ (.c 0))=> .val .nilslice
   |some (.int _ (.c 0)),some (.int _ (.c 0))=> .val .nilslice
   |_,_=> .no
  |none=> .no
 |_,_=> .no
theorem toNat_sub' {a b:Int} (h:0≤b):a.toNat - b.toNat=(a - b).toNat:=by omega
theorem sSlice_ok {F:Fx} (hF:Facts E F) {T:TypeId} {x v:SV} {lo hi:Option SV} (hr:sSlice P F T x lo hi= .val v):
 (Instr.sliceAt T (x.den E β) (denO E β lo) (denO E β hi) none).run P w= .ok (v.den E β) w:=by
 unfold sSlice at hr
 split at hr
 ·rename_i n e b o hd
  split at hr
  ·rename_i sz hsz
   obtain ⟨l,h,hr,hl0,hb⟩:=inRange_ok (β:=β) (P:=P) (w:=w) hF hr false
   split at hr
   ·rename_i q hq
    cases hr
    simp only [SE.den,Int.toNat_natCast] at hb
    have hni:0≤(SE.mkNi (.c n) l).den E:=by rw [SE.den_mkNi];exact ini_nonneg hl0
    simp only [Instr.sliceAt,underlying,Sem.run_bind,run_program,Result.andThen_ok,hd,Sem.run_pure,SV.den,Instr.sureAddr,hb,sizeT_ok hsz,offAdd_ok hF hq hni,SE.den_mkSub,SE.den,SE.den_mkNi]
    rw [←toNat_sub' hl0,←toNat_sub' hl0,Int.toNat_natCast,←cut_off hl0]
    simp only [Int.toNat_natCast,addr_add,Nat.add_assoc]
    split<;>rfl
   ·cases hr
  ·cases hr
 ·rename_i e b o len cap hd
  split at hr
  ·rename_i sz hsz
   obtain ⟨l,h,hr,hl0,hb⟩:=inRange_ok (β:=β) (P:=P) (w:=w) hF hr true
   split at hr
   ·rename_i q hq
    cases hr
    have hoff:q.den E=o.den E+(ini (cap.den E) (l.den E)).toNat*sz:=by
     split at hq
     ·rename_i hl;cases hq;subst hl
      have h00:ini (cap.den E) 0=0:=by unfold ini;split<;>rfl
      simp [SE.den,h00]
     ·rw [offAdd_ok hF hq (by rw [SE.den_mkNi];exact ini_nonneg hl0),SE.den_mkNi]
    simp only [Instr.sliceAt,underlying,Sem.run_bind,run_program,Result.andThen_ok,hd,Sem.run_pure,SV.den,Instr.slice,hb,sizeT_ok hsz,hoff,SE.den_mkSub]
    rw [←toNat_sub' hl0,←toNat_sub' hl0,←cut_off hl0]
    simp only [Option.map_some,addr_add,Nat.add_assoc]
    split<;>rfl
   ·cases hr
  ·cases hr
 ·rename_i e hd
  have hz: ∀k c,(Instr.sliceBound (.int k 0) 0 c).run P w= .ok 0 w:=fun k c=>by simp [Instr.sliceBound,asIntOf]
  split at hr
  ·rename_i sz hsz
   split at hr<;>first
    |(cases hr;simp [Instr.sliceAt,underlying,hd,SV.den,SE.den,Instr.slice,denO,Instr.sliceBounds,sizeT_ok hsz,hz];done)
    |(cases hr;done)
  ·cases hr
 ·cases hr
def sAssert (P:Program) (x:SV) (asserted:TypeId) (commaOk:Bool):RP:=
 match P.underlying asserted,x with
 |some (.interface want),.ifc t v=>
  match P.info? t with
  |some i=>match Instr.missingMethod want i.methods with
   |none=> .val (if commaOk then .tup [.ifc t v,.bool (.c true)] else .ifc t v)
   |some _=>if commaOk then match (P.info? asserted).bind (·.zero) with
     |some z=>match lift z with
      |some s=> .val (.tup [s,.bool (.c false)])
      |none=> .no
     |none=> .no
    else .dead
  |none=> .no
 |some _,.nilif=>if commaOk then match (P.info? asserted).bind (·.zero) with
        |some z=>match lift z with
         |some s=> .val (.tup [s,.bool (.c false)])
         |none=> .no
        |none=> .no
   else .dead
 |some _,.ifc t v=>
  if t=asserted then .val (if commaOk then .tup [v,.bool (.c true)] else v)
  else if commaOk then match (P.info? asserted).bind (·.zero) with
        |some z=>match lift z with
         |some s=> .val (.tup [s,.bool (.c false)])
         |none=> .no
        |none=> .no
   else .dead
 |_,_=> .no
theorem zero_ok {T:TypeId} {z:Value} (h:(P.info? T).bind (·.zero)=some z):(zeroValue T).run P w= .ok z w:=by
 rw [Option.bind_eq_some_iff] at h
 obtain ⟨i,hi,hz⟩:=h
 simp [zeroValue,typeInfo,hi,hz]
theorem sAssert_ok {x v:SV} {xT asserted:TypeId} {ok:Bool} (hr:sAssert P x asserted ok= .val v):
 (Instr.typeAssert (x.den E β) xT asserted ok).run P w= .ok (v.den E β) w:=by
 unfold sAssert at hr
 split at hr
 ·rename_i want t u hd
  split at hr
  ·rename_i i hi
   split at hr
   ·rename_i hm
    cases hr
    simp only [Instr.typeAssert,underlying,Sem.run_bind,run_program,Result.andThen_ok,hd,Sem.run_pure,SV.den,typeInfo,hi,hm]
    cases ok<;>simp [SV.den,SV.denL,SB.den]
   ·rename_i m hm
    split at hr
    ·rename_i hk
     split at hr
     ·rename_i z hz
      split at hr
      ·rename_i s hs
       cases hr
       simp only [Instr.typeAssert,underlying,Sem.run_bind,run_program,Result.andThen_ok,hd,Sem.run_pure,SV.den,typeInfo,hi,hm,hk,if_true,zero_ok hz]
       simp [SV.denL,SV.den,SB.den,lift_ok hs]
      ·cases hr
     ·cases hr
    ·cases hr
  ·cases hr
 ·rename_i d hd
  split at hr
  ·rename_i hk
   split at hr
   ·rename_i z hz
    split at hr
    ·rename_i s hs
     cases hr
     simp only [Instr.typeAssert,underlying,Sem.run_bind,run_program,Result.andThen_ok,hd,Sem.run_pure,SV.den,hk,if_true]
     cases d<;>simp [zero_ok hz,SV.denL,SV.den,SB.den,lift_ok hs]
    ·cases hr
   ·cases hr
  ·cases hr
 ·rename_i d t u hn hd
  split at hr
  ·rename_i ht
   cases hr
   simp only [Instr.typeAssert,underlying,Sem.run_bind,run_program,Result.andThen_ok,hd,Sem.run_pure,SV.den,ht]
   cases d<;>cases ok<;>simp_all [SV.denL,SV.den,SB.den]
  ·rename_i ht
   split at hr
   ·rename_i hk
    split at hr
    ·rename_i z hz
     split at hr
     ·rename_i s hs
      cases hr
      simp only [Instr.typeAssert,underlying,Sem.run_bind,run_program,Result.andThen_ok,hd,Sem.run_pure,SV.den,hk,if_true]
      cases d<;>simp_all [zero_ok hz,SV.denL,SV.den,SB.den,lift_ok hs]
     ·cases hr
    ·cases hr
   ·cases hr
 ·cases hr
def sExtract (x:SV) (i:Nat):RP:=
 match x with
 | .tup l=>match l[i]? with
   |some v=> .val v
   |none=> .no
 |_=> .no
theorem sExtract_ok {x v:SV} {i:Nat} (hr:sExtract x i= .val v):(Instr.extract (x.den E β) i).run P w= .ok (v.den E β) w:=by
 unfold sExtract at hr
 split at hr
 ·split at hr
  ·rename_i u hu
   cases hr
   simp only [Instr.extract,SV.den,denL_get hu,Sem.run_pure]
  ·cases hr
 ·cases hr
def minAll (k:IntKind):SE→List SV→Option SE
 |a,[]=>some a
 |a,.int _ b::r=>minAll k (.mkMn a b) r
 |_,_=>none
def maxAll (k:IntKind):SE→List SV→Option SE
 |a,[]=>some a
 |a,.int _ b::r=>maxAll k (.mkMx a b) r
 |_,_=>none
theorem minAll_ok (k:IntKind): ∀{l:List SV} {a r:SE},minAll k a l=some r→(List.foldlM Builtin.min2 (Value.int k (a.den E)) (SV.denL E β l)).run P w= .ok (.int k (r.den E)) w
 |[],a,r,h=>by simp [minAll] at h;subst h;simp [SV.denL]
 |v::t,a,r,h=>by
  unfold minAll at h
  split at h
  ·rename_i h1;cases h1
  ·rename_i h1;cases h1
   have ih:=minAll_ok k h
   simp only [SV.denL,SV.den,List.foldlM_cons,Sem.run_bind,Builtin.min2,Sem.run_pure,Result.andThen_ok]
   rw [SE.den_mkMn] at ih
   exact ih
  ·cases h
theorem maxAll_ok (k:IntKind): ∀{l:List SV} {a r:SE},maxAll k a l=some r→(List.foldlM Builtin.max2 (Value.int k (a.den E)) (SV.denL E β l)).run P w= .ok (.int k (r.den E)) w
 |[],a,r,h=>by simp [maxAll] at h;subst h;simp [SV.denL]
 |v::t,a,r,h=>by
  unfold maxAll at h
  split at h
  ·rename_i h1;cases h1
  ·rename_i h1;cases h1
   have ih:=maxAll_ok k h
   simp only [SV.denL,SV.den,List.foldlM_cons,Sem.run_bind,Builtin.max2,Sem.run_pure,Result.andThen_ok]
   rw [SE.den_mkMx] at ih
   exact ih
  ·cases h
def sBuiltin (P:Program) (F:Fx) (b:Builtin) (argTypes:List TypeId) (args:List SV):RP:=
 match b,argTypes,args with
 | .len,t::_,x::_=>
   match P.underlying t,x with
   |some (.slice _),.slice _ _ n _=> .val (.int .i64 (nn F n))
   |some (.slice _),.nilslice=> .val (.int .i64 (.c 0))
   |some .string,.str l=> .val (.int .i64 (.c l.length))
   |some (.array n _),_=> .val (.int .i64 (.c n))
   |some (.map _ _),.nilmap=> .val (.int .i64 (.c 0))
   |_,_=> .no
 | .cap,t::_,x::_=>
   match P.underlying t,x with
   |some (.slice _),.slice _ _ _ n=> .val (.int .i64 (nn F n))
   |some (.slice _),.nilslice=> .val (.int .i64 (.c 0))
   |some (.array n _),_=> .val (.int .i64 (.c n))
   |_,_=> .no
 | .min,_,.int k a::r=>match minAll k a r with|some e=> .val (.int k e)|none=> .no
 | .max,_,.int k a::r=>match maxAll k a r with|some e=> .val (.int k e)|none=> .no
 |_,_,_=> .no
theorem bsize (l:List UInt8):(ByteArray.mk l.toArray).size=l.length:=List.size_toArray
theorem sBuiltin_ok {F:Fx} (hF:Facts E F) {b:Builtin} {argTypes:Array TypeId} {T:TypeId} {consts:Array Bool} {args:List SV} {v:SV} (hr:sBuiltin P F b argTypes.toList args= .val v):
 (builtin b argTypes T consts (SV.denL E β args).toArray).run P w= .ok (.value (v.den E β)) w:=by
 obtain ⟨argTypes⟩:=argTypes
 simp only at hr
 unfold sBuiltin at hr
 split at hr
 ·rename_i t ts x xs
  split at hr
  ·rename_i e bb o n c hd
   cases hr
   simp [builtin,Builtin.len_,SV.denL,SV.den,underlying,hd,goInt,nn_ok hF]
  ·rename_i e hd;cases hr;simp [builtin,Builtin.len_,SV.denL,SV.den,underlying,hd,goInt,SE.den]
  ·rename_i l hd;cases hr;simp [builtin,Builtin.len_,SV.denL,SV.den,underlying,hd,goInt,SE.den,bsize]
  ·rename_i n e hd;cases hr;simp [builtin,Builtin.len_,SV.denL,SV.den,underlying,hd,goInt,SE.den]
  ·rename_i a c hd;cases hr;simp [builtin,Builtin.len_,SV.denL,SV.den,underlying,hd,goInt,SE.den]
  ·cases hr
 ·rename_i t ts x xs
  split at hr
  ·rename_i e bb o n c hd
   cases hr
   simp [builtin,Builtin.cap_,SV.denL,SV.den,underlying,hd,goInt,nn_ok hF]
  ·rename_i e hd;cases hr;simp [builtin,Builtin.cap_,SV.denL,SV.den,underlying,hd,goInt,SE.den]
  ·rename_i n e hd;cases hr;simp [builtin,Builtin.cap_,SV.denL,SV.den,underlying,hd,goInt,SE.den]
  ·cases hr
 ·rename_i k a r
  split at hr
  ·rename_i e he
   cases hr
   have:=minAll_ok (E:=E) (β:=β) (P:=P) (w:=w) k he
   simp [builtin,Builtin.min_,SV.denL,SV.den,this]
  ·cases hr
 ·rename_i k a r
  split at hr
  ·rename_i e he
   cases hr
   have:=maxAll_ok (E:=E) (β:=β) (P:=P) (w:=w) k he
   simp [builtin,Builtin.max_,SV.denL,SV.den,this]
  ·cases hr
 ·cases hr
end Go.Sy
end
section
set_option autoImplicit true
set_option relaxedAutoImplicit true
set_option linter.unusedVariables false
set_option linter.unusedSimpArgs false
namespace Go.Sy
open Go
variable {E:Env} {β:Nat→Bk} {P:Program} {w:World}
def evL (gm:Gm) (tmps:Tm):List Operand→Option (List SV)
 |[]=>some []
 |x::r=>match ev gm tmps x,evL gm tmps r with
  |some v,some l=>some (v::l)
  |_,_=>none
theorem evL_ok {gm:Gm} (hg:gm.ok β) {tmps:Tm} {ds:List Deferred}: ∀{xs:List Operand} {l:List SV},evL gm tmps xs=some l→
 xs.map (actD E β tmps ds).eval=SV.denL E β l
 |[],l,h=>by simp [evL] at h;subst h;rfl
 |x::r,l,h=>by
  simp only [evL] at h
  split at h
  ·rename_i v t hv ht
   cases h
   simp only [List.map_cons,ev_ok hg hv,evL_ok hg ht,SV.denL]
  ·cases h
theorem evL_arr {gm:Gm} (hg:gm.ok β) {tmps:Tm} {ds:List Deferred} {xs:Array Operand} {l:List SV} (h:evL gm tmps xs.toList=some l):
 xs.map (actD E β tmps ds).eval=(SV.denL E β l).toArray:=by
 rw [←evL_ok (E:=E) (ds:=ds) hg h]
 apply Array.ext'
 simp
def evO (gm:Gm) (tmps:Tm):Option Operand→Option (Option SV)
 |none=>some none
 |some x=>(ev gm tmps x).map some
theorem evO_ok {gm:Gm} (hg:gm.ok β) {tmps:Tm} {ds:List Deferred} {x:Option Operand} {s:Option SV} (h:evO gm tmps x=some s):
 x.map (actD E β tmps ds).eval=denO E β s:=by
 cases x with
 |none=>simp [evO] at h;subst h;rfl
 |some y=>
  simp only [evO,Option.map_eq_some_iff] at h
  obtain ⟨v,hv,rfl⟩:=h
  simp [denO,ev_ok hg hv]
def bind1 (x:Option SV) (k:SV→RP):RP:=match x with|some v=>k v|none=> .no
def bind2 (x y:Option SV) (k:SV→SV→RP):RP:=match x,y with|some v,some u=>k v u|_,_=> .no
theorem bind1_val {x:Option SV} {k:SV→RP} {v:SV} (h:bind1 x k= .val v): ∃u,x=some u∧k u= .val v:=by
 unfold bind1 at h;split at h
 ·exact ⟨_,rfl,h⟩
 ·cases h
theorem bind2_val {x y:Option SV} {k:SV→SV→RP} {v:SV} (h:bind2 x y k= .val v): ∃u t,x=some u∧y=some t∧k u t= .val v:=by
 unfold bind2 at h;split at h
 ·exact ⟨_,_,rfl,rfl,h⟩
 ·cases h
def sPick (F:Fx) (c a b:SV):RP:=
 match c with
 | .bool s=>onB F s (.val a) (.val b)
 |_=> .no
def pureOp (P:Program) (gm:Gm) (F:Fx) (h:List SBlk) (tmps:Tm) (op:Op):RP:=
 match op with
 | .move x=>bind1 (ev gm tmps x) .val
 | .assign x=>bind1 (ev gm tmps x) .val
 | .pick c a b=>bind1 (ev gm tmps c) fun c=>bind2 (ev gm tmps a) (ev gm tmps b) fun a b=>sPick F c a b
 | .build T parts=>match evParts gm tmps parts.toList with
   |some l=>sBuild P T l
   |none=> .no
 | .nilCheck x=>bind1 (ev gm tmps x) (sNil2 F)
 | .binOp op T x y _=>bind2 (ev gm tmps x) (ev gm tmps y) fun a b=>sBin P F h op T a b x y
 | .unOp op _ x=>bind1 (ev gm tmps x) (sUn F op)
 | .convert s d x=>bind1 (ev gm tmps x) (sConv P F s d)
 | .makeInterface T x=>bind1 (ev gm tmps x) (sMkIf P T)
 | .makeFunc fn first cap=>match evL gm tmps first.toList,evL gm tmps cap.toList with
   |some f,some c=> .val (.func fn f c)
   |_,_=> .no
 | .slice T x lo hi none=>match evO gm tmps lo,evO gm tmps hi with
   |some l,some u=>bind1 (ev gm tmps x) fun x=>sSlice P F T x l u
   |_,_=> .no
 | .fieldAddr T x i=>bind1 (ev gm tmps x) fun x=>sFieldAddr2 P F T x i
 | .field T x i=>bind1 (ev gm tmps x) fun x=>sField P T x i
 | .indexAddr T x ix=>bind2 (ev gm tmps x) (ev gm tmps ix) (sIndexAddr P F T)
 | .index T x ix=>bind2 (ev gm tmps x) (ev gm tmps ix) (sIndex P T)
 | .typeAssert x _ a ok=>bind1 (ev gm tmps x) fun x=>sAssert P x a ok
 | .extract x i=>bind1 (ev gm tmps x) fun x=>sExtract x i
 | .call c=>match c.callee with
   | .builtin b=>match evL gm tmps c.args.toList with
     |some l=>sBuiltin P F b c.argTypes.toList l
     |none=> .no
   |_=> .no
 |_=> .no
theorem val_run {s:Sem Value} {v:Value} (h:s.run P w= .ok v w):((do pure (Next.value (←s))):Sem Next).run P w= .ok (.value v) w:=by
 simp [h]
theorem pure_ok {gm:Gm} (hg:gm.ok β) {F:Fx} (hF:Facts E F) {h:List SBlk} (hw:HOk E β h w) {tmps:Tm} {ds:List Deferred} {o:Oper} {v:SV}
 (hr:pureOp P gm F h tmps o.op= .val v):(execOp (actD E β tmps ds).eval o).run P w= .ok (.value (v.den E β)) w:=by
 unfold execOp
 cases ho:o.op<;>simp only [ho,pureOp] at hr<;>try (first|(cases hr;done))
 case move x=>obtain ⟨u,hu,hr⟩:=bind1_val hr;cases hr;simp [ev_ok hg hu]
 case assign x=>obtain ⟨u,hu,hr⟩:=bind1_val hr;cases hr;simp [ev_ok hg hu]
 case pick c a b=>
  obtain ⟨u,hu,hr⟩:=bind1_val hr
  obtain ⟨s,t,hs,ht,hr⟩:=bind2_val hr
  unfold sPick at hr
  split at hr
  ·rename_i q
   rcases onB_val hF hr with ⟨hb,hr⟩|⟨hb,hr⟩<;>cases hr<;>simp [ev_ok hg hu,ev_ok hg hs,ev_ok hg ht,SV.den,asBool,hb]
  ·cases hr
 case build T parts=>
  split at hr
  ·rename_i l hl
   refine val_run (sBuild_ok hr ?_)
   rw [←evParts_ok (E:=E) (ds:=ds) hg hl]
   simp
  ·cases hr
 case nilCheck x=>
  obtain ⟨u,hu,hr⟩:=bind1_val hr
  simp only [ev_ok hg hu]
  unfold sNil2 at hr
  split at hr
  ·rename_i e o
   rcases onB_val hF hr with ⟨hb,hr⟩|⟨hb,hr⟩
   ·cases hr
    rw [SB.den_mkLe] at hb
    have hb:0≤e.den E:=of_decide_eq_true hb
    simp [SV.den,hb]
   ·cases hr
  unfold sNil at hr
  split at hr<;>first|(cases hr;done)|skip
  rename_i h1 h2 h3 h4 h5 h6 h7 h8 h9
  cases hr
  cases v<;>simp [SV.den] at h1 h2 h3 h4 h5 h6 h7 h8 h9⊢
  case func=>rename_i fn first cap _;cases fn<;>simp at h4⊢
  case sa=>exact (h9 _ _ _ _ rfl rfl rfl rfl).elim
 case binOp op T x y yT=>
  obtain ⟨s,t,hs,ht,hr⟩:=bind2_val hr
  simp only [ev_ok hg hs,ev_ok hg ht]
  exact val_run (sBin_ok hF hw hr)
 case unOp op T x=>obtain ⟨u,hu,hr⟩:=bind1_val hr;simp only [ev_ok hg hu];exact val_run (sUn_ok hF hr)
 case convert s d x=>obtain ⟨u,hu,hr⟩:=bind1_val hr;simp only [ev_ok hg hu];exact val_run (sConv_ok hF hr)
 case makeInterface T x=>obtain ⟨u,hu,hr⟩:=bind1_val hr;simp only [ev_ok hg hu];exact val_run (sMkIf_ok hr)
 case makeFunc fn first cap=>
  split at hr
  ·rename_i f c hf hc
   cases hr
   simp only [evL_arr (E:=E) (ds:=ds) hg hf,evL_arr (E:=E) (ds:=ds) hg hc]
   exact val_run (by simp [Instr.makeFunc,SV.den])
  ·cases hr
 case slice T x lo hi mx=>
  cases mx with
  |some _=>simp at hr
  |none=>
   simp only at hr
   split at hr
   ·rename_i l u hl hu
    obtain ⟨s,hs,hr⟩:=bind1_val hr
    simp only [ev_ok hg hs,evO_ok (E:=E) (ds:=ds) hg hl,evO_ok (E:=E) (ds:=ds) hg hu]
    exact val_run (sSlice_ok hF hr)
   ·cases hr
 case fieldAddr T x i=>obtain ⟨u,hu,hr⟩:=bind1_val hr;simp only [ev_ok hg hu];exact val_run (sFieldAddr2_ok hF hr)
 case field T x i=>obtain ⟨u,hu,hr⟩:=bind1_val hr;simp only [ev_ok hg hu];exact val_run (sField_ok hr)
 case indexAddr T x ix=>obtain ⟨s,t,hs,ht,hr⟩:=bind2_val hr;simp only [ev_ok hg hs,ev_ok hg ht];exact val_run (sIndexAddr_ok hF hr)
 case index T x ix=>obtain ⟨s,t,hs,ht,hr⟩:=bind2_val hr;simp only [ev_ok hg hs,ev_ok hg ht];exact val_run (sIndex_ok hr)
 case typeAssert x xT a ok=>obtain ⟨u,hu,hr⟩:=bind1_val hr;simp only [ev_ok hg hu];exact val_run (sAssert_ok hr)
 case extract x i=>obtain ⟨u,hu,hr⟩:=bind1_val hr;simp only [ev_ok hg hu];exact val_run (sExtract_ok hr)
 case call c=>
  split at hr
  ·rename_i b hb
   split at hr
   ·rename_i l hl
    simp only [resolve,hb,Sem.run_bind,Sem.run_pure,Result.andThen_ok,invoke,evL_arr (E:=E) (ds:=ds) hg hl]
    exact sBuiltin_ok hF hr
   ·cases hr
  ·cases hr
def offOf (base i:SE):Option Nat:=
 match base,i with
 | .c m,.c n=>if m≤n then some (n - m).toNat else none
 |base,.add b (.c n)=>if b=base∧0≤n then some n.toNat else if SE.add b (.c n)=base then some 0 else none
 |base,i=>if i=base then some 0 else none
theorem offOf_ok {base i:SE} {c:Nat} (h:offOf base i=some c):i.den E=base.den E+c:=by
 unfold offOf at h
 split at h
 ·split at h
  ·cases h;simp only [SE.den];omega
  ·cases h
 ·split at h
  ·rename_i hc;obtain ⟨rfl,h0⟩:=hc;cases h;simp only [SE.den];omega
  ·split at h
   ·rename_i hb;subst hb;cases h;simp
   ·cases h
 ·split at h
  ·rename_i hb;subst hb;cases h;simp
  ·cases h
def rdUp (base:SE) (col:Nat):AE→SE
 | .up a i x=>match offOf base i with
   |some c=>if c=col then x else rdUp base col a
   |none=> .rd (.up a i x) (.mkAdd base (.c col))
 | .v i=> .rd (.v i) (.mkAdd base (.c col))
 | .ap f l=> .rd (.ap f l) (.mkAdd base (.c col))
 | .tl a n l=> .rd (.tl a n l) (.mkAdd base (.c col))
 | .ct a n b=> .rd (.ct a n b) (.mkAdd base (.c col))
 | .dr a n=> .rd (.dr a n) (.mkAdd base (.c col))
theorem rdUp_ok {base:SE} {m:Nat} (hb:base.den E=(m:Int)) (col:Nat): ∀(a:AE),(rdUp base col a).den E=a.den E (m+col)
 | .up a i x=>by
   unfold rdUp
   split
   ·rename_i c hc
    have h:=offOf_ok (E:=E) hc
    rw [hb] at h
    have hi:(i.den E).toNat=m+c:=by omega
    split
    ·rename_i hcc;subst hcc;simp only [AE.den,hi,if_true]
    ·rename_i hcc
     rw [rdUp_ok hb col a]
     simp only [AE.den,hi]
     rw [if_neg (by omega)]
   ·simp only [SE.den,SE.den_mkAdd,hb];rfl
 | .v i=>by unfold rdUp;simp only [SE.den,SE.den_mkAdd,hb];rfl
 | .ap f l=>by unfold rdUp;simp only [SE.den,SE.den_mkAdd,hb];rfl
 | .tl a n l=>by unfold rdUp;simp only [SE.den,SE.den_mkAdd,hb];rfl
 | .ct a n b=>by unfold rdUp;simp only [SE.den,SE.den_mkAdd,hb];rfl
 | .dr a n=>by unfold rdUp;simp only [SE.den,SE.den_mkAdd,hb];rfl
def SB.ofI (e:SE):SB:=
 match e with
 | .ite b (.c x) (.c y)=>if x=1∧y=0 then b else .not (.eq e (.c 0))
 | .c n=> .c (decide (n≠0))
 |e=> .not (.eq e (.c 0))
theorem SB.ofI_ok (e:SE):(SB.ofI e).den E=(e.den E !=0):=by
 unfold SB.ofI
 split
 ·rename_i b x y
  split
  ·rename_i h
   obtain ⟨rfl,rfl⟩:=h
   simp only [SE.den]
   cases b.den E<;>rfl
  ·rfl
 ·rename_i n
  simp only [SB.den,SE.den]
  by_cases h:n=0<;>simp [h,bne]
 ·rfl
def rdCells (ks:List SK) (b:Nat) (a:AE) (base:SE) (col:Nat):Nat→List SV
 |0=>[]
 |n+1=>
  let e:=rdUp base col a
  (match ks.getD col default with
    | .int k=>SV.int k e
    | .bool=> .bool (SB.ofI e)
    | .opq=> .q b (.mkAdd base (.c col)))::rdCells ks b a base (col+1) n
def nOf (agg:Bool) (n0:Nat):Nat:=match agg with|true=>n0|false=>1
def tailIx (F:Fx) (rows row:SE):Option Nat:=
 if nonneg F rows then
  if row=rows then some 0 else
  match rows,row with
  | .c a,.c b=>if a≤b then some (b - a).toNat else none
  |r,.add x (.c k)=>if x=r∧0≤k then some k.toNat else none
  |_,_=>none
 else none
theorem tailIx_ok {F:Fx} (hF:Facts E F) {rows row:SE} {t:Nat} (h:tailIx F rows row=some t):(row.den E).toNat=(rows.den E).toNat+t:=by
 unfold tailIx at h
 split at h
 ·rename_i hn
  have hn:=nonneg_ok hF hn
  split at h
  ·rename_i he;cases h;rw [he];rfl
  ·split at h
   ·split at h
    ·rename_i a b hab;cases h;simp only [SE.den] at hn⊢;omega
    ·cases h
   ·split at h
    ·rename_i hx;cases h;rw [←hx.1] at hn⊢;simp only [SE.den];omega
    ·cases h
   ·cases h
 ·cases h
def tabSL (k:IntKind):List SV→Option SL
 |[]=>some .nil
 | .int k' e::r=>if k'=k then (tabSL k r).map (.i e ·) else none
 |_=>none
theorem tabSL_ok {k:IntKind}: ∀{l:List SV} {s:SL},tabSL k l=some s→ ∀(j:Nat) (u:SV),l[j]?=some u→u.den E β=Value.int k (s.nth E j)
 |[],s,h,j,u,hu=>by simp at hu
 |v::r,s,h,j,u,hu=>by
  cases v with
  |int k' e=>
   simp only [tabSL] at h
   split at h
   ·rename_i hk
    subst hk
    obtain ⟨t,ht,rfl⟩:=Option.map_eq_some_iff.1 h
    cases j with
    |zero=>simp at hu;subst hu;simp [SL.nth,SV.den]
    |succ j=>
     simp only [List.getElem?_cons_succ] at hu
     rw [tabSL_ok ht j u hu]
     simp [SL.nth]
   ·cases h
  |_=>simp [tabSL] at h
def sTab (F:Fx) (l:List SV) (o:Off):RP:=
 match l with
 | .int k _::_=>match tabSL k l with
   |some t=>if o.stride=1∧o.col=0 then onB F (.mkLe (.c 0) o.row) (onB F (.mkLt o.row (.c l.length)) (.val (.int k (.rd (.tl (.v 0) (.c 0) t) o.row))) .dead) .dead else .no
   |none=> .no
 |_=> .no
theorem sTab_ok {F:Fx} (hF:Facts E F) {l:List SV} {o:Off} {v:SV} (h:sTab F l o= .val v): ∃(p:Nat) (u:SV),o.den E=p∧l[p]?=some u∧v.den E β=u.den E β:=by
 unfold sTab at h
 split at h
 ·rename_i k e r
  split at h
  ·rename_i t ht
   split at h
   ·rename_i hc
    rcases onB_val hF h with ⟨h0,h⟩|⟨_,h⟩
    ·rcases onB_val hF h with ⟨h1,h⟩|⟨_,h⟩
     ·cases h
      rw [SB.den_mkLe] at h0;rw [SB.den_mkLt] at h1
      have h0:(0:Int)≤o.row.den E:=of_decide_eq_true h0
      have h1:o.row.den E<((SV.int k e::r).length:Nat):=of_decide_eq_true h1
      obtain ⟨p,hp⟩:=Int.eq_ofNat_of_zero_le h0
      have hlt:p<(SV.int k e::r).length:=by omega
      refine ⟨p,(SV.int k e::r)[p],by simp [Off.den,hp,hc.1,hc.2],List.getElem?_eq_getElem hlt,?_⟩
      rw [tabSL_ok (E:=E) (β:=β) ht p _ (List.getElem?_eq_getElem hlt)]
      show Value.int k ((AE.tl (.v 0) (.c 0) t).den E (o.row.den E).toNat)=_
      rw [hp,Int.toNat_natCast]
      simp only [AE.den,SE.den,Int.toNat_zero,Nat.not_lt_zero,if_false,Nat.sub_zero]
     ·cases h
    ·cases h
   ·cases h
  ·cases h
 ·cases h
def sLoadRow (F:Fx) (b:Nat) (a:AE) (ks:List SK) (rows:SE) (tail:List SV) (o:Off) (agg:Bool) (n0:Nat):RP:=
 if o.stride=ks.length∧o.col+nOf agg n0≤ks.length then
  match tailIx F rows o.row with
  |some t=>if (t+1)*ks.length≤tail.length then
    match (tail.drop (t*ks.length+o.col)).take (nOf agg n0),agg with
    |l,true=> .val (.agg l)
    |v::_,false=> .val v
    |_,_=> .no
   else .no
  |none=>if rows= .c 0∧agg=false then sTab F tail o else onB F (.mkLe (.c 0) o.row) (onB F (.mkLt o.row rows)
    (match rdCells ks b a (.mkMul o.row (.c ks.length)) o.col (nOf agg n0),agg with
      |l,true=> .val (.agg l)
      |v::_,false=> .val v
      |_,_=> .no) (if tail.isEmpty then .dead else .no)) .dead
 else .no
def sLoad (P:Program) (F:Fx) (h:List SBlk) (T:TypeId) (x:SV):RP:=
 match x with
 | .ptr b o=>
   match h[b]?,isAggT P T,sizeT P T with
   |some (.cells l _),some true,some n=>
    match constRow o with
    |some p=>if p+n≤l.length then .val (.agg ((l.drop p).take n)) else .no
    |none=> .no
   |some (.cells l _),some false,some _=>
    match constRow o with
    |some p=>match l[p]? with
     |some v=> .val v
     |none=> .no
    |none=>sTab F l o
   |some (.arr a ks rows),some agg,some n0=>
    if o.stride=ks.length∧o.col+nOf agg n0≤ks.length then
     onB F (.mkLe (.c 0) o.row) (onB F (.mkLt o.row rows)
      (match rdCells ks b a (.mkMul o.row (.c ks.length)) o.col (nOf agg n0),agg with
        |l,true=> .val (.agg l)
        |v::_,false=> .val v
        |_,_=> .no) .dead) .dead
    else .no
   |some (.row a ks rows tail _),some agg,some n0=>sLoadRow F b a ks rows tail o agg n0
   |_,_,_=> .no
 |_=> .no
theorem loadCells_ok (a:Addr) (cs:List Value) (h: ∀j v,cs[j]?=some v→w.cell? (a.add j)=some v):(loadCells a cs.length).run P w= .ok cs.toArray w:=
 run_loadCells_list w a cs h
theorem cell_cells {h:List SBlk} (hw:HOk E β h w) {b:Nat} {l:List SV} {T:TypeId} (hb:h[b]?=some (.cells l T)) (j:Nat):
 w.cell? ⟨(β b).a,(β b).o+j,none⟩=(l[j]?).map (SV.den E β):=by
 have:=hw.ok b _ hb
 simp only [SBlk.ok] at this
 simp only [World.cell?,this.2,this.1,Nat.zero_add]
 rw [SV.denL_map]
 simp
theorem cell_arr {h:List SBlk} (hw:HOk E β h w) {b:Nat} {a:AE} {ks:List SK} {n:SE} (hb:h[b]?=some (.arr a ks n)) (j:Nat) (hj:j<(n.den E).toNat*ks.length):
 w.cell? ⟨(β b).a,(β b).o+j,none⟩=some ((ks.getD (j % ks.length) default).val (a.den E j) ((β b).q j)):=by
 obtain ⟨cs,T,fz,h1,h2⟩:=hw.ok b _ hb
 simp only [World.cell?,h1]
 exact h2 j hj
theorem rdCells_ok {ks:List SK} {b:Nat} {a:AE} {base:SE} {r:Nat} (hbase:base.den E=((r*ks.length:Nat):Int)): ∀(n col:Nat),col+n≤ks.length→ ∀j,j<n→
 (rdCells ks b a base col n)[j]?.map (SV.den E β)=some ((ks.getD ((r*ks.length+(col+j)) % ks.length) default).val (a.den E (r*ks.length+(col+j))) ((β b).q (r*ks.length+(col+j))))
 |0,col,_,j,hj=>by omega
 |n+1,col,hc,j,hj=>by
  have hmod: ∀c,c<ks.length→(r*ks.length+c) % ks.length=c:=fun c hc=>by
   rw [Nat.add_comm,Nat.add_mul_mod_self_right,Nat.mod_eq_of_lt hc]
  cases j with
  |zero=>
   have hd:(rdUp base col a).den E=a.den E (r*ks.length+col):=rdUp_ok hbase col a
   have hq:((SE.mkAdd base (.c col)).den E).toNat=r*ks.length+col:=by
    simp only [SE.den,SE.den_mkAdd,hbase];omega
   simp only [rdCells,List.getElem?_cons_zero,Option.map_some,Nat.add_zero]
   rw [hmod col (by omega)]
   split
   ·rename_i k hk;simp only [SV.den,hd,hk,SK.val]
   ·rename_i hk;simp only [SV.den,SB.ofI_ok,hd,hk,SK.val]
   ·rename_i hk;simp only [SV.den,hq,hk,SK.val]
  |succ j=>
   simp only [rdCells,List.getElem?_cons_succ]
   rw [rdCells_ok hbase n (col+1) (by omega) j (by omega)]
   have:col+1+j=col+(j+1):=by omega
   rw [this]
theorem rdCells_length (ks:List SK) (b:Nat) (a:AE) (base:SE): ∀(n col:Nat),(rdCells ks b a base col n).length=n
 |0,_=>rfl
 |n+1,col=>by simp [rdCells,rdCells_length ks b a base n]
theorem row_v {a:AE} {ks:List SK} {n:SE} {tail:List SV} {S:TypeId} {bk:Bk} (h:SBlk.ok E β bk w (.row a ks n tail S)): ∃m,tail.length=m*ks.length∧
 ((bk.z=true∧(n.den E).toNat=0∧m=0)∨
  (bk.z=false∧bk.n=(n.den E).toNat+m∧bk.n≤bk.c∧bk.c≤maxLen∧ ∃cur,w.heap[bk.a]?=some (.cells cur S (0,0))∧cur.size=bk.c*ks.length∧cur.toList.take (bk.n*ks.length)=rowCells E β bk.q a ks (n.den E).toNat tail)):=by
 obtain ⟨h0,m,h1,h2,h3⟩:=h
 refine ⟨m,h1,?_⟩
 rcases h3 with ⟨hv,hl⟩|⟨g,cap,cur,hv,h4,h5,h6,h7,h8,h9⟩
 ·left
  cases hz:bk.z with
  |true=>exact ⟨rfl,by omega,by omega⟩
  |false=>simp [Bk.v,hz] at hv
 ·right
  cases hz:bk.z with
  |true=>simp [Bk.v,hz] at hv
  |false=>
   simp [Bk.v,hz] at hv
   obtain ⟨⟨e1,_⟩,e2,e3⟩:=hv
   refine ⟨rfl,e2,by omega,by omega,cur,by rw [e1];exact h5,by rw [e3];exact h8,by rw [e2];exact h9⟩
theorem rowCells_length (q:Nat→Value) (a:AE) (ks:List SK) (n:Nat) (tail:List SV):(rowCells E β q a ks n tail).length=n*ks.length+tail.length:=by
 simp [rowCells,denL_length]
theorem rowCells_lo {q:Nat→Value} {a:AE} {ks:List SK} {n:Nat} {tail:List SV} {j:Nat} (hj:j<n*ks.length):(rowCells E β q a ks n tail)[j]?=some ((ks.getD (j % ks.length) default).val (a.den E j) (q j)):=by
 unfold rowCells
 rw [List.getElem?_append_left (by simpa using hj)]
 simp [hj]
theorem rowCells_hi {q:Nat→Value} {a:AE} {ks:List SK} {n:Nat} {tail:List SV} {j:Nat}:(rowCells E β q a ks n tail)[n*ks.length+j]?=(tail[j]?).map (SV.den E β):=by
 unfold rowCells
 rw [List.getElem?_append_right (by simp),SV.denL_map]
 simp
theorem cell_row {h:List SBlk} (hw:HOk E β h w) {b:Nat} {a:AE} {ks:List SK} {n:SE} {tail:List SV} {S:TypeId} (hb:h[b]?=some (.row a ks n tail S)) (j:Nat) (hj:j<(n.den E).toNat*ks.length+tail.length):
 w.cell? ⟨(β b).a,(β b).o+j,none⟩=(rowCells E β (β b).q a ks (n.den E).toNat tail)[j]?:=by
 have ho:(β b).o=0:=(hw.ok b _ hb).1
 rw [ho,Nat.zero_add]
 obtain ⟨m,h1,h2⟩:=row_v (hw.ok b _ hb)
 rcases h2 with ⟨_,h3,h4⟩|⟨_,h3,h4,h5,cur,h6,h7,h8⟩
 ·rw [h3,h1,h4] at hj;simp at hj
 ·rw [←h8]
  have hlen:j<(β b).n*ks.length:=by rw [h3,Nat.add_mul];omega
  simp only [World.cell?,h6]
  rw [List.getElem?_take_of_lt hlen]
  simp
theorem sLoadRow_ok {F:Fx} (hF:Facts E F) {h:List SBlk} (hw:HOk E β h w) {T:TypeId} {b:Nat} {o:Off} {a:AE} {ks:List SK} {rows:SE} {tail:List SV} {S:TypeId} {agg:Bool} {n0:Nat} {v:SV}
 (hb:h[b]?=some (.row a ks rows tail S)) (ha:isAggT P T=some agg) (hn:sizeT P T=some n0) (hr:sLoadRow F b a ks rows tail o agg n0= .val v):
 (Instr.loadAt T ((SV.ptr b o).den E β)).run P w= .ok (v.den E β) w:=by
 unfold sLoadRow at hr
 split at hr
 ·rename_i hc
  have key: ∀(r:Nat) (l:List SV),o.den E=r*ks.length+o.col→l.length=nOf agg n0→(∀j,j<nOf agg n0→w.cell? ⟨(β b).a,(β b).o+(r*ks.length+(o.col+j)),none⟩=(l[j]?).map (SV.den E β))→
   (match l,agg with
     |l,true=>RP.val (.agg l)
     |v::_,false=> .val v
     |_,_=> .no)= .val v→(Instr.loadAt T ((SV.ptr b o).den E β)).run P w= .ok (v.den E β) w:=by
   intro r l hoff hl hcell hr
   cases agg with
   |true=>
    simp only [nOf] at hr hc hl hcell
    cases hr
    simp only [Instr.loadAt,SV.den,Instr.sureAddr,Sem.run_bind,Sem.run_pure,Result.andThen_ok,loadVar,isAggT_ok ha,if_true,sizeT_ok hn,hoff]
    have hl':(SV.denL E β l).length=n0:=by rw [denL_length,hl]
    have:=loadCells_ok (P:=P) (w:=w) ⟨(β b).a,(β b).o+(r*ks.length+o.col),none⟩ (SV.denL E β l) (fun j u hj=>by
     rw [SV.denL_map,List.getElem?_map] at hj
     have hjn:j<n0:=by
      rcases Nat.lt_or_ge j n0 with h1|h1
      ·exact h1
      ·rw [List.getElem?_eq_none (by omega)] at hj;cases hj
     rw [addr_add,Nat.add_assoc,Nat.add_assoc,hcell j hjn]
     exact hj)
    rw [hl'] at this
    rw [this]
    rfl
   |false=>
    simp only [nOf] at hr hc hl hcell
    split at hr
    ·rename_i hx;cases hx
    ·rename_i u t hx
     cases hr
     simp only [Instr.loadAt,SV.den,Instr.sureAddr,Sem.run_bind,Sem.run_pure,Result.andThen_ok,loadVar,isAggT_ok ha,hoff]
     have h3:=hcell 0 (by omega)
     simp only [Nat.add_zero] at h3
     simp [h3]
    ·cases hr
  split at hr
  ·rename_i t ht
   have hrow:=tailIx_ok hF ht
   split at hr
   ·rename_i hlen
    have hlen':t*ks.length+ks.length≤tail.length:=by rw [Nat.add_mul] at hlen;omega
    refine key ((rows.den E).toNat+t) _ (by simp [Off.den,hrow,hc.1]) (by simp;omega) (fun j hj=>?_) hr
    have e:((rows.den E).toNat+t)*ks.length+(o.col+j)=(rows.den E).toNat*ks.length+(t*ks.length+o.col+j):=by rw [Nat.add_mul];omega
    rw [e,cell_row hw hb _ (by omega),rowCells_hi,List.getElem?_take_of_lt hj,List.getElem?_drop]
   ·cases hr
  ·split at hr
   ·rename_i hz
    obtain ⟨hz1,hz2⟩:=hz
    subst hz1;subst hz2
    obtain ⟨p,u,hp,hu,hv⟩:=sTab_ok (β:=β) hF hr
    rw [hv]
    have hlt:p<tail.length:=(List.getElem?_eq_some_iff.1 hu).1
    have hz0:((SE.c 0).den E).toNat=0:=rfl
    have h3:=cell_row hw hb (((SE.c 0).den E).toNat*ks.length+p) (by omega)
    rw [rowCells_hi,hz0,Nat.zero_mul,Nat.zero_add,hu] at h3
    simp only [Instr.loadAt,SV.den,Instr.sureAddr,Sem.run_bind,Sem.run_pure,Result.andThen_ok,loadVar,isAggT_ok ha,hp]
    simp [h3]
   rcases onB_val hF hr with ⟨h0,hr⟩|⟨_,hr⟩
   ·rcases onB_val hF hr with ⟨h1,hr⟩|⟨_,hr⟩
    ·rw [SB.den_mkLe] at h0;rw [SB.den_mkLt] at h1
     have h0:(0:Int)≤o.row.den E:=of_decide_eq_true h0
     have h1:o.row.den E<rows.den E:=of_decide_eq_true h1
     obtain ⟨r,hrow⟩:=Int.eq_ofNat_of_zero_le h0
     have hoff:o.den E=r*ks.length+o.col:=by simp [Off.den,hrow,hc.1]
     have hrr:r+1≤(rows.den E).toNat:=by omega
     have hmul:(r+1)*ks.length≤(rows.den E).toNat*ks.length:=Nat.mul_le_mul_right _ hrr
     rw [Nat.add_mul] at hmul
     have hbase:(SE.mkMul o.row (.c ks.length)).den E=((r*ks.length:Nat):Int):=by
      rw [SE.den_mkMul,hrow];simp [SE.den]
     refine key r _ hoff (rdCells_length ..) (fun j hj=>?_) hr
     rw [cell_row hw hb _ (by omega),rowCells_lo (by omega),rdCells_ok hbase (nOf agg n0) o.col hc.2 j hj]
    ·split at hr<;>cases hr
   ·cases hr
 ·cases hr
theorem sLoad_ok {F:Fx} (hF:Facts E F) {h:List SBlk} (hw:HOk E β h w) {T:TypeId} {x v:SV} (hr:sLoad P F h T x= .val v):
 (Instr.loadAt T (x.den E β)).run P w= .ok (v.den E β) w:=by
 unfold sLoad at hr
 split at hr
 ·rename_i b o
  split at hr
  ·rename_i l S n hb ha hn
   split at hr
   ·rename_i p hp
    split at hr
    ·rename_i hlen
     cases hr
     simp only [Instr.loadAt,SV.den,Instr.sureAddr,Sem.run_bind,Sem.run_pure,Result.andThen_ok,loadVar,isAggT_ok ha,if_true,sizeT_ok hn,constRow_ok hp]
     have hl:(SV.denL E β ((l.drop p).take n)).length=n:=by rw [denL_length];simp;omega
     have:=loadCells_ok (P:=P) (w:=w) ⟨(β b).a,(β b).o+p,none⟩ (SV.denL E β ((l.drop p).take n)) (fun j u hj=>by
      rw [addr_add,Nat.add_assoc,cell_cells hw hb]
      rw [SV.denL_map,List.getElem?_map] at hj
      rw [←hj]
      have hjn:j<n:=by
       rcases Nat.lt_or_ge j n with h1|h1
       ·exact h1
       ·rw [List.getElem?_eq_none (by simp;omega)] at hj;cases hj
      rw [List.getElem?_take_of_lt hjn,List.getElem?_drop])
     rw [hl] at this
     rw [this]
     rfl
    ·cases hr
   ·cases hr
  ·rename_i l S n hb ha hn
   split at hr
   ·rename_i p hp
    split at hr
    ·rename_i u hu
     cases hr
     simp only [Instr.loadAt,SV.den,Instr.sureAddr,Sem.run_bind,Sem.run_pure,Result.andThen_ok,loadVar,isAggT_ok ha,constRow_ok hp]
     simp [cell_cells hw hb,hu]
    ·cases hr
   ·obtain ⟨p,u,hp,hu,hv⟩:=sTab_ok (β:=β) hF hr
    rw [hv]
    simp only [Instr.loadAt,SV.den,Instr.sureAddr,Sem.run_bind,Sem.run_pure,Result.andThen_ok,loadVar,isAggT_ok ha,hp]
    simp [cell_cells hw hb,hu]
  ·rename_i a ks rows agg n0 hb ha hn
   split at hr
   ·rename_i hc
    rcases onB_val hF hr with ⟨h0,hr⟩|⟨_,hr⟩
    ·rcases onB_val hF hr with ⟨h1,hr⟩|⟨_,hr⟩
     ·rw [SB.den_mkLe] at h0;rw [SB.den_mkLt] at h1
      have h0:(0:Int)≤o.row.den E:=of_decide_eq_true h0
      have h1:o.row.den E<rows.den E:=of_decide_eq_true h1
      obtain ⟨r,hrow⟩:=Int.eq_ofNat_of_zero_le h0
      have hoff:o.den E=r*ks.length+o.col:=by simp [Off.den,hrow,hc.1]
      have hrr:r+1≤(rows.den E).toNat:=by omega
      have hmul:(r+1)*ks.length≤(rows.den E).toNat*ks.length:=Nat.mul_le_mul_right _ hrr
      have hbase:(SE.mkMul o.row (.c ks.length)).den E=((r*ks.length:Nat):Int):=by
       rw [SE.den_mkMul,hrow];simp [SE.den]
      have hcell: ∀j,o.col+j<ks.length→w.cell? ⟨(β b).a,(β b).o+(r*ks.length+(o.col+j)),none⟩=some ((ks.getD ((r*ks.length+(o.col+j)) % ks.length) default).val (a.den E (r*ks.length+(o.col+j))) ((β b).q (r*ks.length+(o.col+j)))):=fun j hj=>
       cell_arr hw hb _ (by rw [Nat.add_mul] at hmul;omega)
      cases agg with
      |true=>
       simp only [nOf] at hr hc
       cases hr
       simp only [Instr.loadAt,SV.den,Instr.sureAddr,Sem.run_bind,Sem.run_pure,Result.andThen_ok,loadVar,isAggT_ok ha,if_true,sizeT_ok hn,hoff]
       have hl:(SV.denL E β (rdCells ks b a (.mkMul o.row (.c ks.length)) o.col n0)).length=n0:=by rw [denL_length,rdCells_length]
       have:=loadCells_ok (P:=P) (w:=w) ⟨(β b).a,(β b).o+(r*ks.length+o.col),none⟩ (SV.denL E β (rdCells ks b a (.mkMul o.row (.c ks.length)) o.col n0)) (fun j u hj=>by
        rw [SV.denL_map,List.getElem?_map] at hj
        have hjn:j<n0:=by
         rcases Nat.lt_or_ge j n0 with h1|h1
         ·exact h1
         ·rw [List.getElem?_eq_none (by rw [rdCells_length];omega)] at hj;cases hj
        rw [rdCells_ok hbase n0 o.col hc.2 j hjn] at hj
        rw [addr_add,Nat.add_assoc,Nat.add_assoc,hcell j (by omega)]
        exact hj)
       rw [hl] at this
       rw [this]
       rfl
      |false=>
       simp only [nOf] at hr hc
       have h2:=rdCells_ok (E:=E) (β:=β) (b:=b) (a:=a) hbase 1 o.col hc.2 0 (by omega)
       split at hr
       ·rename_i hx;cases hx
       ·rename_i u t hx hy
        cases hr
        rw [hx] at h2
        simp only [Instr.loadAt,SV.den,Instr.sureAddr,Sem.run_bind,Sem.run_pure,Result.andThen_ok,loadVar,isAggT_ok ha,hoff]
        have h3:=hcell 0 (by omega)
        simp only [Nat.add_zero] at h2 h3
        simp at h2
        simp [h3,h2]
       ·cases hr
     ·cases hr
    ·cases hr
   ·cases hr
  ·rename_i a ks rows tail S agg n0 hb ha hn
   exact sLoadRow_ok hF hw hb ha hn hr
  ·cases hr
 ·cases hr
end Go.Sy
end
section
set_option autoImplicit true
set_option relaxedAutoImplicit true
set_option linter.unusedVariables false
set_option linter.unusedSimpArgs false
namespace Go.Sy
open Go
variable {E:Env} {β:Nat→Bk} {P:Program} {w:World}
def wset (w:World) (b:Nat) (o:Obj):World:={ w with heap:=w.heap.setIfInBounds b o }
theorem wset_wset (b:Nat) (o o':Obj):wset (wset w b o) b o'=wset w b o':=by simp [wset]
theorem wset_same {b:Nat} {o:Obj} (h:b<w.heap.size):(wset w b o).heap[b]?=some o:=by simp [wset,h]
theorem wset_other {b c:Nat} {o:Obj} (h:c≠b):(wset w b o).heap[c]?=w.heap[c]?:=by simp [wset,Array.getElem?_setIfInBounds,Ne.symm h]
theorem setCell_wset {b off:Nat} {cs:Array Value} {S:TypeId} {fz:Nat×Nat} (h:w.heap[b]?=some (.cells cs S fz)) (v:Value):
 w.setCell ⟨b,off,none⟩ v=wset w b (.cells (cs.setIfInBounds off v) S fz):=by
 have hlt:b<w.heap.size:=(Array.getElem?_eq_some_iff.1 h).1
 unfold World.setCell wset
 congr 1
 apply Array.ext_getElem?
 intro i
 rw [Array.getElem?_modify,Array.getElem?_setIfInBounds]
 by_cases hi:b=i
 ·subst hi
  have hb:=(Array.getElem?_eq_some_iff.1 h).2
  simp [hlt,hb]
 ·simp [hi]
def SV.isCell:SV→Bool
 | .agg _| .tup _| .opq _| .q _ _=>false
 |_=>true
theorem isCell_ok {v:SV} (h:v.isCell=true):(v.den E β).oneCell'=true:=by
 cases v<;>simp [SV.isCell] at h<;>simp [SV.den,Value.oneCell']
 case own b=>cases hz:(β b).z<;>simp [Bk.v,hz]
 case pa e o=>by_cases h:0≤e.den E<;>simp [h]
 case sa e o l c=>by_cases h:0≤e.den E<;>simp [h]
theorem storeCells_ok {b off:Nat} {S:TypeId}: ∀(vs:List SV) (l:List SV) (j:Nat) (w:World),w.heap[b]?=some (.cells (SV.denL E β l).toArray S (0,0))→
 off+j+vs.length≤l.length→vs.all SV.isCell=true→
 (storeCells ⟨b,off,none⟩ (SV.denL E β vs) j).run P w= .ok () (wset w b (.cells (SV.denL E β (putAll off l j vs)).toArray S (0,0)))
 |[],l,j,w,h,_,_=>by
  have hlt:b<w.heap.size:=(Array.getElem?_eq_some_iff.1 h).1
  have:wset w b (.cells (SV.denL E β l).toArray S (0,0))=w:=by
   unfold wset
   have:w.heap.setIfInBounds b (.cells (SV.denL E β l).toArray S (0,0))=w.heap:=by
    apply Array.ext_getElem?
    intro i
    rw [Array.getElem?_setIfInBounds]
    by_cases hi:b=i
    ·subst hi
     have hb:=(Array.getElem?_eq_some_iff.1 h).2
     simp [hlt,hb]
    ·simp [hi]
   rw [this]
  simp [SV.denL,storeCells,putAll,this]
 |v::r,l,j,w,h,hlen,hall=>by
  simp only [List.all_cons,Bool.and_eq_true] at hall
  simp only [List.length_cons] at hlen
  have hlt:b<w.heap.size:=(Array.getElem?_eq_some_iff.1 h).1
  have hcell:w.cell? ⟨b,off+j,none⟩=some ((SV.denL E β l)[off+j]'(by rw [denL_length];omega)):=by
   simp only [World.cell?,h]
   simp
  have hfz:w.frozen? ⟨b,off+j,none⟩=false:=by simp [World.frozen?,h]
  have h1:(store (Addr.add ⟨b,off,none⟩ j) (v.den E β)).run P w= .ok () (wset w b (.cells (SV.denL E β (l.set (off+j) v)).toArray S (0,0))):=by
   rw [addr_add,run_store P w _ _ _ (isCell_ok hall.1)]
   simp only [stored,hcell,hfz]
   rw [setCell_wset h,denL_set]
   simp
  simp only [SV.denL,storeCells,Sem.run_bind,h1,Result.andThen_ok,putAll]
  rw [storeCells_ok r (l.set (off+j) v) (j+1) _ (wset_same hlt) (by simp;omega) hall.2,wset_wset]
structure Ext (E:Env) (h:List SBlk) (β:Nat→Bk) (w:World) (E':Env) (h':List SBlk) (β':Nat→Bk) (w':World):Prop where
 len:h.length≤h'.length
 agree: ∀i,i<h.length→β' i=β i
 kind: ∀(i:Nat) (s':SBlk),i<h.length→h'[i]?=some s'→s'.wr (β i)→ ∃s,h[i]?=some s∧s.wr (β i)
 fresh: ∀(i:Nat) (s':SBlk) (x:Nat),h'[i]?=some s'→s'.at E' (β' i) x→w.heap.size≤x∨ ∃j t,h[j]?=some t∧t.at E (β j) x∧(t.wr (β j)∨j=i)
 size:w.heap.size≤w'.heap.size
 same: ∀b,b<w.heap.size→(∀(i:Nat) (s:SBlk),h[i]?=some s→s.wr (β i)→ ¬s.at E (β i) b)→w'.heap[b]?=w.heap[b]?
 os:w'.os=w.os
 tape:w'.tape=w.tape
 output:w'.output=w.output
theorem Ext.refl (E:Env) (h:List SBlk) (β:Nat→Bk) (w:World):Ext E h β w E h β w:=
 ⟨Nat.le_refl _,fun _ _=>rfl,fun i s _ h1 h2=>⟨s,h1,h2⟩,fun i s x h1 h2=> .inr ⟨i,s,h1,h2,.inr rfl⟩,Nat.le_refl _,fun _ _ _=>rfl,rfl,rfl,rfl⟩
theorem lt_len {α:Type} {l:List α} {i:Nat} {x:α} (h:l[i]?=some x):i<l.length:=(List.getElem?_eq_some_iff.1 h).1
theorem Ext.trans {E1 E2 E3:Env} {h1 h2 h3:List SBlk} {β1 β2 β3:Nat→Bk} {w1 w2 w3:World} (a:Ext E1 h1 β1 w1 E2 h2 β2 w2) (b:Ext E2 h2 β2 w2 E3 h3 β3 w3):Ext E1 h1 β1 w1 E3 h3 β3 w3 where
 len:=Nat.le_trans a.len b.len
 agree i hi:=by rw [b.agree i (Nat.lt_of_lt_of_le hi a.len),a.agree i hi]
 kind i s' hi h hw:=by
  have hi2:=Nat.lt_of_lt_of_le hi a.len
  obtain ⟨s,h1,h2⟩:=b.kind i s' hi2 h (by rw [a.agree i hi];exact hw)
  rw [a.agree i hi] at h2
  exact a.kind i s hi h1 h2
 fresh i s x hg hx:=by
  rcases b.fresh i s x hg hx with h4|⟨j,t,h5,h6,h7⟩
  ·exact .inl (Nat.le_trans a.size h4)
  ·rcases a.fresh j t x h5 h6 with h8|⟨k,u,h9,h10,h11⟩
   ·exact .inl h8
   ·refine .inr ⟨k,u,h9,h10,?_⟩
    rcases h11 with h11|rfl
    ·exact .inl h11
    ·rcases h7 with h7|rfl
     ·rw [a.agree k (lt_len h9)] at h7
      obtain ⟨v,g1,g2⟩:=a.kind k t (lt_len h9) h5 h7
      rw [h9] at g1
      cases g1
      exact .inl g2
     ·exact .inr rfl
 size:=Nat.le_trans a.size b.size
 same c hc hn:=by
  rw [b.same c (Nat.lt_of_lt_of_le hc a.size),a.same c hc hn]
  intro i s hi hk hat
  rcases a.fresh i s c hi hat with h|⟨j,t,h1,h2,h3⟩
  ·omega
  ·rcases h3 with h3|rfl
   ·exact hn j t h1 h3 h2
   ·rw [a.agree j (lt_len h1)] at hk
    obtain ⟨v,g1,g2⟩:=a.kind j s (lt_len h1) hi hk
    rw [h1] at g1
    cases g1
    exact hn j t h1 g2 h2
 os:=b.os.trans a.os
 tape:=b.tape.trans a.tape
 output:=b.output.trans a.output
theorem HOk.put {h:List SBlk} (hw:HOk E β h w) {b:Nat} {s0 s1:SBlk} (hb:h[b]?=some s0) (hwr:s0.wr (β b)) (hat: ∀x,s1.at E (β b) x→s0.at E (β b) x) {w':World} (hsz:w'.heap.size=w.heap.size)
 (hsame: ∀x,¬s0.at E (β b) x→w'.heap[x]?=w.heap[x]?) (hos:w'.os=w.os) (htp:w'.tape=w.tape) (hop:w'.output=w.output) (hok:s1.ok E β (β b) w'):HOk E β (h.set b s1) w'∧Ext E h β w E (h.set b s1) β w':=by
 have hbl:b<h.length:=lt_len hb
 have back: ∀(i:Nat) (s:SBlk) (x:Nat),(h.set b s1)[i]?=some s→s.at E (β i) x→ ∃t:SBlk,h[i]?=some t∧t.at E (β i) x:=fun i s x hs hr=>by
  by_cases hib:b=i
  ·subst hib
   rw [List.getElem?_set_self hbl] at hs
   cases hs
   exact ⟨_,hb,hat x hr⟩
  ·rw [List.getElem?_set_ne hib] at hs;exact ⟨s,hs,hr⟩
 refine ⟨⟨fun i j s t x hi hj hri hrj=>?_,fun i s x hi hr=>?_,fun i s hs=>?_⟩,⟨by simp,fun _ _=>rfl,fun i s hi hk hr=>?_,fun i s x hk hx=>?_,by rw [hsz];exact Nat.le_refl _,fun c hc hn=>hsame c (hn b s0 hb hwr),hos,htp,hop⟩⟩
 ·obtain ⟨s',h1,h2⟩:=back i s x hi hri
  obtain ⟨t',h3,h4⟩:=back j t x hj hrj
  exact hw.dis i j s' t' x h1 h3 h2 h4
 ·obtain ⟨s',h1,h2⟩:=back i s x hi hr
  rw [hsz];exact hw.lt i s' x h1 h2
 ·by_cases hib:b=i
  ·subst hib
   rw [List.getElem?_set_self hbl] at hs
   cases hs
   exact hok
  ·rw [List.getElem?_set_ne hib] at hs
   exact SBlk.ok_frame (fun x hr=>hsame x fun hx=>hib (hw.dis b i _ _ x hb hs hx hr)) (hw.ok i s hs)
 ·by_cases hib:b=i
  ·subst hib;exact ⟨_,hb,hwr⟩
  ·rw [List.getElem?_set_ne hib] at hk;exact ⟨s,hk,hr⟩
 ·obtain ⟨t,h1,h2⟩:=back i s x hk hx
  exact .inr ⟨i,t,h1,h2,.inr rfl⟩
def sStore (P:Program) (h:List SBlk) (T:TypeId) (x v:SV):Option (List SBlk):=
 match x with
 | .ptr b o=>
   match h[b]?,constRow o,sizeT P T,v.cells with
   |some (.cells l S),some p,some n,some vs=>
    if vs.length=n∧p+n≤l.length∧vs.all SV.isCell=true then some (h.set b (.cells (putAll p l 0 vs) S)) else none
   |_,_,_,_=>none
 |_=>none
theorem HOk.set {h:List SBlk} (hw:HOk E β h w) {b:Nat} {l l':List SV} {S:TypeId} (hb:h[b]?=some (.cells l S)):
 HOk E β (h.set b (.cells l' S)) (wset w (β b).a (.cells (SV.denL E β l').toArray S (0,0)))∧Ext E h β w E (h.set b (.cells l' S)) β (wset w (β b).a (.cells (SV.denL E β l').toArray S (0,0))):=by
 refine HOk.put (s1:= .cells l' S) hw hb trivial (fun x hx=>hx) (by simp [wset]) (fun x hx=>wset_other fun hh=>hx ⟨trivial,hh⟩) rfl rfl rfl ?_
 simp only [SBlk.ok]
 exact ⟨(hw.ok b _ hb).1,wset_same (hw.lta hb trivial rfl)⟩
theorem sStore_ok {h h':List SBlk} (hw:HOk E β h w) {T:TypeId} {x v:SV} (hr:sStore P h T x v=some h'):
 ∃w',(Instr.storeAt T (x.den E β) (v.den E β)).run P w= .ok () w'∧HOk E β h' w'∧Ext E h β w E h' β w':=by
 unfold sStore at hr
 split at hr
 ·rename_i b o
  split at hr
  ·rename_i l S p n vs hb hp hn hvs
   split at hr
   ·rename_i hc
    cases hr
    obtain ⟨h1,h2⟩:=HOk.set (l':=putAll p l 0 vs) hw hb
    refine ⟨_,?_,h1,h2⟩
    have hblk:=hw.ok b _ hb
    simp only [SBlk.ok] at hblk
    have hsz:(v.den E β).cells.size=n:=by rw [cells_ok hvs];simp [denL_length,hc.1]
    simp only [Instr.storeAt,SV.den,Instr.sureAddr,Sem.run_bind,Sem.run_pure,Result.andThen_ok,storeVar,sizeT_ok hn,hsz,constRow_ok hp]
    simp only [ne_eq,not_true_eq_false,if_false]
    rw [cells_ok hvs]
    have:=storeCells_ok (E:=E) (β:=β) (P:=P) (b:=(β b).a) (off:=p) (S:=S) vs l 0 w hblk.2 (by omega) hc.2.2
    rw [hblk.1,Nat.zero_add]
    simpa using this
   ·cases hr
  ·cases hr
 ·cases hr
def upB (β:Nat→Bk) (n:Nat) (m:Bk) (i:Nat):Bk:=if i=n then m else β i
theorem upB_self (β:Nat→Bk) (n:Nat) (m:Bk):upB β n m n=m:=by simp [upB]
theorem upB_ne {β:Nat→Bk} {n:Nat} {m:Bk} {i:Nat} (h:i≠n):upB β n m i=β i:=by simp [upB,h]
theorem HOk.more {h:List SBlk} (hw:HOk E β h w) (hbnd:h.all (SBlk.bnd h.length)=true) {s0:SBlk} {bk:Bk} {w':World} (hos:w'.os=w.os) (htp:w'.tape=w.tape) (hop:w'.output=w.output) (hsz:w.heap.size≤w'.heap.size)
 (hold: ∀c,c<w.heap.size→w'.heap[c]?=w.heap[c]?) (hnew: ∀x,s0.at E bk x→w.heap.size≤x∧x<w'.heap.size) (hok:s0.ok E (upB β h.length bk) bk w'):
 HOk E (upB β h.length bk) (h++[s0]) w'∧Ext E h β w E (h++[s0]) (upB β h.length bk) w':=by
 have hag: ∀i,i<h.length→upB β h.length bk i=β i:=fun i hi=>upB_ne (by omega)
 have lt2: ∀i s,(h++[s0])[i]?=some s→(i<h.length∧h[i]?=some s∧upB β h.length bk i=β i)∨(i=h.length∧s=s0∧upB β h.length bk i=bk):=fun i s hs=>by
  rcases Nat.lt_or_ge i h.length with h1|h1
  ·rw [List.getElem?_append_left h1] at hs;exact .inl ⟨h1,hs,hag i h1⟩
  ·have hi:i=h.length:=by
    have:=(List.getElem?_eq_some_iff.1 hs).1
    simp at this;omega
   subst hi
   rw [List.getElem?_append_right h1] at hs
   simp at hs
   exact .inr ⟨rfl,hs.symm,upB_self _ _ _⟩
 refine ⟨⟨fun i j s t x hi hj hri hrj=>?_,fun i s x hi hr=>?_,fun i s hs=>?_⟩,⟨by simp,hag,fun i s hi hk hr=>?_,fun i s x h2 hr=>?_,hsz,fun c hc hn=>hold c hc,hos,htp,hop⟩⟩
 ·rcases lt2 i s hi with ⟨h1,h2,h3⟩|⟨h1,h2,h3⟩<;>rcases lt2 j t hj with ⟨h4,h5,h6⟩|⟨h4,h5,h6⟩<;>rw [h3] at hri<;>rw [h6] at hrj
  ·exact hw.dis i j s t x h2 h5 hri hrj
  ·have:=hw.lt i s x h2 hri
   rw [h5] at hrj
   have:=(hnew x hrj).1;omega
  ·have:=hw.lt j t x h5 hrj
   rw [h2] at hri
   have:=(hnew x hri).1;omega
  ·omega
 ·rcases lt2 i s hi with ⟨h1,h2,h3⟩|⟨h1,h2,h3⟩<;>rw [h3] at hr
  ·have:=hw.lt i s x h2 hr;omega
  ·rw [h2] at hr;exact (hnew x hr).2
 ·rcases lt2 i s hs with ⟨h1,h2,h3⟩|⟨h1,h2,h3⟩<;>rw [h3]
  ·have hsb:s.bnd h.length=true:=List.all_eq_true.1 hbnd s (List.mem_of_getElem? h2)
   rw [SBlk.ok_agree hag s hsb]
   exact SBlk.ok_frame (fun x hr=>hold _ (hw.lt i s x h2 hr)) (hw.ok i s h2)
  ·rw [h2];exact hok
 ·rw [List.getElem?_append_left hi] at hk;exact ⟨s,hk,hr⟩
 ·rcases lt2 i s h2 with ⟨h3,h4,h5⟩|⟨h3,h4,h5⟩
  ·rw [h5] at hr;exact .inr ⟨i,s,h4,hr,.inr rfl⟩
  ·rw [h5,h4] at hr;exact .inl (hnew x hr).1
theorem HOk.push {h:List SBlk} (hw:HOk E β h w) (hbnd:h.all (SBlk.bnd h.length)=true) {l:List SV} {S:TypeId} (hl:SV.bndL h.length l=true):
 HOk E (upB β h.length { a:=w.heap.size }) (h++[.cells l S]) (w.alloc (.cells (SV.denL E β l).toArray S))∧
 Ext E h β w E (h++[.cells l S]) (upB β h.length { a:=w.heap.size }) (w.alloc (.cells (SV.denL E β l).toArray S)):=by
 have hag: ∀i,i<h.length→upB β h.length { a:=w.heap.size } i=β i:=fun i hi=>upB_ne (by omega)
 have hold: ∀c,c<w.heap.size→(w.alloc (.cells (SV.denL E β l).toArray S)).heap[c]?=w.heap[c]?:=fun c hc=>by
  show (w.heap.push _)[c]?=_
  rw [Array.getElem?_push,if_neg (by omega)]
 refine HOk.more hw hbnd rfl rfl rfl (by simp) hold (fun x hx=>by have:=hx.2;simp only at this;subst this;simp) ?_
 simp only [SBlk.ok]
 refine ⟨trivial,?_⟩
 rw [SV.denL_agree hag l hl]
 show (w.heap.push _)[w.heap.size]?=_
 simp
end Go.Sy
end
section
set_option autoImplicit true
set_option relaxedAutoImplicit true
set_option linter.unusedVariables false
set_option linter.unusedSimpArgs false
namespace Go.Sy
open Go
variable {E:Env} {β:Nat→Bk} {P:Program} {w:World}
def fnd {α:Type} (n:Nat):List (Nat×α)→Option α
 |[]=>none
 |(k,v)::r=>if k=n then some v else fnd n r
structure Sub where
 i:List (Nat×SE):=[]
 b:List (Nat×SB):=[]
 a:List (Nat×AE):=[]
 o:List (Nat×SV):=[]
 k:List (Nat×Option Nat):=[]
 t:Option Tm:=none
def SE.mkIte (b:SB) (x y:SE):SE:=
 match b with
 | .c true=>x
 | .c false=>y
 |b=> .ite b x y
theorem SE.den_mkIte (b:SB) (x y:SE):(SE.mkIte b x y).den E=if b.den E then x.den E else y.den E:=by
 unfold SE.mkIte;split<;>simp [SE.den,SB.den]
def SB.mkAnd (x y:SB):SB:=
 match x with
 | .c true=>y
 | .c false=> .c false
 |x=> .and x y
theorem SB.den_mkAnd (x y:SB):(SB.mkAnd x y).den E=(x.den E&&y.den E):=by
 unfold SB.mkAnd;split<;>simp [SB.den]
mutual
def SE.inst (S:Sub):SE→SE
 | .c n=> .c n
 | .v i=>match fnd i S.i with|some e=>e|none=> .v i
 | .add x y=> .mkAdd (x.inst S) (y.inst S)
 | .sub x y=> .mkSub (x.inst S) (y.inst S)
 | .mul x y=> .mkMul (x.inst S) (y.inst S)
 | .wrap k x=> .mkWrap k (x.inst S)
 | .tdiv x y=> .mkTdiv (x.inst S) (y.inst S)
 | .tmod x y=> .mkTmod (x.inst S) (y.inst S)
 | .bits o k x y=> .mkBits o k (x.inst S) (y.inst S)
 | .shl k x y=> .mkShl k (x.inst S) (y.inst S)
 | .shr k x y=> .mkShr k (x.inst S) (y.inst S)
 | .rd a o=> .rd (a.inst S) (o.inst S)
 | .mn x y=> .mkMn (x.inst S) (y.inst S)
 | .mx x y=> .mkMx (x.inst S) (y.inst S)
 | .ni x y=> .mkNi (x.inst S) (y.inst S)
 | .ite b x y=> .mkIte (b.inst S) (x.inst S) (y.inst S)
 | .ap f l=> .ap f (l.inst S)
def SB.inst (S:Sub):SB→SB
 | .c b=> .c b
 | .v i=>match fnd i S.b with|some e=>e|none=> .v i
 | .lt x y=> .mkLt (x.inst S) (y.inst S)
 | .le x y=> .mkLe (x.inst S) (y.inst S)
 | .eq x y=> .mkEq (x.inst S) (y.inst S)
 | .not x=> .mkNot (x.inst S)
 | .beq x y=> .mkBeq (x.inst S) (y.inst S)
 | .and x y=> .mkAnd (x.inst S) (y.inst S)
 | .ap f l=> .ap f (l.inst S)
def AE.inst (S:Sub):AE→AE
 | .v i=>match fnd i S.a with|some e=>e|none=> .v i
 | .ap f l=> .ap f (l.inst S)
 | .tl a n l=> .tl (a.inst S) (n.inst S) (l.inst S)
 | .ct a n b=> .ct (a.inst S) (n.inst S) (b.inst S)
 | .up a i x=> .up (a.inst S) (i.inst S) (x.inst S)
 | .dr a n=> .dr (a.inst S) (n.inst S)
def SL.inst (S:Sub):SL→SL
 | .nil=> .nil
 | .i x r=> .i (x.inst S) (r.inst S)
 | .b x r=> .b (x.inst S) (r.inst S)
 | .a x r=> .a (x.inst S) (r.inst S)
end
def Env.sub (E:Env) (β:Nat→Bk) (S:Sub):Env where
 i j:=match fnd j S.i with|some e=>e.den E|none=>E.i j
 b j:=match fnd j S.b with|some e=>e.den E|none=>E.b j
 a j:=match fnd j S.a with|some e=>e.den E|none=>E.a j
 o j:=match fnd j S.o with|some v=>v.den E β|none=>if 1000≤j then E.o j else match S.t with|some x=>(x.get j).den E β|none=>E.o j
 fn:=E.fn
mutual
theorem SE.inst_ok (S:Sub): ∀(x:SE),(x.inst S).den E=x.den (E.sub β S)
 | .c n=>rfl
 | .v i=>by simp only [SE.inst,SE.den,Env.sub];cases fnd i S.i<;>rfl
 | .add x y=>by simp only [SE.inst,SE.den_mkAdd,SE.den,SE.inst_ok S x,SE.inst_ok S y]
 | .sub x y=>by simp only [SE.inst,SE.den_mkSub,SE.den,SE.inst_ok S x,SE.inst_ok S y]
 | .mul x y=>by simp only [SE.inst,SE.den_mkMul,SE.den,SE.inst_ok S x,SE.inst_ok S y]
 | .wrap k x=>by simp only [SE.inst,SE.den_mkWrap,SE.den,SE.inst_ok S x]
 | .tdiv x y=>by simp only [SE.inst,SE.den_mkTdiv,SE.den,SE.inst_ok S x,SE.inst_ok S y]
 | .tmod x y=>by simp only [SE.inst,SE.den_mkTmod,SE.den,SE.inst_ok S x,SE.inst_ok S y]
 | .bits o k x y=>by simp only [SE.inst,SE.den_mkBits,SE.den,SE.inst_ok S x,SE.inst_ok S y]
 | .shl k x y=>by simp only [SE.inst,SE.den_mkShl,SE.den,SE.inst_ok S x,SE.inst_ok S y]
 | .shr k x y=>by simp only [SE.inst,SE.den_mkShr,SE.den,SE.inst_ok S x,SE.inst_ok S y]
 | .rd a o=>by simp only [SE.inst,SE.den,AE.inst_ok S a,SE.inst_ok S o]
 | .mn x y=>by simp only [SE.inst,SE.den_mkMn,SE.den,SE.inst_ok S x,SE.inst_ok S y]
 | .mx x y=>by simp only [SE.inst,SE.den_mkMx,SE.den,SE.inst_ok S x,SE.inst_ok S y]
 | .ni x y=>by simp only [SE.inst,SE.den_mkNi,SE.den,SE.inst_ok S x,SE.inst_ok S y]
 | .ite b x y=>by simp only [SE.inst,SE.den_mkIte,SE.den,SE.inst_ok S x,SE.inst_ok S y,SB.inst_ok S b]
 | .ap f l=>by simp only [SE.inst,SE.den,SL.inst_ok S l];rfl
theorem SB.inst_ok (S:Sub): ∀(x:SB),(x.inst S).den E=x.den (E.sub β S)
 | .c b=>rfl
 | .v i=>by simp only [SB.inst,SB.den,Env.sub];cases fnd i S.b<;>rfl
 | .lt x y=>by simp only [SB.inst,SB.den_mkLt,SB.den,SE.inst_ok S x,SE.inst_ok S y]
 | .le x y=>by simp only [SB.inst,SB.den_mkLe,SB.den,SE.inst_ok S x,SE.inst_ok S y]
 | .eq x y=>by simp only [SB.inst,SB.den_mkEq,SB.den,SE.inst_ok S x,SE.inst_ok S y]
 | .not x=>by simp only [SB.inst,SB.den_mkNot,SB.den,SB.inst_ok S x]
 | .beq x y=>by simp only [SB.inst,SB.den_mkBeq,SB.den,SB.inst_ok S x,SB.inst_ok S y]
 | .and x y=>by simp only [SB.inst,SB.den_mkAnd,SB.den,SB.inst_ok S x,SB.inst_ok S y]
 | .ap f l=>by simp only [SB.inst,SB.den,SL.inst_ok S l];rfl
theorem AE.inst_ok (S:Sub): ∀(x:AE),(x.inst S).den E=x.den (E.sub β S)
 | .v i=>by funext j;simp only [AE.inst,AE.den,Env.sub];cases fnd i S.a<;>rfl
 | .ap f l=>by funext j;simp only [AE.inst,AE.den,SL.inst_ok S l];rfl
 | .tl a n l=>by funext j;simp only [AE.inst,AE.den,AE.inst_ok S a,SE.inst_ok S n,SL.nth_inst S l]
 | .ct a n b=>by funext j;simp only [AE.inst,AE.den,AE.inst_ok S a,SE.inst_ok S n,AE.inst_ok S b]
 | .up a i x=>by funext j;simp only [AE.inst,AE.den,AE.inst_ok S a,SE.inst_ok S i,SE.inst_ok S x]
 | .dr a n=>by funext j;simp only [AE.inst,AE.den,AE.inst_ok S a,SE.inst_ok S n]
theorem SL.inst_ok (S:Sub): ∀(x:SL),(x.inst S).den E=x.den (E.sub β S)
 | .nil=>rfl
 | .i x r=>by simp only [SL.inst,SL.den,SE.inst_ok S x,SL.inst_ok S r]
 | .b x r=>by simp only [SL.inst,SL.den,SB.inst_ok S x,SL.inst_ok S r]
 | .a x r=>by simp only [SL.inst,SL.den,AE.inst_ok S x,SL.inst_ok S r]
theorem SL.nth_inst (S:Sub): ∀(x:SL) (j:Nat),(x.inst S).nth E j=x.nth (E.sub β S) j
 | .nil,j=>rfl
 | .i x r,j=>by simp only [SL.inst,SL.nth,SE.inst_ok S x,SL.nth_inst S r]
 | .b x r,j=>by simp only [SL.inst,SL.nth,SB.inst_ok S x,SL.nth_inst S r]
 | .a x r,j=>by simp only [SL.inst,SL.nth,SL.nth_inst S r]
end
mutual
def SV.same:SV→SV→Bool
 | .int k e,.int j f=>k==j&&e==f
 | .bool a,.bool b=>a==b
 | .flt k n,.flt j m=>k==j&&n==m
 | .str a,.str b=>a==b
 | .nilptr,.nilptr=>true
 | .ptr b o,.ptr c o2=>b==c&&o==o2
 | .nilslice,.nilslice=>true
 | .slice b o n c,.slice b' o' n' c'=>b==b'&&o==o'&&n==n'&&c==c'
 | .nilmap,.nilmap=>true
 | .map b,.map c=>b==c
 | .nilfunc,.nilfunc=>true
 | .func f a c,.func g b d=>f==g&&SV.sameL a b&&SV.sameL c d
 | .nilif,.nilif=>true
 | .ifc t v,.ifc s u=>t==s&&SV.same v u
 | .agg a,.agg b=>SV.sameL a b
 | .tup a,.tup b=>SV.sameL a b
 | .opq i,.opq j=>i==j
 | .own i,.own j=>i==j
 | .fx k e j,.fx k' e' j'=>k==k'&&e==e'&&j==j'
 | .fw k e,.fw k' e'=>k==k'&&e==e'
 | .pa e o,.pa e' o'=>e==e'&&o==o'
 | .sa e o l c,.sa e' o' l' c'=>e==e'&&o==o'&&l==l'&&c==c'
 | .q b e,.q c f=>b==c&&e==f
 |_,_=>false
def SV.sameL:List SV→List SV→Bool
 |[],[]=>true
 |x::r,y::s=>SV.same x y&&SV.sameL r s
 |_,_=>false
end
mutual
theorem SV.same_ok: ∀{x y:SV},SV.same x y=true→x=y
 | .int k e,.int j f,h| .bool a,.bool b,h| .flt k n,.flt j m,h| .str a,.str b,h| .ptr b o,.ptr c o2,h| .map b,.map c,h| .opq i,.opq j,h| .own i,.own j,h| .fx k e i,.fx k' e' j,h| .fw k e,.fw k' e',h| .pa e o,.pa e' o',h| .sa e o l c,.sa e' o' l' c',h
 | .slice b o n c,.slice b' o' n' c',h| .q b e,.q c f,h=>by simp [SV.same] at h;simp [h]
 | .nilptr,.nilptr,_| .nilslice,.nilslice,_| .nilmap,.nilmap,_| .nilfunc,.nilfunc,_| .nilif,.nilif,_=>rfl
 | .func f a c,.func g b d,h=>by
   simp only [SV.same,Bool.and_eq_true,beq_iff_eq] at h
   rw [h.1.1,SV.sameL_ok h.1.2,SV.sameL_ok h.2]
 | .ifc t v,.ifc s u,h=>by
   simp only [SV.same,Bool.and_eq_true,beq_iff_eq] at h
   rw [h.1,SV.same_ok h.2]
 | .agg a,.agg b,h=>by simp only [SV.same] at h;rw [SV.sameL_ok h]
 | .tup a,.tup b,h=>by simp only [SV.same] at h;rw [SV.sameL_ok h]
theorem SV.sameL_ok: ∀{x y:List SV},SV.sameL x y=true→x=y
 |[],[],_=>rfl
 |x::r,y::s,h=>by
  simp only [SV.sameL,Bool.and_eq_true] at h
  rw [SV.same_ok h.1,SV.sameL_ok h.2]
 |[],_::_,h=>by simp [SV.sameL] at h
 |_::_,[],h=>by simp [SV.sameL] at h
end
def Off.inst (S:Sub) (o:Off):Off:=⟨o.row.inst S,o.stride,o.col⟩
theorem Off.inst_ok (S:Sub) (o:Off):(o.inst S).den E=o.den (E.sub β S):=by
 simp only [Off.inst,Off.den,SE.inst_ok (β:=β) S o.row]
def SV.mkPa (e o:SE):SV:=
 match e with
 | .c n=>if n<0 then .nilptr else .pa (.c n) o
 |e=> .pa e o
def SV.mkSa (e o l c:SE):SV:=
 match e with
 | .c n=>if n<0 then .nilslice else .sa (.c n) o l c
 |e=> .sa e o l c
theorem SV.den_mkPa (e o:SE):(SV.mkPa e o).den E β=(SV.pa e o).den E β:=by
 unfold SV.mkPa
 split
 ·split
  ·rename_i n h;simp only [SV.den,SE.den,show¬ (0≤n) by omega,if_false]
  ·rfl
 ·rfl
theorem SV.den_mkSa (e o l c:SE):(SV.mkSa e o l c).den E β=(SV.sa e o l c).den E β:=by
 unfold SV.mkSa
 split
 ·split
  ·rename_i n h;simp only [SV.den,SE.den,show¬ (0≤n) by omega,if_false]
  ·rfl
 ·rfl
mutual
def SV.inst (S:Sub):SV→SV
 | .int k e=> .int k (e.inst S)
 | .bool b=> .bool (b.inst S)
 | .flt k n=> .flt k n
 | .str l=> .str l
 | .nilptr=> .nilptr
 | .ptr b o=>match fnd b S.k with|some (some c)=> .ptr c (o.inst S)|_=> .nilptr
 | .nilslice=> .nilslice
 | .slice b o l c=>match fnd b S.k with|some (some d)=> .slice d (o.inst S) (l.inst S) (c.inst S)|_=> .nilslice
 | .nilmap=> .nilmap
 | .map b=>match fnd b S.k with|some (some c)=> .map c|_=> .nilmap
 | .nilfunc=> .nilfunc
 | .func fn f c=> .func fn (SV.instL S f) (SV.instL S c)
 | .nilif=> .nilif
 | .ifc t v=> .ifc t (v.inst S)
 | .agg l=> .agg (SV.instL S l)
 | .tup l=> .tup (SV.instL S l)
 | .opq i=>match fnd i S.o with|some v=>v|none=>if 1000≤i then .opq i else match S.t with|some x=>x.get i|none=> .opq i
 | .own b=>match fnd b S.k with|some (some c)=> .own c|_=> .nilslice
 | .fx k e j=> .fx k (e.inst S) j
 | .fw k e=> .fw k (e.inst S)
 | .pa e o=>SV.mkPa (e.inst S) (o.inst S)
 | .sa e o l c=>SV.mkSa (e.inst S) (o.inst S) (l.inst S) (c.inst S)
 | .q b ix=> .q b ix
def SV.instL (S:Sub):List SV→List SV
 |[]=>[]
 |v::r=>v.inst S::SV.instL S r
end
def hasB (S:Sub) (b:Nat):Bool:=match fnd b S.k with|some (some _)=>true|_=>false
mutual
def SV.okS (S:Sub):SV→Bool
 | .ptr b _=>hasB S b
 | .slice b _ _ _=>hasB S b
 | .map b=>hasB S b
 | .own b=>(fnd b S.k).isSome
 | .func _ f c=>SV.okSL S f&&SV.okSL S c
 | .ifc _ v=>v.okS S
 | .agg l=>SV.okSL S l
 | .tup l=>SV.okSL S l
 | .q _ _=>false
 |_=>true
def SV.okSL (S:Sub):List SV→Bool
 |[]=>true
 |v::r=>v.okS S&&SV.okSL S r
end
structure Bk.like (x y:Bk):Prop where
 a:x.a=y.a
 z:x.z=y.z
 n:x.n=y.n
 c:x.c=y.c
 o:x.o=y.o
def Bmap (S:Sub) (β β0:Nat→Bk):Prop:= ∀j x,fnd j S.k=some x→match x with
 |some c=>Bk.like (β0 j) (β c)
 |none=>(β0 j).z=true
theorem hasB_get {S:Sub} {b:Nat} (h:hasB S b=true): ∃c,fnd b S.k=some (some c):=by
 unfold hasB at h;split at h
 ·rename_i c hc;exact ⟨c,hc⟩
 ·cases h
mutual
theorem SV.inst_ok {S:Sub} {β0:Nat→Bk} (hB:Bmap S β β0): ∀(v:SV),v.okS S=true→(v.inst S).den E β=v.den (E.sub β S) β0
 | .int k e,_=>by simp only [SV.inst,SV.den,SE.inst_ok (β:=β) S e]
 | .bool b,_=>by simp only [SV.inst,SV.den,SB.inst_ok (β:=β) S b]
 | .flt k n,_| .str _,_| .nilptr,_| .nilslice,_| .nilmap,_| .nilfunc,_| .nilif,_=>by simp only [SV.inst,SV.den]
 | .ptr b o,h=>by
   obtain ⟨c,hc⟩:=hasB_get h
   have:=hB b _ hc
   simp only at this
   simp only [SV.inst,hc,SV.den,Off.inst_ok (β:=β) S o,this.a,this.o]
 | .slice b o l c,h=>by
   obtain ⟨d,hd⟩:=hasB_get h
   have:=hB b _ hd
   simp only at this
   simp only [SV.inst,hd,SV.den,Off.inst_ok (β:=β) S o,this.a,this.o,SE.inst_ok (β:=β) S l,SE.inst_ok (β:=β) S c]
 | .map b,h=>by
   obtain ⟨c,hc⟩:=hasB_get h
   have:=hB b _ hc
   simp only at this
   simp only [SV.inst,hc,SV.den,this.a]
 | .func fn f c,h=>by
   simp only [SV.okS,Bool.and_eq_true] at h
   simp only [SV.inst,SV.den,SV.instL_ok hB f h.1,SV.instL_ok hB c h.2]
 | .ifc t v,h=>by simp only [SV.okS] at h;simp only [SV.inst,SV.den,SV.inst_ok hB v h]
 | .agg l,h=>by simp only [SV.okS] at h;simp only [SV.inst,SV.den,SV.instL_ok hB l h]
 | .tup l,h=>by simp only [SV.okS] at h;simp only [SV.inst,SV.den,SV.instL_ok hB l h]
 | .opq i,_=>by
   simp only [SV.inst,SV.den,Env.sub]
   cases fnd i S.o with
   |some v=>rfl
   |none=>
    simp only
    by_cases h1000:1000≤i
    ·simp only [h1000,if_true,SV.den]
    ·simp only [h1000,if_false]
     cases S.t with
     |some x=>rfl
     |none=>simp [SV.den]
 | .own b,h=>by
   simp only [SV.okS,Option.isSome_iff_exists] at h
   obtain ⟨x,hx⟩:=h
   have:=hB b _ hx
   cases x with
   |none=>simp only at this;simp only [SV.inst,hx,SV.den,Bk.v,this,if_true]
   |some c=>simp only at this;simp only [SV.inst,hx,SV.den,Bk.v,this.z,this.a,this.n,this.c,this.o]
 | .fx k e j,_=>by simp only [SV.inst,SV.den,SE.inst_ok (β:=β) S e]
 | .fw k e,_=>by simp only [SV.inst,SV.den,SE.inst_ok (β:=β) S e]
 | .pa e o,_=>by simp only [SV.inst,SV.den_mkPa,SV.den,SE.inst_ok (β:=β) S e,SE.inst_ok (β:=β) S o]
 | .sa e o l c,_=>by simp only [SV.inst,SV.den_mkSa,SV.den,SE.inst_ok (β:=β) S e,SE.inst_ok (β:=β) S o,SE.inst_ok (β:=β) S l,SE.inst_ok (β:=β) S c]
 | .q b ix,h=>by simp [SV.okS] at h
theorem SV.instL_ok {S:Sub} {β0:Nat→Bk} (hB:Bmap S β β0): ∀(l:List SV),SV.okSL S l=true→SV.denL E β (SV.instL S l)=SV.denL (E.sub β S) β0 l
 |[],_=>rfl
 |v::r,h=>by
  simp only [SV.okSL,Bool.and_eq_true] at h
  simp only [SV.instL,SV.denL,SV.inst_ok hB v h.1,SV.instL_ok hB r h.2]
end
def tailSL:List SV→SL
 |[]=> .nil
 | .int _ e::r=> .i e (tailSL r)
 | .bool b::r=> .b b (tailSL r)
 |_::r=> .i (.c 0) (tailSL r)
def kindOk (k:SK) (v:SV):Bool:=
 match k,v with
 | .int k,.int j _=>k==j
 | .bool,.bool _=>true
 | .opq,_=>true
 |_,_=>false
def tailOk (ks:List SK):Nat→List SV→Bool
 |_,[]=>true
 |j,v::r=>kindOk (ks.getD (j % ks.length) default) v&&tailOk ks (j+1) r
def tailA (a:AE) (n:SE) (K:Nat) (tail:List SV):AE:=
 match tail with
 |[]=>a
 |l=> .tl a (.mkMul n (.c K)) (tailSL l)
def rowsN (n:SE) (K:Nat) (tail:List SV):SE:= .mkAdd n (.c ((tail.length/K:Nat):Int))
def rowQ (E:Env) (β:Nat→Bk) (q:Nat→Value) (n:SE) (K:Nat) (tail:List SV):Nat→Value:=
 match tail with
 |[]=>q
 |l=>fun ix=>if ix<(n.den E).toNat*K then q ix else (l.getD (ix - (n.den E).toNat*K) (.tup [])).den E β
theorem tailSL_nth {ks:List SK}: ∀(l:List SV) (j0 j:Nat),tailOk ks j0 l=true→j<l.length→
 (l.map (SV.den E β))[j]?=some ((ks.getD ((j0+j) % ks.length) default).val ((tailSL l).nth E j) ((l.getD j (.tup [])).den E β))
 |[],j0,j,_,h=>by simp at h
 |v::r,j0,j,hk,hj=>by
  simp only [tailOk,Bool.and_eq_true] at hk
  cases j with
  |zero=>
   simp only [List.map_cons,List.getElem?_cons_zero,Nat.add_zero,List.getD_cons_zero]
   congr 1
   have hk1:=hk.1
   revert hk1
   generalize ks.getD (j0 % ks.length) default=kk
   intro hk1
   unfold kindOk at hk1
   split at hk1
   ·simp only [beq_iff_eq] at hk1;subst hk1;simp [SV.den,SK.val,tailSL,SL.nth]
   ·rename_i b;simp only [SV.den,SK.val,tailSL,SL.nth,if_true,b2i];cases b.den E<;>rfl
   ·simp [SK.val]
   ·cases hk1
  |succ j=>
   have ih:=tailSL_nth r (j0+1) j hk.2 (by simpa using hj)
   simp only [List.map_cons,List.getElem?_cons_succ,List.getD_cons_succ]
   rw [ih]
   have e1:j0+1+j=j0+(j+1):=by omega
   have e2:(tailSL (v::r)).nth E (j+1)=(tailSL r).nth E j:=by
    cases v<;>simp [tailSL,SL.nth]
   rw [e1,e2]
theorem rowCells_norm {ks:List SK} {a:AE} {n:SE} {q:Nat→Value} {tail:List SV} {m:Nat} (hm:tail.length=m*ks.length) (hn:tail=[]∨0≤n.den E) (hk:tailOk ks 0 tail=true):
 rowCells E β q a ks (n.den E).toNat tail=(List.range (((n.den E).toNat+m)*ks.length)).map (fun j=>(ks.getD (j % ks.length) default).val ((tailA a n ks.length tail).den E j) (rowQ E β q n ks.length tail j)):=by
 cases tail with
 |nil=>
  have hm0:(((n.den E).toNat+m)*ks.length)=(n.den E).toNat*ks.length:=by
   rw [Nat.add_mul,←hm];simp
  simp [rowCells,SV.denL,tailA,rowQ,hm0]
 |cons v r=>
  have hn:0≤n.den E:=by
   rcases hn with h|h
   ·cases h
   ·exact h
  have hb:((SE.mkMul n (.c ks.length)).den E).toNat=(n.den E).toNat*ks.length:=by
   rw [SE.den_mkMul]
   obtain ⟨x,hx⟩:=Int.eq_ofNat_of_zero_le hn
   rw [hx]
   simp only [SE.den,Int.toNat_natCast]
   rw [←Int.natCast_mul];exact Int.toNat_natCast _
  unfold rowCells
  rw [Nat.add_mul,List.range_add,List.map_append]
  congr 1
  ·apply List.map_congr_left
   intro j hj
   have hj:=List.mem_range.1 hj
   simp only [tailA,rowQ,AE.den,hb,hj,if_true]
  ·rw [←hm,SV.denL_map]
   apply List.ext_getElem?
   intro j
   by_cases hj:j<(v::r).length
   ·rw [tailSL_nth (v::r) 0 j hk hj]
    simp only [List.map_map,List.getElem?_map,List.getElem?_range hj,Option.map_some,Function.comp]
    have h1: ¬ ((n.den E).toNat*ks.length+j<(n.den E).toNat*ks.length):=by omega
    have h2:((n.den E).toNat*ks.length+j) - (n.den E).toNat*ks.length=j:=by omega
    have h3:((n.den E).toNat*ks.length+j) % ks.length=(0+j) % ks.length:=by
     rw [Nat.zero_add,Nat.add_comm,Nat.add_mul_mod_self_right]
    simp only [tailA,rowQ,AE.den,hb,h1,if_false,h2,h3]
   ·rw [List.getElem?_eq_none (by simpa using hj),List.getElem?_eq_none (by simpa using hj)]
end Go.Sy
end
section
set_option autoImplicit true
set_option relaxedAutoImplicit true
set_option linter.unusedVariables false
set_option linter.unusedSimpArgs false
namespace Go.Sy
open Go
variable {E:Env} {β:Nat→Bk} {P:Program} {w:World}
def nilBk:Bk:={ a:=0 }
def siteQ (E:Env) (β:Nat→Bk) (h:List SBlk) (b:Nat):Nat→Value:=
 match h[b]? with
 |some (.row a ks n tail _)=>rowQ E β (β b).q n ks.length tail
 |_=>(β b).q
def bsub (E:Env) (β:Nat→Bk) (h:List SBlk) (S:Sub) (j:Nat):Bk:=
 match fnd j S.k with
 |some (some b)=>{ β b with q:=siteQ E β h b }
 |some none=>nilBk
 |none=>β j
theorem bsub_like {h:List SBlk} {S:Sub} {j b:Nat} (hj:fnd j S.k=some (some b)):Bk.like (bsub E β h S j) (β b):=by
 unfold bsub;rw [hj];exact ⟨rfl,rfl,rfl,rfl,rfl⟩
theorem bsub_nil {h:List SBlk} {S:Sub} {j:Nat} (hj:fnd j S.k=some none):bsub E β h S j=nilBk:=by
 unfold bsub;rw [hj]
theorem bsub_map {h:List SBlk} {S:Sub}:Bmap S β (bsub E β h S):=by
 intro j x hj
 cases x with
 |none=>simp only;rw [bsub_nil hj];rfl
 |some b=>exact bsub_like hj
theorem Bk.like.like_v {x y:Bk} (h:Bk.like x y):x.v=y.v:=by unfold Bk.v;rw [h.z,h.a,h.n,h.c,h.o]
def chkBlk (S:Sub) (F:List (SB×Bool)) (pat:SBlk) (h:List SBlk) (x:Option Nat):Bool:=
 match x with
 |none=>match pat with
  | .row a ks n [] T=>n.inst S== .c 0
  | .pr k (.i n _)=>decide (1000≤k)&&n.inst S== .c 0
  |_=>false
 |some b=>match pat,h[b]? with
  | .any,some (.cells ..)=>true
  | .any,some (.arr ..)=>true
  | .any,some .any=>true
  | .cells l T,some (.cells l' T')=>SV.okSL S l&&SV.sameL (SV.instL S l) l'&&T==T'
  | .arr a ks n,some (.arr a' ks' n')=>a.inst S==a'&&ks==ks'&&n.inst S==n'
  | .row a ks n [] T,some (.row a' ks' n' tail T')=>ks==ks'&&T==T'&&ks.length !=0&&tail.length % ks.length==0&&(tail.isEmpty||nonneg F n')&&tailOk ks 0 tail&&
     a.inst S==tailA a' n' ks.length tail&&n.inst S==rowsN n' ks.length tail
  | .row a ks n (x::l) T,some (.row a' ks' n' tail T')=>ks==ks'&&T==T'&&n== .c 0&&n'== .c 0&&SV.okSL S (x::l)&&SV.sameL (SV.instL S (x::l)) tail
  | .pr k l,some (.pr k' l')=>k==k'&&l.inst S==l'
  |_,_=>false
theorem rowsN_den {n:SE} {K m:Nat} {tail:List SV} (hK:K≠0) (hm:tail.length=m*K) (hn:tail=[]∨0≤n.den E):((rowsN n K tail).den E).toNat=(n.den E).toNat+m:=by
 unfold rowsN
 rw [SE.den_mkAdd,hm,Nat.mul_div_cancel _ (Nat.pos_of_ne_zero hK)]
 simp only [SE.den]
 rcases hn with h|h
 ·subst h
  have:m=0:=by
   rcases Nat.eq_zero_or_pos m with h|h
   ·exact h
   ·have:=Nat.mul_pos h (Nat.pos_of_ne_zero hK)
    simp at hm;omega
  omega
 ·omega
theorem blk_iff {F:List (SB×Bool)} (hF: ∀p∈F,p.1.den E=p.2) {S:Sub} {h:List SBlk} {pat s:SBlk} {j b:Nat} (hj:fnd j S.k=some (some b)) (hs:h[b]?=some s) (hc:chkBlk S F pat h (some b)=true):
 (∀w':World,SBlk.ok E β (β b) w' s→SBlk.ok (E.sub β S) (bsub E β h S) (bsub E β h S j) w' pat)∧
 (pat≠ .any→ ∀w':World,SBlk.ok (E.sub β S) (bsub E β h S) (bsub E β h S j) w' pat→SBlk.ok E β (β b) w' s)∧
 (∀x,pat.at (E.sub β S) (bsub E β h S j) x→s.at E (β b) x)∧(pat≠ .any→ ∀x,s.at E (β b) x→pat.at (E.sub β S) (bsub E β h S j) x)∧(pat.wr (bsub E β h S j)→s.wr (β b)):=by
 have hl:=bsub_like (E:=E) (β:=β) (h:=h) hj
 unfold chkBlk at hc
 simp only [hs] at hc
 split at hc
 all_goals try (cases hc;done)
 ·rename_i hx;cases hx;exact ⟨fun w' _=>trivial,fun hh=>(hh rfl).elim,fun x hx=>⟨trivial,hx.2.trans hl.a⟩,fun hh=>(hh rfl).elim,fun hh=>hh.elim⟩
 ·rename_i hx;cases hx;exact ⟨fun w' _=>trivial,fun hh=>(hh rfl).elim,fun x hx=>⟨trivial,hx.2.trans hl.a⟩,fun hh=>(hh rfl).elim,fun hh=>hh.elim⟩
 ·rename_i hx;cases hx;exact ⟨fun w' _=>trivial,fun hh=>(hh rfl).elim,fun x hx=>⟨trivial,hx.2.trans hl.a⟩,fun hh=>(hh rfl).elim,fun hh=>hh.elim⟩
 ·rename_i l T l' T' hx
  cases hx
  simp only [Bool.and_eq_true,beq_iff_eq] at hc
  obtain ⟨⟨h1,h2⟩,rfl⟩:=hc
  have e:=SV.instL_ok (E:=E) (bsub_map (E:=E) (β:=β) (h:=h) (S:=S)) l h1
  rw [SV.sameL_ok h2] at e
  refine ⟨fun w' hh=>?_,fun _ w' hh=>?_,fun x hx=>⟨trivial,hx.2.trans hl.a⟩,fun _ x hx=>⟨trivial,hx.2.trans hl.a.symm⟩,fun _=>trivial⟩
  ·simp only [SBlk.ok,hl.o,hl.a,←e] at hh⊢;exact hh
  ·simp only [SBlk.ok,hl.o,hl.a,←e] at hh⊢;exact hh
 ·rename_i a ks n a' ks' n' hx
  cases hx
  simp only [Bool.and_eq_true,beq_iff_eq] at hc
  obtain ⟨⟨h1,h2⟩,h3⟩:=hc
  subst h2
  have hq:(bsub E β h S j).q=(β b).q:=by
   unfold bsub siteQ;rw [hj];simp only [hs]
  have e1:=AE.inst_ok (E:=E) (β:=β) S a
  have e2:=SE.inst_ok (E:=E) (β:=β) S n
  rw [h1] at e1
  rw [h3] at e2
  refine ⟨fun w' hh=>?_,fun _ w' hh=>?_,fun x hx=>⟨trivial,hx.2.trans hl.a⟩,fun _ x hx=>⟨trivial,hx.2.trans hl.a.symm⟩,fun hh=>hh.elim⟩
  ·simp only [SBlk.ok,hl.o,hl.a,hq,←e1,←e2] at hh⊢;exact hh
  ·simp only [SBlk.ok,hl.o,hl.a,hq,←e1,←e2] at hh⊢;exact hh
 ·rename_i a ks n T a' ks' n' tail T' hx
  cases hx
  simp only [Bool.and_eq_true,beq_iff_eq,bne_iff_ne,ne_eq] at hc
  obtain ⟨⟨⟨⟨⟨⟨⟨h1,h2⟩,h3⟩,h4⟩,h5⟩,h6⟩,h7⟩,h8⟩:=hc
  subst h1;subst h2
  have hq:(bsub E β h S j).q=rowQ E β (β b).q n' ks.length tail:=by
   unfold bsub siteQ;rw [hj];simp only [hs]
  have e1:=AE.inst_ok (E:=E) (β:=β) S a
  have e2:=SE.inst_ok (E:=E) (β:=β) S n
  rw [h7] at e1
  rw [h8] at e2
  have hn:tail=[]∨0≤n'.den E:=by
   rw [Bool.or_eq_true] at h5
   rcases h5 with h|h
   ·left;cases tail<;>simp_all
   ·right;exact nonneg_ok hF h
  obtain ⟨m,hm⟩: ∃m,tail.length=m*ks.length:=⟨tail.length/ks.length,by rw [Nat.div_mul_cancel (Nat.dvd_of_mod_eq_zero h4)]⟩
  have hnn:(n.den (E.sub β S)).toNat=(n'.den E).toNat+m:=by rw [←e2];exact rowsN_den h3 hm hn
  have hcells:rowCells (E.sub β S) (bsub E β h S) (bsub E β h S j).q a ks (n.den (E.sub β S)).toNat []=rowCells E β (β b).q a' ks (n'.den E).toNat tail:=by
   rw [rowCells_norm hm hn h6,hnn,hq]
   simp only [rowCells,SV.denL,List.append_nil,←e1]
  have hreal:(SBlk.row a ks n [] T).real (bsub E β h S j)↔(SBlk.row a' ks n' tail T).real (β b):=by simp only [SBlk.real,hl.z]
  have hwr:(SBlk.row a ks n [] T).wr (bsub E β h S j)↔(SBlk.row a' ks n' tail T).wr (β b):=by simp only [SBlk.wr,hl.z]
  refine ⟨fun w' hh=>?_,fun _ w' hh=>?_,fun x hx=>⟨hreal.1 hx.1,hx.2.trans hl.a⟩,fun _ x hx=>⟨hreal.2 hx.1,hx.2.trans hl.a.symm⟩,hwr.1⟩
  ·obtain ⟨h0,m',hm',hh⟩:=hh
   have:m'=m:=Nat.eq_of_mul_eq_mul_right (Nat.pos_of_ne_zero h3) (hm'.symm.trans hm)
   subst this
   refine ⟨by rw [hl.o];exact h0,0,by simp,?_⟩
   rw [hcells,hl.like_v,hnn];exact hh
  ·obtain ⟨h0,m',hm',hh⟩:=hh
   have hm0:m'=0:=by
    have:0=m'*ks.length:=hm'
    rcases Nat.mul_eq_zero.1 this.symm with h|h
    ·exact h
    ·exact (h3 h).elim
   subst hm0
   rw [hl.o] at h0
   refine ⟨h0,m,hm,?_⟩
   rw [hcells,hl.like_v,hnn] at hh;exact hh
 ·rename_i a ks n x l T a' ks' n' tail T' hx
  cases hx
  simp only [Bool.and_eq_true,beq_iff_eq] at hc
  obtain ⟨⟨⟨⟨⟨h1,h2⟩,h3⟩,h4⟩,h5⟩,h6⟩:=hc
  subst h1;subst h2;subst h3;subst h4
  have e:=SV.instL_ok (E:=E) (bsub_map (E:=E) (β:=β) (h:=h) (S:=S)) (x::l) h5
  have hle:tail.length=(x::l).length:=by
   have:=congrArg List.length e
   rw [SV.sameL_ok h6] at this
   simp only [SV.denL_map,List.length_map] at this
   exact this
  rw [SV.sameL_ok h6] at e
  have hreal:(SBlk.row a ks (.c 0) (x::l) T).real (bsub E β h S j)↔(SBlk.row a' ks (.c 0) tail T).real (β b):=by simp only [SBlk.real,hl.z]
  have hwr:(SBlk.row a ks (.c 0) (x::l) T).wr (bsub E β h S j)↔(SBlk.row a' ks (.c 0) tail T).wr (β b):=by simp only [SBlk.wr,hl.z]
  have hcells:rowCells (E.sub β S) (bsub E β h S) (bsub E β h S j).q a ks ((SE.c 0).den (E.sub β S)).toNat (x::l)=rowCells E β (β b).q a' ks ((SE.c 0).den E).toNat tail:=by
   simp only [rowCells,SE.den,Int.toNat_zero,Nat.zero_mul,List.range_zero,List.map_nil,List.nil_append,←e]
  refine ⟨fun w' hh=>?_,fun _ w' hh=>?_,fun x hx=>⟨hreal.1 hx.1,hx.2.trans hl.a⟩,fun _ x hx=>⟨hreal.2 hx.1,hx.2.trans hl.a.symm⟩,hwr.1⟩
  ·obtain ⟨h0,m',hm',hh⟩:=hh
   refine ⟨by rw [hl.o];exact h0,m',by rw [←hle];exact hm',?_⟩
   rw [hcells,hl.like_v];exact hh
  ·obtain ⟨h0,m',hm',hh⟩:=hh
   rw [hl.o] at h0
   refine ⟨h0,m',by rw [hle];exact hm',?_⟩
   rw [hcells,hl.like_v] at hh;exact hh
 ·rename_i k l k' l' hx
  cases hx
  simp only [Bool.and_eq_true,beq_iff_eq] at hc
  obtain ⟨rfl,rfl⟩:=hc
  have e:=SL.inst_ok (E:=E) (β:=β) S l
  refine ⟨fun w' hh=>?_,fun _ w' hh=>?_,fun x hh=>?_,fun _ x hh=>?_,fun _=>trivial⟩
  ·simp only [SBlk.ok,hl.o,hl.a,hl.like_v,←e] at hh⊢;exact hh
  ·simp only [SBlk.ok,hl.o,hl.a,hl.like_v,←e] at hh⊢;exact hh
  ·simp only [SBlk.at,hl.a,hl.like_v,←e] at hh⊢;exact hh
  ·simp only [SBlk.at,hl.a,hl.like_v,←e] at hh⊢;exact hh
def injB (S:Sub) (m:Nat):Bool:=
 (List.range m).all fun i=>(List.range m).all fun j=>i==j||match fnd i S.k,fnd j S.k with|some (some b),some (some c)=>b !=c|_,_=>true
def isDead:SBlk→Bool
 | .dead=>true
 |_=>false
def isAny:SBlk→Bool
 | .any=>true
 |_=>false
def chkOne (S:Sub) (F:List (SB×Bool)) (h:List SBlk) (p:SBlk×Nat):Bool:=
 match fnd p.2 S.k with
 |some x=>chkBlk S F p.1 h x
 |none=>isDead p.1
def chkHeap (S:Sub) (F:List (SB×Bool)) (pat h:List SBlk):Bool:=
 pat.zipIdx.all (chkOne S F h)&&injB S pat.length
theorem injB_ok {S:Sub} {m i j b:Nat} (h:injB S m=true) (hi:i<m) (hj:j<m) (h1:fnd i S.k=some (some b)) (h2:fnd j S.k=some (some b)):i=j:=by
 have:=List.all_eq_true.1 (List.all_eq_true.1 h i (List.mem_range.2 hi)) j (List.mem_range.2 hj)
 rw [h1,h2] at this
 simp at this
 exact this
theorem chk_one {S:Sub} {F:List (SB×Bool)} {pat h:List SBlk} (hc:chkHeap S F pat h=true) {j:Nat} {p:SBlk} (hp:pat[j]?=some p):chkOne S F h (p,j)=true:=by
 unfold chkHeap at hc
 rw [Bool.and_eq_true] at hc
 have:=List.all_eq_true.1 hc.1 (p,j)
 refine this ?_
 rw [List.mem_zipIdx_iff_getElem?]
 exact hp
theorem dead_at {p:SBlk} {bk:Bk} {x:Nat} (h:isDead p=true): ¬p.at E bk x:=by cases p<;>simp_all [isDead,SBlk.at,SBlk.real]
theorem nil_at {S:Sub} {F:List (SB×Bool)} {h:List SBlk} {p:SBlk} {x:Nat} (hc:chkBlk S F p h none=true): ¬p.at (E.sub β S) nilBk x:=by
 unfold chkBlk at hc
 simp only at hc
 split at hc
 ·exact fun hx=>by simp [SBlk.at,SBlk.real,nilBk] at hx
 ·rename_i k n r
  simp only [Bool.and_eq_true,decide_eq_true_eq,beq_iff_eq] at hc
  have e2:=SE.inst_ok (E:=E) (β:=β) S n
  rw [hc.2] at e2
  simp only [SBlk.at,SL.den,←e2]
  exact E.fn.fn k _ _ _ hc.1
 ·cases hc
theorem nil_ok {S:Sub} {F:List (SB×Bool)} {h:List SBlk} {p:SBlk} {β':Nat→Bk} (hc:chkBlk S F p h none=true):SBlk.ok (E.sub β S) β' nilBk w p:=by
 unfold chkBlk at hc
 simp only at hc
 split at hc
 ·rename_i a ks n T
  have e2:=SE.inst_ok (E:=E) (β:=β) S n
  rw [beq_iff_eq.1 hc] at e2
  refine ⟨rfl,0,by simp,?_⟩
  simp only [←e2,SE.den,rowCells,Bk.v,nilBk]
  simpa [SV.denL] using World.ownsRow_nil w 0 T ks.length
 ·rename_i k n r
  simp only [Bool.and_eq_true,decide_eq_true_eq,beq_iff_eq] at hc
  have e2:=SE.inst_ok (E:=E) (β:=β) S n
  rw [hc.2] at e2
  simp only [SBlk.ok,SL.den,←e2]
  exact E.fn.pn k _ _ _ hc.1
 ·cases hc
theorem chk_at {F:List (SB×Bool)} (hF: ∀p∈F,p.1.den E=p.2) {S:Sub} {pat h:List SBlk} (hc:chkHeap S F pat h=true) {j:Nat} {p:SBlk} (hp:pat[j]?=some p) {x:Nat} (hr:p.at (E.sub β S) (bsub E β h S j) x):
 ∃b s,fnd j S.k=some (some b)∧h[b]?=some s∧chkBlk S F p h (some b)=true∧s.at E (β b) x∧(p.wr (bsub E β h S j)→s.wr (β b)):=by
 have h1:=chk_one hc hp
 unfold chkOne at h1
 simp only at h1
 split at h1
 ·rename_i y hy
  cases y with
  |none=>
   rw [bsub_nil hy] at hr
   exact (nil_at h1 hr).elim
  |some b=>
   cases hb:h[b]? with
   |none=>unfold chkBlk at h1;simp only [hb] at h1;cases p<;>simp_all
   |some s=>
    have:=blk_iff (E:=E) (β:=β) hF hy hb h1
    exact ⟨b,s,hy,hb,h1,this.2.2.1 x hr,this.2.2.2.2⟩
 ·exact (dead_at h1 hr).elim
theorem hok_match {F:List (SB×Bool)} (hF: ∀p∈F,p.1.den E=p.2) {S:Sub} {pat h:List SBlk} (hw:HOk E β h w) (hc:chkHeap S F pat h=true):HOk (E.sub β S) (bsub E β h S) pat w:=by
 have hinj:injB S pat.length=true:=by unfold chkHeap at hc;rw [Bool.and_eq_true] at hc;exact hc.2
 refine ⟨fun i j s t x hi hj hri hrj=>?_,fun i s x hi hr=>?_,fun i s hi=>?_⟩
 ·obtain ⟨b,s',f1,f2,_,f3,_⟩:=chk_at hF hc hi hri
  obtain ⟨c,t',g1,g2,_,g3,_⟩:=chk_at hF hc hj hrj
  have:=hw.dis b c s' t' x f2 g2 f3 g3
  subst this
  exact injB_ok hinj (lt_len hi) (lt_len hj) f1 g1
 ·obtain ⟨b,s',f1,f2,_,f3,_⟩:=chk_at hF hc hi hr
  exact hw.lt b s' x f2 f3
 ·have h1:=chk_one hc hi
  unfold chkOne at h1
  simp only at h1
  split at h1
  ·rename_i x hx
   cases x with
   |none=>
    rw [bsub_nil hx]
    exact nil_ok h1
   |some b=>
    cases hb:h[b]? with
    |none=>unfold chkBlk at h1;simp only [hb] at h1;cases s<;>simp_all
    |some t=>exact (blk_iff (E:=E) (β:=β) hF hx hb h1).1 w (hw.ok b t hb)
  ·cases s<;>simp_all [isDead,SBlk.ok]
end Go.Sy
end
section
set_option autoImplicit true
set_option relaxedAutoImplicit true
set_option linter.unusedVariables false
set_option linter.unusedSimpArgs false
namespace Go.Sy
open Go
variable {E:Env} {β:Nat→Bk} {P:Program} {w:World}
def SBlk.same:SBlk→SBlk→Bool
 | .cells l T,.cells l' T'=>SV.sameL l l'&&T==T'
 | .arr a ks n,.arr a' ks' n'=>a==a'&&ks==ks'&&n==n'
 | .any,.any=>true
 | .row a ks n l T,.row a' ks' n' l' T'=>a==a'&&ks==ks'&&n==n'&&SV.sameL l l'&&T==T'
 | .dead,.dead=>true
 | .pr k l,.pr k' l'=>k==k'&&l==l'
 |_,_=>false
theorem SBlk.same_ok {x y:SBlk} (h:SBlk.same x y=true):x=y:=by
 cases x<;>cases y<;>simp only [SBlk.same,Bool.and_eq_true,beq_iff_eq,Bool.false_eq_true] at h
 ·obtain ⟨h1,rfl⟩:=h;rw [SV.sameL_ok h1]
 ·obtain ⟨⟨rfl,rfl⟩,rfl⟩:=h;rfl
 ·rfl
 ·obtain ⟨⟨⟨⟨rfl,rfl⟩,rfl⟩,h1⟩,rfl⟩:=h;rw [SV.sameL_ok h1]
 ·rfl
 ·obtain ⟨rfl,rfl⟩:=h;rfl
def SBlk.inst (S:Sub):SBlk→SBlk
 | .cells l T=> .cells (SV.instL S l) T
 | .arr a ks n=> .arr (a.inst S) ks (n.inst S)
 | .any=> .any
 | .row a ks n l T=> .row (a.inst S) ks (n.inst S) (SV.instL S l) T
 | .dead=> .dead
 | .pr k l=> .pr k (l.inst S)
def SBlk.okS (S:Sub):SBlk→Bool
 | .cells l _=>SV.okSL S l
 | .row _ _ _ l _=>SV.okSL S l
 |_=>true
theorem instL_length (S:Sub): ∀(l:List SV),(SV.instL S l).length=l.length
 |[]=>rfl
 |v::r=>by simp [SV.instL,instL_length S r]
theorem SBlk.inst_ok {S:Sub} {β0:Nat→Bk} (hB:Bmap S β β0) {s:SBlk} (hs:s.okS S=true) {x y:Bk} (hl:Bk.like x y) (hq:x.q=y.q) (w:World):SBlk.ok E β y w (s.inst S)↔SBlk.ok (E.sub β S) β0 x w s:=by
 cases s with
 |cells l T=>
  simp only [SBlk.okS] at hs
  simp only [SBlk.inst,SBlk.ok,hl.o,hl.a,SV.instL_ok hB l hs]
 |arr a ks n=>simp only [SBlk.inst,SBlk.ok,hl.o,hl.a,hq,AE.inst_ok (β:=β) S a,SE.inst_ok (β:=β) S n]
 |any=>simp only [SBlk.inst,SBlk.ok]
 |row a ks n l T=>
  simp only [SBlk.okS] at hs
  simp only [SBlk.inst,SBlk.ok,hl.o,hl.like_v,hq,rowCells,AE.inst_ok (β:=β) S a,SE.inst_ok (β:=β) S n,SV.instL_ok hB l hs,instL_length]
 |dead=>simp only [SBlk.inst,SBlk.ok]
 |pr k l=>simp only [SBlk.inst,SBlk.ok,hl.o,hl.a,hl.like_v,SL.inst_ok (β:=β) S l];rfl
theorem SBlk.inst_at {S:Sub} {s:SBlk} {x y:Bk} (hl:Bk.like x y):(∀p,(s.inst S).at E y p↔s.at (E.sub β S) x p)∧((s.inst S).wr y↔s.wr x):=by
 cases s<;>simp [SBlk.inst,SBlk.real,SBlk.wr,SBlk.at,hl.z,hl.a,hl.like_v,SL.inst_ok (E:=E) (β:=β) S]
 intro p;rfl
def inv (S:Sub) (m i:Nat):Option Nat:=(List.range m).find? fun j=>decide (fnd j S.k=some (some i))
theorem inv_some {S:Sub} {m i j:Nat} (h:inv S m i=some j):j<m∧fnd j S.k=some (some i):=by
 unfold inv at h
 exact ⟨List.mem_range.1 (List.mem_of_find?_eq_some h),by simpa using List.find?_some h⟩
theorem inv_none {S:Sub} {m i j:Nat} (h:inv S m i=none) (hj:j<m):fnd j S.k≠some (some i):=by
 unfold inv at h
 have:=List.find?_eq_none.1 h j (List.mem_range.2 hj)
 simpa using this
def Sub.news (S:Sub) (m n:Nat):Nat→Sub
 |0=>S
 |t+1=>let T:=S.news m n t;{ T with k:=(m+t,some (n+t))::T.k }
def postOld (S S':Sub) (pat post:List SBlk) (i:Nat) (s:SBlk):SBlk:=
 match inv S pat.length i with
 |some j=>match pat[j]?,post[j]? with
  |some p,some q=>if SBlk.same p q then s else q.inst S'
  |_,_=> .dead
 |none=>s
def newHeap (S S':Sub) (h pat post:List SBlk):List SBlk:=
 h.zipIdx.map (fun p=>postOld S S' pat post p.2 p.1)++(post.drop pat.length).map (·.inst S')
def chkOld (S S':Sub) (h:List SBlk) (pat post:List SBlk) (j:Nat):Bool:=
 match pat[j]?,post[j]? with
 |some p,some q=>match fnd j S.k with
  |none=>isDead q
  |some none=>isDead q||SBlk.same p q
  |some (some b)=>SBlk.same p q||(!isAny p&&q.okS S'&&match h[b]? with|some (.row _ _ _ (_::_) _)=>isDead q|_=>true)
 |_,_=>false
def keysOk (S:Sub) (m n:Nat):Bool:=S.k.all fun p=>decide (p.1<m)&&match p.2 with|some c=>decide (c<n)|none=>true
def chkPost (S S':Sub) (h pat post:List SBlk):Bool:=
 decide (pat.length≤post.length)&&(List.range pat.length).all (chkOld S S' h pat post)&&(post.drop pat.length).all (SBlk.okS S')&&keysOk S pat.length h.length&&
  S.o.all (fun p=>p.2.bnd h.length)&&S.t.isNone&&pat.all (SBlk.bnd pat.length)
theorem news_io (S:Sub) (m n:Nat): ∀t,(S.news m n t).i=S.i∧(S.news m n t).b=S.b∧(S.news m n t).a=S.a∧(S.news m n t).o=S.o∧(S.news m n t).t=S.t
 |0=>⟨rfl,rfl,rfl,rfl,rfl⟩
 |t+1=>by simpa [Sub.news] using news_io S m n t
theorem fnd_news (S:Sub) (m n:Nat): ∀t j,fnd j (S.news m n t).k=if m≤j∧j<m+t then some (some (n+(j - m))) else fnd j S.k
 |0,j=>by rw [if_neg (by omega)];rfl
 |t+1,j=>by
  simp only [Sub.news,fnd]
  by_cases h:m+t=j
  ·subst h
   rw [if_pos rfl,if_pos (by omega)]
   have:m+t - m=t:=by omega
   rw [this]
  ·rw [if_neg h,fnd_news S m n t j]
   by_cases h2:m≤j∧j<m+t
   ·rw [if_pos h2,if_pos (by omega)]
   ·rw [if_neg h2,if_neg (by omega)]
theorem fnd_mem {α:Type} {n:Nat} {v:α}: ∀{l:List (Nat×α)},fnd n l=some v→(n,v)∈l
 |[],h=>by simp [fnd] at h
 |(k,u)::r,h=>by
  simp only [fnd] at h
  split at h
  ·rename_i hk;cases h;subst hk;simp
  ·simp [fnd_mem h]
theorem keysOk_get {S:Sub} {m n j:Nat} {x:Option Nat} (h:keysOk S m n=true) (hj:fnd j S.k=some x):j<m∧ ∀c,x=some c→c<n:=by
 have:=List.all_eq_true.1 h (j,x) (fnd_mem hj)
 simp only [Bool.and_eq_true,decide_eq_true_eq] at this
 refine ⟨this.1,fun c hc=>?_⟩
 subst hc
 simpa using this.2
def bcall (β β0:Nat→Bk) (m n:Nat) (i:Nat):Bk:=if i<n then β i else β0 (m+(i - n))
theorem sub_env {S S':Sub} {β':Nat→Bk} {n:Nat} (hi:S'.i=S.i) (hb:S'.b=S.b) (ha:S'.a=S.a) (ho:S'.o=S.o∧S'.t=S.t) (ht:S.t=none) (hag: ∀i,i<n→β' i=β i) (hobnd:S.o.all (fun p=>p.2.bnd n)=true):E.sub β' S'=E.sub β S:=by
 unfold Env.sub
 rw [hi,hb,ha,ho.1,ho.2,ht]
 congr 1
 funext j
 cases h:fnd j S.o with
 |none=>rfl
 |some v=>
  have:=List.all_eq_true.1 hobnd (j,v) (fnd_mem h)
  simp only [SV.den_agree hag v this]
def xb:Nat:=500
def Env.upd (E:Env) (n m:Nat) (V:Env):Env where
 i j:=if n≤j∧j<n+m then V.i (xb+(j - n)) else E.i j
 b j:=if n≤j∧j<n+m then V.b (xb+(j - n)) else E.b j
 a j:=if n≤j∧j<n+m then V.a (xb+(j - n)) else E.a j
 o:=E.o
 fn:=E.fn
theorem Env.upd_zero (E:Env) (n:Nat) (V:Env):E.upd n 0 V=E:=by
 have h: ∀j,¬ (n≤j∧j<n+0):=fun j=>by omega
 unfold Env.upd
 simp only [h,if_false]
theorem Env.upd_ag (E:Env) (n m:Nat) (V:Env):AgE n E (E.upd n m V):=
 ⟨fun j hj=>by simp only [Env.upd,show¬ (n≤j∧j<n+m) by omega,if_false],fun j hj=>by simp only [Env.upd,show¬ (n≤j∧j<n+m) by omega,if_false],fun j hj=>by simp only [Env.upd,show¬ (n≤j∧j<n+m) by omega,if_false],rfl,rfl⟩
def Sub.fresh (S:Sub) (nv:Nat):Nat→Sub
 |0=>S
 |t+1=>let T:=S.fresh nv t;{ T with i:=(xb+t,.v (nv+t))::T.i,b:=(xb+t,.v (nv+t))::T.b,a:=(xb+t,.v (nv+t))::T.a }
theorem fresh_ko (S:Sub) (nv:Nat): ∀m,(S.fresh nv m).k=S.k∧(S.fresh nv m).o=S.o∧(S.fresh nv m).t=S.t
 |0=>⟨rfl,rfl,rfl⟩
 |t+1=>by simpa [Sub.fresh] using fresh_ko S nv t
theorem fnd_fresh (S:Sub) (nv:Nat): ∀m j,fnd j (S.fresh nv m).i=(if xb≤j∧j<xb+m then some (.v (nv+(j - xb))) else fnd j S.i)∧fnd j (S.fresh nv m).b=(if xb≤j∧j<xb+m then some (.v (nv+(j - xb))) else fnd j S.b)∧
 fnd j (S.fresh nv m).a=(if xb≤j∧j<xb+m then some (.v (nv+(j - xb))) else fnd j S.a)
 |0,j=>by simp only [Sub.fresh,show¬ (xb≤j∧j<xb+0) by omega,if_false,and_self]
 |t+1,j=>by
  obtain ⟨h1,h2,h3⟩:=fnd_fresh S nv t j
  simp only [Sub.fresh,fnd]
  by_cases h:xb+t=j
  ·subst h
   simp only [if_true,show xb≤xb+t∧xb+t<xb+(t+1) by omega,and_self]
   have:xb+t - xb=t:=by omega
   rw [this]
   exact ⟨rfl,rfl,rfl⟩
  ·simp only [h,if_false,h1,h2,h3]
   by_cases h4:xb≤j∧j<xb+t
   ·simp only [h4,show xb≤j∧j<xb+(t+1) by omega,and_self,if_true]
   ·simp only [h4,show¬ (xb≤j∧j<xb+(t+1)) by omega,if_false,and_self]
def Sub.vb (S:Sub) (n:Nat):Bool:=S.i.all (fun p=>p.2.vb n)&&(S.b.all (fun p=>p.2.vb n)&&(S.a.all (fun p=>p.2.vb n)&&S.o.all (fun p=>p.2.vb n)))
theorem sub_fresh {S S':Sub} {β':Nat→Bk} {n nv m:Nat} {V:Env} (hk:S'.i=S.i∧S'.b=S.b∧S'.a=S.a∧S'.o=S.o∧S'.t=S.t) (ht:S.t=none) (hag: ∀i,i<n→β' i=β i) (hobnd:S.o.all (fun p=>p.2.bnd n)=true) (hv:S.vb nv=true):
 AgE nv ((E.sub β S).upd xb m V) ((E.upd nv m V).sub β' (S'.fresh nv m)):=by
 have hE:=Env.upd_ag E nv m V
 obtain ⟨k1,k2,k3,k4,k5⟩:=hk
 unfold Sub.vb at hv
 simp only [Bool.and_eq_true] at hv
 obtain ⟨v1,v2,v3,v4⟩:=hv
 have hin: ∀j,xb≤j∧j<xb+m→nv≤nv+(j - xb)∧nv+(j - xb)<nv+m:=fun j hj=>by omega
 have hs: ∀j,nv+(j - xb) - nv=j - xb:=fun j=>by omega
 refine ⟨fun j hj=>?_,fun j hj=>?_,fun j hj=>?_,?_,rfl⟩
 ·simp only [Env.sub,(fnd_fresh S' nv m j).1,k1]
  by_cases h:xb≤j∧j<xb+m
  ·simp only [h,and_self,if_true,SE.den,Env.upd,hin j h,hs]
  ·simp only [h,if_false,Env.upd]
   cases hf:fnd j S.i with
   |none=>exact hE.i j hj
   |some e=>exact SE.den_ag hE e (List.all_eq_true.1 v1 _ (fnd_mem hf))
 ·simp only [Env.sub,(fnd_fresh S' nv m j).2.1,k2]
  by_cases h:xb≤j∧j<xb+m
  ·simp only [h,and_self,if_true,SB.den,Env.upd,hin j h,hs]
  ·simp only [h,if_false,Env.upd]
   cases hf:fnd j S.b with
   |none=>exact hE.b j hj
   |some e=>exact SB.den_ag hE e (List.all_eq_true.1 v2 _ (fnd_mem hf))
 ·simp only [Env.sub,(fnd_fresh S' nv m j).2.2,k3]
  by_cases h:xb≤j∧j<xb+m
  ·simp only [h,and_self,if_true,Env.upd]
   funext q
   simp only [AE.den,Env.upd,hin j h,hs,and_self,if_true]
  ·simp only [h,if_false,Env.upd]
   cases hf:fnd j S.a with
   |none=>exact hE.a j hj
   |some e=>exact AE.den_ag hE e (List.all_eq_true.1 v3 _ (fnd_mem hf))
 ·funext j
  simp only [Env.sub,Env.upd,(fresh_ko S' nv m).2.1,(fresh_ko S' nv m).2.2,k4,k5,ht]
  cases hf:fnd j S.o with
  |none=>rfl
  |some v=>
   show SV.den (E.upd nv m V) β' v=SV.den E β v
   rw [SV.den_ag hE β' v (List.all_eq_true.1 v4 _ (fnd_mem hf)),SV.den_agree hag v (List.all_eq_true.1 hobnd (j,v) (fnd_mem hf))]
theorem any_notPr {S:Sub} {F:List (SB×Bool)} {h:List SBlk} {b:Nat} {s:SBlk} (hs:h[b]?=some s) (hc:chkBlk S F .any h (some b)=true):s.isPr=false:=by
 unfold chkBlk at hc
 simp only [hs] at hc
 cases s<;>first|rfl|cases hc
theorem isDead_eq {q:SBlk} (h:isDead q=true):q= .dead:=by cases q<;>first|rfl|cases h
theorem call_heap {F:List (SB×Bool)} (hF: ∀p∈F,p.1.den E=p.2) {S Sf:Sub} {E' E2:Env} {h pat post:List SBlk} (hw:HOk E β h w) (hbnd:h.all (SBlk.bnd h.length)=true) (hc:chkHeap S F pat h=true)
 (hp:chkPost S Sf h pat post=true) (hSf:Sf.k=(S.news pat.length h.length (post.length - pat.length)).k) {β0:Nat→Bk} {w':World} (h0:HOk E2 β0 post w') (hx:Ext (E.sub β S) pat (bsub E β h S) w E2 post β0 w')
 (hst: ∀(i:Nat) (s:SBlk),h[i]?=some s→(∀γ bk w,SBlk.ok E' γ bk w s↔SBlk.ok E γ bk w s)∧ ∀bk x,s.at E' bk x↔s.at E bk x)
 (hpa: ∀(i:Nat) (q:SBlk),pat[i]?=some q→(∀γ bk w,SBlk.ok E2 γ bk w q↔SBlk.ok (E.sub β S) γ bk w q)∧ ∀bk x,q.at E2 bk x↔q.at (E.sub β S) bk x)
 (hpo: ∀(i:Nat) (q:SBlk),post[i]?=some q→(∀γ bk w,SBlk.ok (E'.sub (bcall β β0 pat.length h.length) Sf) γ bk w q↔SBlk.ok E2 γ bk w q)∧ ∀bk x,q.at (E'.sub (bcall β β0 pat.length h.length) Sf) bk x↔q.at E2 bk x):
 let β':=bcall β β0 pat.length h.length
 HOk E' β' (newHeap S Sf h pat post) w'∧Ext E h β w E' (newHeap S Sf h pat post) β' w'∧Bmap Sf β' β0∧(∀i,i<h.length→β' i=β i):=by
 intro β'
 have hinj:injB S pat.length=true:=by unfold chkHeap at hc;rw [Bool.and_eq_true] at hc;exact hc.2
 unfold chkPost at hp
 simp only [Bool.and_eq_true,decide_eq_true_eq] at hp
 obtain ⟨⟨⟨⟨⟨⟨hlen,hold⟩,hnew⟩,hkeys⟩,hobnd⟩,hSt⟩,hpb⟩:=hp
 have hag: ∀i,i<h.length→β' i=β i:=fun i hi=>by simp only [β',bcall,hi,if_true]
 have hagN: ∀t,β' (h.length+t)=β0 (pat.length+t):=fun t=>by
  have: ¬ (h.length+t<h.length):=by omega
  have e:h.length+t - h.length=t:=by omega
  simp only [β',bcall,this,if_false,e]
 have hf: ∀j,j<pat.length→fnd j Sf.k=fnd j S.k:=fun j hj=>by
  rw [hSf,fnd_news,if_neg (by omega)]
 have hBm:Bmap Sf β' β0:=by
  intro j x hj
  by_cases hjm:j<pat.length
  ·rw [hf j hjm] at hj
   have e0:β0 j=bsub E β h S j:=hx.agree j hjm
   cases x with
   |none=>simp only;rw [e0,bsub_nil hj];rfl
   |some c=>
    have hcn:=(keysOk_get hkeys hj).2 c rfl
    simp only
    rw [e0,hag c hcn]
    exact bsub_like hj
  ·rw [hSf,fnd_news] at hj
   split at hj
   ·rename_i hr
    cases hj
    simp only
    rw [hagN (j - pat.length)]
    have:pat.length+(j - pat.length)=j:=by omega
    rw [this]
    exact ⟨rfl,rfl,rfl,rfl,rfl⟩
   ·have:=(keysOk_get hkeys hj).1;omega
 have hget1: ∀i s',i<h.length→(newHeap S Sf h pat post)[i]?=some s'→ ∃s,h[i]?=some s∧s'=postOld S Sf pat post i s:=fun i s' hi hs=>by
  unfold newHeap at hs
  rw [List.getElem?_append_left (by simpa using hi),List.getElem?_map,List.getElem?_zipIdx] at hs
  cases hh:h[i]? with
  |none=>rw [hh] at hs;cases hs
  |some s=>rw [hh] at hs;simp at hs;exact ⟨s,rfl,hs.symm⟩
 have hget2: ∀t s',(newHeap S Sf h pat post)[h.length+t]?=some s'→ ∃q,post[pat.length+t]?=some q∧s'=q.inst Sf∧q.okS Sf=true:=fun t s' hs=>by
  unfold newHeap at hs
  rw [List.getElem?_append_right (by simp),List.getElem?_map] at hs
  simp only [List.length_map,List.length_zipIdx,Nat.add_sub_cancel_left,List.getElem?_drop] at hs
  cases hh:post[pat.length+t]? with
  |none=>rw [hh] at hs;cases hs
  |some q=>
   rw [hh] at hs;simp at hs
   refine ⟨q,rfl,hs.symm,List.all_eq_true.1 hnew q ?_⟩
   exact List.mem_of_getElem? (i:=t) (by rw [List.getElem?_drop];exact hh)
 have apart: ∀i s,h[i]?=some s→(∀j p,pat[j]?=some p→p.wr (bsub E β h S j)→fnd j S.k≠some (some i))→ ∀x,s.at E (β i) x→w'.heap[x]?=w.heap[x]?:=by
  intro i s hs hn x hat
  refine hx.same x (hw.lt i s x hs hat) fun j p hp hwr hpat=>?_
  obtain ⟨b,t,f1,f2,_,f3,_⟩:=chk_at hF hc hp hpat
  have:=hw.dis i b s t x hs f2 hat f3
  subst this
  exact hn j p hp hwr f1
 have cls: ∀i s',(newHeap S Sf h pat post)[i]?=some s'→
  (∃s,h[i]?=some s∧s'=s∧β' i=β i∧(∀j,j<pat.length→fnd j S.k≠some (some i))∧SBlk.ok E' β' (β' i) w' s')∨
  (∃j q,post[j]?=some q∧(∀x,s'.at E' (β' i) x→q.at E2 (β0 j) x)∧SBlk.ok E' β' (β' i) w' s'∧
    ((j<pat.length∧fnd j S.k=some (some i)∧i<h.length∧(s'.wr (β i)→ ∃s,h[i]?=some s∧s.wr (β i)))∨(pat.length≤j∧i=h.length+(j - pat.length)))):=by
  intro i s' hs'
  rcases Nat.lt_or_ge i h.length with hi|hi
  ·obtain ⟨s,hs,he⟩:=hget1 i s' hi hs'
   have hsb:s.bnd h.length=true:=List.all_eq_true.1 hbnd s (List.mem_of_getElem? hs)
   rw [hag i hi]
   have keep:(∀j p,pat[j]?=some p→p.wr (bsub E β h S j)→fnd j S.k≠some (some i))→SBlk.ok E' β' (β i) w' s:=fun hn=>by
    rw [(hst i s hs).1,SBlk.ok_agree hag s hsb]
    exact SBlk.ok_frame (apart i s hs hn) (hw.ok i s hs)
   unfold postOld at he
   split at he
   ·rename_i j hj
    obtain ⟨hjm,hjk⟩:=inv_some hj
    have hco:=List.all_eq_true.1 hold j (List.mem_range.2 hjm)
    unfold chkOld at hco
    split at hco
    ·rename_i p q hpj hqj
     rw [hpj,hqj] at he
     simp only at he
     have hone:=chk_one hc hpj
     unfold chkOne at hone
     simp only [hjk] at hone hco
     have hjs: ∀j',j'<pat.length→fnd j' S.k=some (some i)→j'=j:=fun j' h1 h2=>injB_ok hinj h1 hjm h2 hjk
     have e0:β0 j=bsub E β h S j:=hx.agree j hjm
     have hlike:=bsub_like (E:=E) (β:=β) (h:=h) hjk
     have hiff:=blk_iff (E:=E) (β:=β) hF hjk hs hone
     right
     refine ⟨j,q,hqj,?_⟩
     split at he
     ·rename_i hsame
      have hpq:=SBlk.same_ok hsame
      subst hpq
      subst he
      by_cases hany:p= .any
      ·subst hany
       refine ⟨fun x hx'=>?_,keep fun j' p' hp' hwr h2=>?_,.inl ⟨hjm,hjk,hi,fun hr=>⟨s',hs,hr⟩⟩⟩
       ·rw [(hst i s' hs).2] at hx'
        have hnp:s'.isPr=false:=any_notPr hs hone
        exact ⟨trivial,by rw [e0,hlike.a];exact SBlk.at_eq hx' hnp⟩
       ·have hjj:=hjs j' (lt_len hp') h2
        subst hjj
        rw [hpj] at hp';cases hp';exact hwr.elim
      ·refine ⟨fun x hx'=>?_,?_,.inl ⟨hjm,hjk,hi,fun hr=>⟨s',hs,hr⟩⟩⟩
       ·rw [(hst i s' hs).2] at hx'
        rw [(hpa j p hpj).2,e0]
        exact hiff.2.2.2.1 hany x hx'
       ·have h1:=h0.ok j p hqj
        have hpbj:p.bnd pat.length=true:=List.all_eq_true.1 hpb p (List.mem_of_getElem? hpj)
        rw [(hpa j p hpj).1,SBlk.ok_agree (fun k hk=>hx.agree k hk) p hpbj,e0] at h1
        rw [(hst i s' hs).1]
        exact (SBlk.ok_agree hag s' hsb (β i) w').2 (hiff.2.1 hany w' h1)
     ·rename_i hsame
      rw [Bool.or_eq_true] at hco
      rcases hco with hco|hco
      ·exact (hsame hco).elim
      ·simp only [Bool.and_eq_true,Bool.not_eq_true'] at hco
       obtain ⟨⟨hna,hqs⟩,htail⟩:=hco
       have hany:p≠ .any:=by intro hh;subst hh;cases hna
       by_cases hqd:isDead q=true
       ·have:=isDead_eq hqd
        subst this
        subst he
        exact ⟨fun x hx'=>hx'.1.elim,trivial,.inl ⟨hjm,hjk,hi,fun hr=>hr.elim⟩⟩
       ·have hQ:(β0 j).q=(β i).q:=by
         rw [e0]
         unfold bsub siteQ
         rw [hjk]
         simp only [hs]
         rw [hs] at htail
         cases s with
         |row a ks n tail T=>
          cases tail with
          |nil=>rfl
          |cons v r=>simp only at htail;exact (hqd htail).elim
         |_=>rfl
        have hl0:Bk.like (β0 j) (β i):=by rw [e0];exact hlike
        have hin:=SBlk.inst_at (E:=E') (β:=β') (S:=Sf) (s:=q) hl0
        subst he
        refine ⟨fun x hx'=>?_,?_,.inl ⟨hjm,hjk,hi,fun hr=>?_⟩⟩
        ·exact ((hpo j q hqj).2 _ _).1 ((hin.1 x).1 hx')
        ·rw [SBlk.inst_ok hBm hqs hl0 hQ w',(hpo j q hqj).1]
         exact h0.ok j q hqj
        ·have hqr:=hin.2.1 hr
         obtain ⟨t,ht1,ht2⟩:=hx.kind j q hjm hqj (by rw [←e0];exact hqr)
         rw [hpj] at ht1;cases ht1
         exact ⟨s,hs,hiff.2.2.2.2 ht2⟩
    ·cases hco
   ·rename_i hj
    subst he
    left
    exact ⟨s',hs,rfl,rfl,fun j h1 h2=>inv_none hj h1 h2,keep fun j' p' hp' _ h2=>inv_none hj (lt_len hp') h2⟩
  ·obtain ⟨t,rfl⟩: ∃t,i=h.length+t:=⟨i - h.length,by omega⟩
   obtain ⟨q,h1,h2,h3⟩:=hget2 t s' hs'
   right
   have hin:=SBlk.inst_at (E:=E') (β:=β') (S:=Sf) (s:=q) (x:=β0 (pat.length+t)) (y:=β0 (pat.length+t)) ⟨rfl,rfl,rfl,rfl,rfl⟩
   refine ⟨pat.length+t,q,h1,fun x hx'=>?_,?_,.inr ⟨by omega,by omega⟩⟩
   ·rw [hagN t,h2] at hx'
    exact ((hpo _ q h1).2 _ _).1 ((hin.1 x).1 hx')
   ·rw [hagN t,h2,SBlk.inst_ok hBm h3 (x:=β0 (pat.length+t)) ⟨rfl,rfl,rfl,rfl,rfl⟩ rfl w',(hpo _ q h1).1]
    exact h0.ok _ q h1
 have cross: ∀(i:Nat) (s:SBlk) (j:Nat) (q:SBlk) (x:Nat),h[i]?=some s→s.at E (β i) x→(∀j,j<pat.length→fnd j S.k≠some (some i))→post[j]?=some q→q.at E2 (β0 j) x→False:=by
  intro i s j q x hs hat hun hq hqa
  rcases hx.fresh j q x hq hqa with hf|⟨k,p,hp1,hp2,_⟩
  ·have:=hw.lt i s x hs hat;omega
  ·obtain ⟨b,u,f1,f2,_,f3,_⟩:=chk_at hF hc hp1 hp2
   have:=hw.dis i b s u x hs f2 hat f3
   subst this
   exact hun k (lt_len hp1) f1
 refine ⟨⟨fun i j s t x hi hj hri hrj=>?_,fun i s x hi hr=>?_,fun i s hi=>?_⟩,⟨?_,hag,fun i s hi hs hr=>?_,fun i s x hs hr=>?_,hx.size,fun c hc' hn=>?_,hx.os,hx.tape,hx.output⟩,hBm,hag⟩
 ·rcases cls i s hi with ⟨s0,i2,rfl,i4,i5,_⟩|⟨j1,q1,i2,i3,_,i4⟩<;>rcases cls j t hj with ⟨t0,j2,rfl,j4,j5,_⟩|⟨j3,q2,j4,j5,_,j6⟩
  ·rw [i4,(hst i s i2).2] at hri;rw [j4,(hst j t j2).2] at hrj
   exact hw.dis i j s t x i2 j2 hri hrj
  ·rw [i4,(hst i s i2).2] at hri
   exact (cross i s j3 q2 x i2 hri i5 j4 (j5 x hrj)).elim
  ·rw [j4,(hst j t j2).2] at hrj
   exact (cross j t j1 q1 x j2 hrj j5 i2 (i3 x hri)).elim
  ·have hjj:=h0.dis j1 j3 q1 q2 x i2 j4 (i3 x hri) (j5 x hrj)
   subst hjj
   rcases i4 with ⟨a1,a2,_⟩|⟨a1,a2⟩<;>rcases j6 with ⟨b1,b2,_⟩|⟨b1,b2⟩
   ·rw [a2] at b2;cases b2;rfl
   ·omega
   ·omega
   ·omega
 ·rcases cls i s hi with ⟨s0,i2,rfl,i4,i5,_⟩|⟨j1,q1,i2,i3,_,i4⟩
  ·rw [i4,(hst i s i2).2] at hr
   exact Nat.lt_of_lt_of_le (hw.lt i s x i2 hr) hx.size
  ·exact h0.lt j1 q1 x i2 (i3 x hr)
 ·rcases cls i s hi with ⟨s0,i2,rfl,i4,i5,i6⟩|⟨j1,q1,i2,i3,i6,i4⟩
  ·exact i6
  ·exact i6
 ·unfold newHeap;simp
 ·rcases cls i s hs with ⟨s0,i2,rfl,i4,i5,_⟩|⟨j1,q1,i2,i3,_,i4⟩
  ·exact ⟨s,i2,hr⟩
  ·rcases i4 with ⟨_,_,_,a3⟩|⟨a1,a2⟩
   ·exact a3 hr
   ·omega
 ·rcases cls i s hs with ⟨s0,i2,rfl,i4,i5,_⟩|⟨j1,q1,i2,i3,_,i4⟩
  ·rw [i4,(hst i s i2).2] at hr
   exact .inr ⟨i,s,i2,hr,.inr rfl⟩
  ·rcases hx.fresh j1 q1 x i2 (i3 x hr) with hf'|⟨k,p,hp1,hp2,hp3⟩
   ·exact .inl hf'
   ·obtain ⟨b,u,f1,f2,_,f3,f4⟩:=chk_at hF hc hp1 hp2
    refine .inr ⟨b,u,f2,f3,?_⟩
    rcases hp3 with hp3|rfl
    ·exact .inl (f4 hp3)
    ·rcases i4 with ⟨_,a2,_⟩|⟨a1,_⟩
     ·rw [f1] at a2;cases a2;exact .inr rfl
     ·have:=lt_len hp1;omega
 ·refine hx.same c hc' fun j p hp hwr hat=>?_
  obtain ⟨b,u,f1,f2,_,f3,f4⟩:=chk_at hF hc hp hat
  exact hn b u f2 (f4 hwr) f3
end Go.Sy
end
end
