/- Reading the rows of pairs of numbers in the fields of records. -/
import Derived.Test.YtgianhjmjiiadaaSyNs
import Derived.Maps.RangeRun
import Derived.Test.YtgianhjmjiiadaaSyA
import Derived.Test.YtgianhjmjiiadaaSyE
import Derived.Test.YtgianhjmjiiadaaSyI
import Derived.Test.YtgianhjmjiiadaaSyW
import Derived.Test.YtgianhjmjiiadaaChecked
section
set_option autoImplicit true
set_option relaxedAutoImplicit true
set_option linter.unusedVariables false
set_option linter.unusedSimpArgs false
namespace Go.Sy
open Go
section
variable {P:Program} {E:Env} {β:Nat→Bk} {w:World}
def btNpIx (TS k:Nat) (ix:SE) (pre:Fx):Bt where
 sel op:=match op with
  | .indexAddr t x i=>if t=TS then some [x,i] else none
  |_=>none
 rd:=true
 ct:={ g:=0,args:=[nsV ix,.int .i64 (.v 24)],heap:=[recV k],pre:=pre++[(.le (.c 0) (.v 24),true),(.lt (.v 24) (.rd (.v 2) ix),true)],alts:=[{ res:= .pa (.rd (.v 1) ix) (SE.mkMul (.v 24) (.c 2)),post:=[recV k] }] }
def btNpIn (TA k:Nat) (ix:SE) (pre:Fx):Bt where
 sel op:=match op with
  | .indexAddr t x i=>if t=TA then some [x,i] else none
  |_=>none
 rd:=true
 ct:={ g:=0,args:=[.pa (.rd (.v 1) ix) (.v 24),.int .i64 (.v 26)],heap:=[recV k],pre:=pre++[(.le (.c 0) (.v 24),true),(.lt (.v 24) (SE.mkMul (.rd (.v 2) ix) (.c 2)),true),(.le (.c 0) (.v 26),true),(.lt (.v 26) (.c 2),true)],alts:=[{ res:= .pa (.rd (.v 1) ix) (SE.mkAdd (.v 24) (.v 26)),post:=[recV k] }] }
def btNpLd (T k:Nat) (ix:SE) (pre:Fx) (W:Nat) (kk:IntKind):Bt where
 sel op:=match op with
  | .load t x=>if t=T then some [x] else none
  |_=>none
 rd:=true
 ct:={ g:=0,args:=[.pa (.rd (.v 1) ix) (.v 24)],heap:=[recV k],pre:=pre++[(.le (.c 0) (.v 24),true),(.lt (.v 24) (SE.mkMul (.rd (.v 2) ix) (.c 2)),true)],alts:=[{ res:= .int kk (.rd (.v 4) (SE.mkAdd (SE.mkMul ix (.c (W:Nat))) (.v 24))),post:=[recV k] }] }
def btNpAll (T k:Nat) (ix:SE) (pre:Fx) (W:Nat) (kk:IntKind):Bt where
 sel op:=match op with
  | .load t x=>if t=T then some [x] else none
  |_=>none
 rd:=true
 ct:={ g:=0,args:=[.pa (.rd (.v 1) ix) (.v 24)],heap:=[recV k],pre:=pre++[(.le (.c 0) (.v 24),true),(.lt (SE.mkAdd (.v 24) (.c 1)) (SE.mkMul (.rd (.v 2) ix) (.c 2)),true)],alts:=[{ res:= .agg [.int kk (.rd (.v 4) (SE.mkAdd (SE.mkMul ix (.c (W:Nat))) (.v 24))),.int kk (.rd (.v 4) (SE.mkAdd (SE.mkMul ix (.c (W:Nat))) (SE.mkAdd (.v 24) (.c 1))))],post:=[recV k] }] }
theorem np_addr {fns:Fns} {k kc f:Nat} {r:RecP} (hR:RecOk fns k kc r) (hf:f<r.m) (hE:E.fn=fns) (hw:HOk E β [recV k] w) {ix:SE} {pre:Fx} (hix:IxOk r.m f ix pre) (hp:Facts E pre) {kk:IntKind} (hk:r.nk f=[.int kk,.int kk]):
 ∃K:Nat,(ix.den E=(K:Int)∧(ix.den E).toNat=K)∧(0<(SE.rd (.v 2) ix).den E→0≤E.a 1 K∧(SE.rd (.v 1) ix).den E=E.a 1 K∧(SE.rd (.v 2) ix).den E=E.a 2 K∧(SE.rd (.v 3) ix).den E=E.a 3 K∧
  ∀j:Nat,(j:Int)<E.a 2 K*2→w.cell? ⟨(E.a 1 K).toNat,j,none⟩=some (.int kk (E.a 4 (K*r.W+j)))):=by
 obtain ⟨K,⟨hKi,hK⟩,b1,b2⟩:=ns_of hR hf hE hw hix hp
 have dr: ∀a:Nat,(SE.rd (.v a) ix).den E=E.a a K:=fun a=>by simp only [SE.den,AE.den,hK]
 refine ⟨K,⟨hKi,hK⟩,fun hpos=>?_⟩
 rw [dr] at hpos
 have hB:0≤E.a 1 K:=by
  rcases Int.lt_or_le (E.a 1 K) 0 with h|h
  ·rw [if_neg (by omega)] at b2;omega
  ·exact h
 rw [if_pos hB] at b2
 obtain ⟨cs,T',fz,h1,h2⟩:=b2
 refine ⟨hB,dr 1,dr 2,dr 3,fun j hj=>?_⟩
 have hcell:=h2 j (by rw [hk];show j<_*2;omega)
 simp only [World.cell?,h1]
 rw [hcell,hk]
 have:j % [SK.int kk,SK.int kk].length=0∨j % [SK.int kk,SK.int kk].length=1:=by
  show j % 2=0∨j % 2=1
  omega
 rcases this with h|h<;>rw [h]<;>rfl
theorem np_ix {ix:SE} {W K:Nat} (hKi:ix.den E=(K:Int)) {x:SE} (hx:0≤x.den E):((SE.mkAdd (SE.mkMul ix (.c (W:Nat))) x).den E).toNat=K*W+(x.den E).toNat:=by
 rw [SE.den_mkAdd,SE.den_mkMul]
 show (ix.den E*(W:Int)+x.den E).toNat=_
 rw [hKi,←Int.natCast_mul]
 omega
theorem btNpIx_ok {fns:Fns} {TS k kc f:Nat} {r:RecP} {kk:IntKind} (hR:RecOk fns k kc r) (hf:f<r.m) {ix:SE} {pre:Fx} (hix:IxOk r.m f ix pre) (hk:r.nk f=[.int kk,.int kk]) {e:TypeId} (ht:P.underlying TS=some (.slice e)) (hs:sizeT P e=some 2):BtOk P fns (btNpIx TS k ix pre):=by
 intro E β w hE _ hw hF
 refine ⟨fun a ha=>(by cases ha;intro q hq;cases hq),fun eval o xs hsel hxs=>?_⟩
 have hsel': ∃s i,o.op= .indexAddr TS s i∧xs=[s,i]:=by
  unfold btNpIx at hsel
  simp only at hsel
  split at hsel
  ·rename_i t s i ho
   split at hsel
   ·rename_i htt
    subst htt
    cases hsel
    exact ⟨s,i,ho,rfl⟩
   ·cases hsel
  ·cases hsel
 obtain ⟨s,jx,ho,rfl⟩:=hsel'
 simp only [btNpIx,List.map_cons,List.map_nil,SV.denL,List.cons.injEq,and_true] at hxs
 obtain ⟨e1,e2⟩:=hxs
 have hp:Facts E pre:=fun q hq=>hF q (List.mem_append_left _ hq)
 have p2:0≤E.i 24:=of_decide_eq_true (hF (.le (.c 0) (.v 24),true) (by simp [btNpIx]))
 have p3:E.i 24<(SE.rd (.v 2) ix).den E:=of_decide_eq_true (hF (.lt (.v 24) (.rd (.v 2) ix),true) (by simp [btNpIx]))
 obtain ⟨K,⟨hKi,hK⟩,hh⟩:=np_addr hR hf hE hw hix hp hk
 obtain ⟨hB,d1,d2,d3,_⟩:=hh (by omega)
 refine bt_one (b:=btNpIx TS k ix pre) rfl rfl rfl rfl rfl rfl hw ?_
 unfold execOp
 simp only [ho]
 refine val_run ?_
 have hd1:(nsV ix).den E β= .slice (some ⟨(E.a 1 K).toNat,0,none⟩) (E.a 2 K).toNat (E.a 3 K).toNat:=by
  simp only [nsV,SV.den,d1,d2,d3,hB,if_true];rfl
 have hd2:(SV.pa (.rd (.v 1) ix) (SE.mkMul (.v 24) (.c 2))).den E β= .pointer (some ⟨(E.a 1 K).toNat,(E.i 24).toNat*2,none⟩):=by
  simp only [SV.den,d1,hB,if_true,SE.den_mkMul]
  show Value.pointer (some ⟨_,(E.i 24*2).toNat,none⟩)=_
  rw [show (E.i 24*2).toNat=(E.i 24).toNat*2 by omega]
 rw [e1,e2,hd1,hd2]
 rw [d2] at p3
 simp only [SV.den,SE.den,Instr.indexAt,asIntOf,Sem.run_bind,Sem.run_pure,Result.andThen_ok,underlying,run_program,ht]
 have hlt:E.i 24<(((E.a 2 K).toNat:Nat):Int):=by omega
 simp only [p2,hlt,and_self,if_true,Sem.run_bind,sizeT_ok hs,Result.andThen_ok,Sem.run_pure,addr_add,Int.toNat_zero,Nat.zero_add]
theorem btNpIn_ok {fns:Fns} {TA k kc f:Nat} {r:RecP} {kk:IntKind} (hR:RecOk fns k kc r) (hf:f<r.m) {ix:SE} {pre:Fx} (hix:IxOk r.m f ix pre) (hk:r.nk f=[.int kk,.int kk]) {e:TypeId} (ht:P.underlying TA=some (.array 2 e)) (hs:sizeT P e=some 1):BtOk P fns (btNpIn TA k ix pre):=by
 intro E β w hE _ hw hF
 refine ⟨fun a ha=>(by cases ha;intro q hq;cases hq),fun eval o xs hsel hxs=>?_⟩
 have hsel': ∃s i,o.op= .indexAddr TA s i∧xs=[s,i]:=by
  unfold btNpIn at hsel
  simp only at hsel
  split at hsel
  ·rename_i t s i ho
   split at hsel
   ·rename_i htt
    subst htt
    cases hsel
    exact ⟨s,i,ho,rfl⟩
   ·cases hsel
  ·cases hsel
 obtain ⟨s,jx,ho,rfl⟩:=hsel'
 simp only [btNpIn,List.map_cons,List.map_nil,SV.denL,List.cons.injEq,and_true] at hxs
 obtain ⟨e1,e2⟩:=hxs
 have hp:Facts E pre:=fun q hq=>hF q (List.mem_append_left _ hq)
 have p1:0≤E.i 24:=of_decide_eq_true (hF (.le (.c 0) (.v 24),true) (by simp [btNpIn]))
 have q3:E.i 24<(SE.mkMul (.rd (.v 2) ix) (.c 2)).den E:=of_decide_eq_true (hF (.lt (.v 24) (SE.mkMul (.rd (.v 2) ix) (.c 2)),true) (by simp [btNpIn]))
 rw [SE.den_mkMul] at q3
 have q3':E.i 24<(SE.rd (.v 2) ix).den E*2:=q3
 have p2:0≤E.i 26:=of_decide_eq_true (hF (.le (.c 0) (.v 26),true) (by simp [btNpIn]))
 have p3:E.i 26<2:=of_decide_eq_true (hF (.lt (.v 26) (.c 2),true) (by simp [btNpIn]))
 obtain ⟨K,⟨hKi,hK⟩,hh⟩:=np_addr hR hf hE hw hix hp hk
 obtain ⟨hB,d1,d2,d3,hc⟩:=hh (by omega)
 refine bt_one (b:=btNpIn TA k ix pre) rfl rfl rfl rfl rfl rfl hw ?_
 unfold execOp
 simp only [ho]
 refine val_run ?_
 have hd1:(SV.pa (.rd (.v 1) ix) (.v 24)).den E β= .pointer (some ⟨(E.a 1 K).toNat,(E.i 24).toNat,none⟩):=by
  simp only [SV.den,d1,hB,if_true];rfl
 have hd2:(SV.pa (.rd (.v 1) ix) (SE.mkAdd (.v 24) (.v 26))).den E β= .pointer (some ⟨(E.a 1 K).toNat,(E.i 24).toNat+(E.i 26).toNat,none⟩):=by
  simp only [SV.den,SE.den_mkAdd,d1]
  show (if 0≤E.a 1 K then Value.pointer (some ⟨(E.a 1 K).toNat,(E.i 24+E.i 26).toNat,none⟩) else _)=_
  rw [if_pos hB,show (E.i 24+E.i 26).toNat=(E.i 24).toNat+(E.i 26).toNat by omega]
 rw [e1,e2,hd1,hd2]
 simp only [SV.den,SE.den,Instr.indexAt,asIntOf,Instr.sureAddr,Sem.run_bind,Sem.run_pure,Result.andThen_ok,underlying,run_program,ht]
 have hlt:E.i 26<((2:Nat):Int):=p3
 simp [p2,p3,sizeT_ok hs,addr_add]
theorem btNpLd_ok {fns:Fns} {T k kc f:Nat} {r:RecP} {kk:IntKind} (hR:RecOk fns k kc r) (hf:f<r.m) {ix:SE} {pre:Fx} (hix:IxOk r.m f ix pre) (hk:r.nk f=[.int kk,.int kk]) (ha:isAggT P T=some false):BtOk P fns (btNpLd T k ix pre r.W kk):=by
 intro E β w hE _ hw hF
 refine ⟨fun a ha=>(by cases ha;intro q hq;cases hq),fun eval o xs hsel hxs=>?_⟩
 have hsel': ∃s,o.op= .load T s∧xs=[s]:=by
  unfold btNpLd at hsel
  simp only at hsel
  split at hsel
  ·rename_i t s ho
   split at hsel
   ·rename_i htt
    subst htt
    cases hsel
    exact ⟨s,ho,rfl⟩
   ·cases hsel
  ·cases hsel
 obtain ⟨s,ho,rfl⟩:=hsel'
 simp only [btNpLd,List.map_cons,List.map_nil,SV.denL,List.cons.injEq,and_true] at hxs
 have hp:Facts E pre:=fun q hq=>hF q (List.mem_append_left _ hq)
 have p2:0≤E.i 24:=of_decide_eq_true (hF (.le (.c 0) (.v 24),true) (by simp [btNpLd]))
 have p3:E.i 24<(SE.mkMul (.rd (.v 2) ix) (.c 2)).den E:=of_decide_eq_true (hF (.lt (.v 24) (SE.mkMul (.rd (.v 2) ix) (.c 2)),true) (by simp [btNpLd]))
 rw [SE.den_mkMul] at p3
 have p3':E.i 24<(SE.rd (.v 2) ix).den E*2:=p3
 obtain ⟨K,⟨hKi,hK⟩,hh⟩:=np_addr hR hf hE hw hix hp hk
 obtain ⟨hB,d1,d2,d3,hc⟩:=hh (by omega)
 rw [d2] at p3'
 have hc':=hc (E.i 24).toNat (by omega)
 refine bt_one (b:=btNpLd T k ix pre r.W kk) rfl rfl rfl rfl rfl rfl hw ?_
 unfold execOp
 simp only [ho]
 refine val_run ?_
 rw [hxs]
 have hix:=np_ix (W:=r.W) hKi (x:= .v 24) p2
 have hd2:(SV.pa (.rd (.v 1) ix) (.v 24)).den E β= .pointer (some ⟨(E.a 1 K).toNat,(E.i 24).toNat,none⟩):=by
  simp only [SV.den,d1,hB,if_true];rfl
 rw [hd2]
 simp only [Instr.loadAt,Instr.sureAddr,Sem.run_bind,Sem.run_pure,Result.andThen_ok,loadVar,isAggT_ok ha]
 simp only [SE.den] at hix
 simp [hc',SV.den,SE.den,AE.den,hix]
theorem btNpAll_ok {fns:Fns} {T k kc f:Nat} {r:RecP} {kk:IntKind} (hR:RecOk fns k kc r) (hf:f<r.m) {ix:SE} {pre:Fx} (hix:IxOk r.m f ix pre) (hk:r.nk f=[.int kk,.int kk]) (ha:isAggT P T=some true) (hs:sizeT P T=some 2):BtOk P fns (btNpAll T k ix pre r.W kk):=by
 intro E β w hE _ hw hF
 refine ⟨fun a ha=>(by cases ha;intro q hq;cases hq),fun eval o xs hsel hxs=>?_⟩
 have hsel': ∃s,o.op= .load T s∧xs=[s]:=by
  unfold btNpAll at hsel
  simp only at hsel
  split at hsel
  ·rename_i t s ho
   split at hsel
   ·rename_i htt
    subst htt
    cases hsel
    exact ⟨s,ho,rfl⟩
   ·cases hsel
  ·cases hsel
 obtain ⟨s,ho,rfl⟩:=hsel'
 simp only [btNpAll,List.map_cons,List.map_nil,SV.denL,List.cons.injEq,and_true] at hxs
 have hp:Facts E pre:=fun q hq=>hF q (List.mem_append_left _ hq)
 have p2:0≤E.i 24:=of_decide_eq_true (hF (.le (.c 0) (.v 24),true) (by simp [btNpAll]))
 have p3:(SE.mkAdd (.v 24) (.c 1)).den E<(SE.mkMul (.rd (.v 2) ix) (.c 2)).den E:=of_decide_eq_true (hF (.lt (SE.mkAdd (.v 24) (.c 1)) (SE.mkMul (.rd (.v 2) ix) (.c 2)),true) (by simp [btNpAll]))
 rw [SE.den_mkMul,SE.den_mkAdd] at p3
 have p3':E.i 24+1<(SE.rd (.v 2) ix).den E*2:=p3
 obtain ⟨K,⟨hKi,hK⟩,hh⟩:=np_addr hR hf hE hw hix hp hk
 obtain ⟨hB,d1,d2,d3,hc⟩:=hh (by omega)
 rw [d2] at p3'
 have hc0:=hc (E.i 24).toNat (by omega)
 have hc1:=hc ((E.i 24).toNat+1) (by omega)
 refine bt_one (b:=btNpAll T k ix pre r.W kk) rfl rfl rfl rfl rfl rfl hw ?_
 unfold execOp
 simp only [ho]
 refine val_run ?_
 rw [hxs]
 have hix0:=np_ix (W:=r.W) hKi (x:= .v 24) p2
 have e1:(SE.mkAdd (.v 24) (.c 1)).den E=E.i 24+1:=by rw [SE.den_mkAdd];rfl
 have hix1:=np_ix (W:=r.W) hKi (x:=SE.mkAdd (.v 24) (.c 1)) (by rw [e1];omega)
 rw [e1,show (E.i 24+1).toNat=(E.i 24).toNat+1 by omega] at hix1
 have hd2:(SV.pa (.rd (.v 1) ix) (.v 24)).den E β= .pointer (some ⟨(E.a 1 K).toNat,(E.i 24).toNat,none⟩):=by
  simp only [SV.den,d1,hB,if_true];rfl
 rw [hd2]
 simp only [Instr.loadAt,Instr.sureAddr,Sem.run_bind,Sem.run_pure,Result.andThen_ok,loadVar,isAggT_ok ha,if_true,sizeT_ok hs]
 have v0:(SE.rd (.v 4) (SE.mkAdd (SE.mkMul ix (.c (r.W:Nat))) (.v 24))).den E=E.a 4 (K*r.W+(E.i 24).toNat):=by
  show (AE.v 4).den E _=_
  rw [hix0];simp only [AE.den];rfl
 have v1:(SE.rd (.v 4) (SE.mkAdd (SE.mkMul ix (.c (r.W:Nat))) (SE.mkAdd (.v 24) (.c 1)))).den E=E.a 4 (K*r.W+((E.i 24).toNat+1)):=by
  show (AE.v 4).den E _=_
  rw [hix1];simp only [AE.den]
 have:=loadCells_ok (P:=P) (w:=w) ⟨(E.a 1 K).toNat,(E.i 24).toNat,none⟩ [.int kk (E.a 4 (K*r.W+(E.i 24).toNat)),.int kk (E.a 4 (K*r.W+((E.i 24).toNat+1)))] (fun j u hj=>by
  rw [addr_add]
  match j,hj with
  |0,hj=>cases hj;exact hc0
  |1,hj=>cases hj;exact hc1)
 simp only [List.length_cons,List.length_nil,Nat.zero_add,Nat.reduceAdd] at this
 rw [this]
 simp only [SV.den,SV.denL,v0,v1,Result.andThen_ok]
def btArIx (TA:Nat) (i:Nat):Bt where
 sel op:=match op with
  | .indexAddr t x i=>if t=TA then some [x,i] else none
  |_=>none
 rd:=true
 ct:={ g:=0,args:=[.ptr 0 ⟨.v 20,2,0⟩,.int .i64 (.c (i:Nat))],heap:=[.row (.v 0) [.int .i64,.int .i64] (.v 0) [] TA],alts:=[{ res:= .ptr 0 ⟨.v 20,2,i⟩,post:=[.row (.v 0) [.int .i64,.int .i64] (.v 0) [] TA] }] }
theorem btArIx_ok {fns:Fns} {TA:Nat} {e:TypeId} {i:Nat} (hi:i<2) (ht:P.underlying TA=some (.array 2 e)) (hs:sizeT P e=some 1):BtOk P fns (btArIx TA i):=by
 intro E β w hE _ hw hF
 refine ⟨fun a ha=>(by cases ha;intro q hq;cases hq),fun eval o xs hsel hxs=>?_⟩
 have hsel': ∃s i,o.op= .indexAddr TA s i∧xs=[s,i]:=by
  unfold btArIx at hsel
  simp only at hsel
  split at hsel
  ·rename_i t s i ho
   split at hsel
   ·rename_i htt
    subst htt
    cases hsel
    exact ⟨s,i,ho,rfl⟩
   ·cases hsel
  ·cases hsel
 obtain ⟨s,jx,ho,rfl⟩:=hsel'
 simp only [btArIx,List.map_cons,List.map_nil,SV.denL,List.cons.injEq,and_true] at hxs
 obtain ⟨e1,e2⟩:=hxs
 refine bt_one (b:=btArIx TA i) rfl rfl rfl rfl rfl rfl hw ?_
 unfold execOp
 simp only [ho]
 refine val_run ?_
 rw [e1,e2]
 simp only [SV.den,SE.den,Instr.indexAt,asIntOf,Instr.sureAddr,Sem.run_bind,Sem.run_pure,Result.andThen_ok,underlying,run_program,ht,Off.den]
 have hlt:(i:Int)<((2:Nat):Int):=by omega
 have h0:(0:Int)≤(i:Int):=by omega
 simp [h0,hlt,sizeT_ok hs,addr_add,Nat.add_assoc,hi]
 intro h;omega
end
end Go.Sy
end
section
set_option autoImplicit true
set_option relaxedAutoImplicit true
set_option linter.unusedVariables false
set_option linter.unusedSimpArgs false
namespace Go.Sy
open Go Go.MapKept
section
open Go.ChangeMaps (setBlock)
section
variable {P:Program} {w:World}
def RngV (w:World) (r:Nat) (ik:IntKind) (off:Nat) (pres:Nat→Int) (val:Nat→Value) (left:Nat→Int) (it cur:Int):Prop:=
 ∃es clock seen,w.heap[r]?=some (.map es clock)∧Stamped es clock∧(∀x∈es.toList,∃z:Nat,x.key= .int ik ((z:Int) - off)∧pres z≠0∧x.val=val z)∧(∀z:Nat,pres z≠0→ ∃x∈es.toList,x.key= .int ik ((z:Int) - off))∧
  0≤it∧w.heap[it.toNat]?=some (.mapIter (some r) clock seen clock)∧(∀x∈es.toList,∀z:Nat,x.key= .int ik ((z:Int) - off)→(left z≠0↔seen.contains x.born=false))∧(∀z,left z≠0→pres z≠0)∧
  ∀z:Nat,cur=(z:Int) - off→pres z≠0→ ∃x∈es.toList,x.key= .int ik ((z:Int) - off)∧ ∃s:Array Nat,seen=s.push x.born
theorem RngV.map {r:Nat} {ik:IntKind} {off:Nat} {pres:Nat→Int} {val:Nat→Value} {left:Nat→Int} {it cur:Int} (h:RngV w r ik off pres val left it cur):MapV w r ik off pres val:=by
 obtain ⟨es,clock,seen,h1,h2,h3,h4,_⟩:=h
 exact ⟨es,clock,h1,h2,h3,h4⟩
theorem RngV.frame {w':World} {r:Nat} {ik:IntKind} {off:Nat} {pres:Nat→Int} {val:Nat→Value} {left:Nat→Int} {it cur:Int} (h:RngV w r ik off pres val left it cur) (h1:w'.heap[r]?=w.heap[r]?) (h2:w'.heap[it.toNat]?=w.heap[it.toNat]?):RngV w' r ik off pres val left it cur:=by
 obtain ⟨es,clock,seen,g1,g2,g3,g4,g5,g6,g7⟩:=h
 exact ⟨es,clock,seen,by rw [h1];exact g1,g2,g3,g4,g5,by rw [h2];exact g6,g7⟩
theorem mapv_delete {mty kt et ty r:Nat} {ik:IntKind} {off:Nat} {pres:Nat→Int} {val:Nat→Value} {z:Nat} {es:Array MapEntry} {clock:Nat} (hb:w.heap[r]?=some (.map es clock)) (hs:Stamped es clock) (h1: ∀x∈es.toList,∃z:Nat,x.key= .int ik ((z:Int) - off)∧pres z≠0∧x.val=val z) (h2: ∀z:Nat,pres z≠0→ ∃x∈es.toList,x.key= .int ik ((z:Int) - off))
 (hm:P.underlying mty=some (.map kt et)) (hk:P.underlying kt=some (.int ik)) {at2:TypeId}:
 ∃es',(Builtin.delete_ #[mty,at2] ty #[.map (some r),.int ik ((z:Int) - off)]).run P w= .ok (.tuple #[]) (mset w r (.map es' clock))∧Stamped es' clock∧(∀x,x∈es'.toList↔x∈es.toList∧x.key≠ .int ik ((z:Int) - off)):=by
 have hkey:=isKey_int ik ((z:Int) - off)
 have hnd:(es.toList.map (·.key)).Nodup:=hs.2.2
 rcases mapv_find (r:=r) (z:=z) h1 h2 with ⟨hA,f1,f2⟩|⟨hA,j,e,f1,f2,f3,f4⟩
 ·refine ⟨es,by simp [Builtin.delete_,run_underlying hm,MapKept.run_getObj_map hb,run_checkKey hk hkey,run_findKey hk f1,run_setObj_map _ hb,Result.andThen,mset],hs,fun x=>⟨fun hx=>⟨hx,f2 x hx⟩,fun hx=>hx.1⟩⟩
 ·refine ⟨es.eraseIdxIfInBounds j,by simp [Builtin.delete_,run_underlying hm,MapKept.run_getObj_map hb,run_checkKey hk hkey,run_findKey hk f1,run_setObj_map _ hb,Result.andThen,mset],stamped_erase hs j,fun x=>?_⟩
  have hj:j<es.toList.length:=(List.getElem?_eq_some_iff.1 f2).1
  have hje:es.toList[j]=e:=(List.getElem?_eq_some_iff.1 f2).2
  have hjs:j<es.size:=by simpa using hj
  have el:(es.eraseIdxIfInBounds j).toList=es.toList.eraseIdx j:=by
   unfold Array.eraseIdxIfInBounds
   rw [dif_pos hjs,Array.toList_eraseIdx]
  rw [el]
  have hne: ∀i (hi:i<es.toList.length),i≠j→es.toList[i].key≠ .int ik ((z:Int) - off):=fun i hi hij he=>by
   have h3:(es.toList.map (·.key))[i]'(by simpa using hi)=(es.toList.map (·.key))[j]'(by simpa using hj):=by
    simp only [List.getElem_map]
    rw [he,hje,f3]
   exact hij ((List.getElem_inj hnd).1 h3)
  rw [List.mem_eraseIdx_iff_getElem]
  constructor
  ·rintro ⟨i,hi,hij,rfl⟩
   exact ⟨List.getElem_mem _,hne i hi hij⟩
  ·rintro ⟨hx,hxk⟩
   obtain ⟨i,hi,rfl⟩:=List.getElem_of_mem hx
   refine ⟨i,hi,fun hij=>?_,rfl⟩
   subst hij
   rw [hje] at hxk
   exact hxk f3
theorem mset_same {r:Nat} {o o':Obj} (h:w.heap[r]?=some o'):(mset w r o).heap[r]?=some o:=by
 have:=(Array.getElem?_eq_some_iff.1 h).1
 unfold mset
 rw [Array.getElem?_setIfInBounds,if_pos rfl,if_pos this]
theorem rngv_del {mty kt et ty r:Nat} {ik:IntKind} {off:Nat} {pres:Nat→Int} {val:Nat→Value} {left:Nat→Int} {it cur:Int} {z:Nat} (h:RngV w r ik off pres val left it cur) (hm:P.underlying mty=some (.map kt et)) (hk:P.underlying kt=some (.int ik)) {at2:TypeId}:
 ∃o,(Builtin.delete_ #[mty,at2] ty #[.map (some r),.int ik ((z:Int) - off)]).run P w= .ok (.tuple #[]) (mset w r o)∧RngV (mset w r o) r ik off (fun y=>if y=z then 0 else pres y) val (fun y=>if y=z then 0 else left y) it cur:=by
 obtain ⟨es,clock,seen,hb,hs,h1,h2,h3,h4,h5,h6,h7⟩:=h
 obtain ⟨es',g1,g2,g3⟩:=mapv_delete (P:=P) (ty:=ty) (z:=z) (at2:=at2) hb hs h1 h2 hm hk
 have hir:it.toNat≠r:=fun e=>by rw [e,hb] at h4;cases h4
 refine ⟨_,g1,es',clock,seen,mset_same hb,g2,fun x hx=>?_,fun y hy=>?_,h3,by rw [mset_other hir];exact h4,fun x hx y hy=>?_,fun y hy=>?_,fun y hy hp=>?_⟩
 ·obtain ⟨q1,q2⟩:=(g3 x).1 hx
  obtain ⟨y,e1,e2,e3⟩:=h1 x q1
  refine ⟨y,e1,?_,e3⟩
  show (if y=z then (0:Int) else pres y)≠0
  rw [if_neg (fun hyz=>q2 (by rw [e1,hyz]))];exact e2
 ·by_cases hyz:y=z
  ·simp only [hyz,if_true] at hy;exact absurd rfl hy
  ·simp only [hyz,if_false] at hy
   obtain ⟨x,hx,hxk⟩:=h2 y hy
   exact ⟨x,(g3 x).2 ⟨hx,fun he=>hyz (key_inj (hxk.symm.trans he))⟩,hxk⟩
 ·obtain ⟨q1,q2⟩:=(g3 x).1 hx
  have hyz:y≠z:=fun hyz=>q2 (by rw [hy,hyz])
  simp only [hyz,if_false];exact h5 x q1 y hy
 ·by_cases hyz:y=z
  ·simp only [hyz,if_true] at hy;exact absurd rfl hy
  ·simp only [hyz,if_false] at hy⊢;exact h6 y hy
 ·by_cases hyz:y=z
  ·simp only [hyz,if_true] at hp;exact absurd rfl hp
  ·simp only [hyz,if_false] at hp
   obtain ⟨x,hx,hxk,hsn⟩:=h7 y hy hp
   exact ⟨x,(g3 x).2 ⟨hx,fun he=>hyz (key_inj (hxk.symm.trans he))⟩,hxk,hsn⟩
theorem mapv_range {mty kt et r:Nat} {ik:IntKind} {off:Nat} {pres:Nat→Int} {val:Nat→Value} (h:MapV w r ik off pres val) (hm:P.underlying mty=some (.map kt et)):
 ∃o,(Instr.range mty (.map (some r))).run P w= .ok (.pointer (some ⟨w.heap.size,0,none⟩)) (w.alloc o)∧RngV (w.alloc o) r ik off pres val pres (w.heap.size:Nat) (-(off:Int) - 1):=by
 obtain ⟨es,clock,hb,hs,h1,h2⟩:=h
 have hr:r<w.heap.size:=(Array.getElem?_eq_some_iff.1 hb).1
 refine ⟨_,run_range_map w mty kt et r es clock hm hb,es,clock,#[],?_,hs,h1,h2,by omega,?_,fun x hx z hz=>?_,fun z hz=>hz,fun z hz _=>by omega⟩
 ·rw [heap_alloc_old w _ hr];exact hb
 ·rw [Int.toNat_natCast,heap_alloc_new]
 ·obtain ⟨y,e1,e2,_⟩:=h1 x hx
  have:y=z:=key_inj (e1.symm.trans hz)
  subst this
  simp [e2]
theorem born_inj {es:Array MapEntry} {clock:Nat} (hs:Stamped es clock) {x y:MapEntry} (hx:x∈es.toList) (hy:y∈es.toList) (h:x.born=y.born):x=y:=by
 obtain ⟨i,hi,rfl⟩:=List.getElem_of_mem hx
 obtain ⟨j,hj,rfl⟩:=List.getElem_of_mem hy
 have hnd:=hs.2.1
 have h3:(es.toList.map (·.born))[i]'(by simpa using hi)=(es.toList.map (·.born))[j]'(by simpa using hj):=by simpa only [List.getElem_map] using h
 have:=(List.getElem_inj hnd).1 h3
 subst this;rfl
theorem rngv_next {ty r:Nat} {ik:IntKind} {off:Nat} {pres:Nat→Int} {val:Nat→Value} {left:Nat→Int} {it cur:Int} (h:RngV w r ik off pres val left it cur):
 ((∀z,left z=0)∧(Instr.next (.pointer (some ⟨it.toNat,0,none⟩)) false ty).run P w= .ok (.tuple #[.bool false]) w)∨
 ∃z:Nat,left z≠0∧ ∃w':World,(Instr.next (.pointer (some ⟨it.toNat,0,none⟩)) false ty).run P w= .ok (.tuple #[.bool true,.int ik ((z:Int) - off),val z]) w'∧RngV w' r ik off pres val (fun y=>if y=z then 0 else left y) it ((z:Int) - off)∧
  w'.heap.size=w.heap.size∧(∀x,x≠it.toNat→w'.heap[x]?=w.heap[x]?)∧w'.os=w.os∧w'.tape=w.tape∧w'.output=w.output:=by
 obtain ⟨es,clock,seen,hb,hs,h1,h2,h3,h4,h5,h6,h7⟩:=h
 have hir:it.toNat≠r:=fun e=>by rw [e,hb] at h4;cases h4
 have hil:it.toNat<w.heap.size:=(Array.getElem?_eq_some_iff.1 h4).1
 rcases run_next_at (P:=P) w ty it.toNat r clock clock seen es clock h4 hb hs.1 (Nat.le_refl _) with ⟨g1,g2⟩|⟨e,ge,w1,hw1,g2⟩
 ·left
  refine ⟨fun z=>?_,g2⟩
  by_cases hz:left z=0
  ·exact hz
  ·obtain ⟨x,hx,hxk⟩:=h2 z (h6 z hz)
   have hc:=(h5 x hx z hxk).1 hz
   have:x∈(leftOf es seen).toList:=by
    unfold leftOf
    simp only [Array.toList_filter,List.mem_filter]
    exact ⟨hx,by rw [hc];rfl⟩
   have h0:(leftOf es seen).toList=[]:=List.length_eq_zero_iff.1 (by simpa using g1)
   rw [h0] at this;cases this
 ·right
  have hel:e∈es.toList∧seen.contains e.born=false:=by
   unfold leftOf at ge
   simp only [Array.toList_filter,List.mem_filter] at ge
   exact ⟨ge.1,by simpa using ge.2⟩
  obtain ⟨z,e1,e2,e3⟩:=h1 e hel.1
  have hlz:left z≠0:=(h5 e hel.1 z e1).2 hel.2
  have hw1':w1.heap=w.heap∧w1.os=w.os∧w1.tape=w.tape∧w1.output=w.output:=by rcases hw1 with rfl|rfl<;>exact ⟨rfl,rfl,rfl,rfl⟩
  obtain ⟨q1,q2,q3,q4⟩:=hw1'
  refine ⟨z,hlz,setBlock w1 it.toNat (.mapIter (some r) clock (seen.push e.born) clock),by rw [g2,e1,e3],⟨es,clock,seen.push e.born,?_,hs,h1,h2,h3,?_,fun x hx y hy=>?_,fun y hy=>?_,fun y hy hp=>?_⟩,?_,fun x hx=>?_,q2,q3,q4⟩
  ·show (w1.heap.setIfInBounds it.toNat _)[r]?=_
   rw [Array.getElem?_setIfInBounds,if_neg hir,q1];exact hb
  ·show (w1.heap.setIfInBounds it.toNat _)[it.toNat]?=_
   rw [Array.getElem?_setIfInBounds,if_pos rfl,q1,if_pos hil]
  ·by_cases hyz:y=z
   ·subst hyz
    have:x.born=e.born:=by
     have hxe:x=e:=by
      obtain ⟨i,hi,rfl⟩:=List.getElem_of_mem hx
      obtain ⟨j,hj,rfl⟩:=List.getElem_of_mem hel.1
      have h9:(es.toList.map (·.key))[i]'(by simpa using hi)=(es.toList.map (·.key))[j]'(by simpa using hj):=by
       simp only [List.getElem_map];rw [hy,e1]
      have:=(List.getElem_inj hs.2.2).1 h9
      subst this;rfl
     rw [hxe]
    simp [this]
   ·simp only [hyz,if_false]
    rw [h5 x hx y hy]
    have hne:x.born≠e.born:=fun hbe=>by
     have:=born_inj hs hx hel.1 hbe
     subst this
     exact hyz (key_inj (hy.symm.trans e1))
    simp [hne]
  ·by_cases hyz:y=z
   ·simp only [hyz,if_true] at hy;exact absurd rfl hy
   ·simp only [hyz,if_false] at hy;exact h6 y hy
  ·have:y=z:=by omega
   subst this
   exact ⟨e,hel.1,e1,seen,rfl⟩
  ·show (w1.heap.setIfInBounds _ _).size=_
   rw [Array.size_setIfInBounds,q1]
  ·show (w1.heap.setIfInBounds it.toNat _)[x]?=_
   rw [Array.getElem?_setIfInBounds,if_neg (Ne.symm hx),q1]
theorem rngv_entry {r:Nat} {ik:IntKind} {off:Nat} {pres:Nat→Int} {val:Nat→Value} {left:Nat→Int} {it:Int} {z:Nat} (h:RngV w r ik off pres val left it ((z:Int) - off)) (hp:pres z≠0):
 (Instr.entry (.pointer (some ⟨it.toNat,0,none⟩))).run P w= .ok (.tuple #[.int ik ((z:Int) - off),val z]) w:=by
 obtain ⟨es,clock,seen,hb,hs,h1,h2,h3,h4,h5,h6,h7⟩:=h
 obtain ⟨x,hx,hxk,s,rfl⟩:=h7 z rfl hp
 obtain ⟨y,e1,e2,e3⟩:=h1 x hx
 have:y=z:=key_inj (e1.symm.trans hxk)
 subst this
 rw [run_entry_at w it.toNat r clock s es clock x h4 hb hx hs.2.1,e1,e3]
end
section
variable {P:Program}
structure RngB (fns:Fns) (kr:Nat) (ik:IntKind) (off ge:Nat):Prop where
 p: ∀A B L it cur a v w,fns.p kr [.a A,.a B,.a L,.i it,.i cur] a v w↔RngV w a ik off A (fun z=> .bool (B z !=0)) L it cur
 ft: ∀A B L it cur a v x,fns.ft kr [.a A,.a B,.a L,.i it,.i cur] a v x↔x=a∨x=it.toNat
 g: ∀L,fns.g ge [.a L]=true↔ ∀z,L z=0
def rngS (kr:Nat) (a b l:AE) (it cur:SE):SBlk:= .pr kr (.a a (.a b (.a l (.i it (.i cur .nil)))))
def getB (off:Nat) (x:SE):SB:= .not (.eq (.rd (.v 1) (.add x (.c off))) (.c 0))
def btRange (T k kr off:Nat):Bt where
 sel op:=match op with
  | .range t m=>if t=T then some [m] else none
  |_=>none
 ct:={ g:=0,args:=[.map 0],heap:=[mapS k (.v 0) (.v 1)],nx:=1,
       alts:=[{ res:= .pa (.v 500) (.c 0),post:=[rngS kr (.v 0) (.v 1) (.v 0) (.v 500) (.c (-(off:Int) - 1))],xf:=[(.le (.c 0) (.v 500),true)] }] }
def nextEnd (k ge:Nat):Alt:={ c:= .ap ge (.a (.v 2) .nil),res:= .tup [.bool (.c false)],post:=[mapS k (.v 0) (.v 1)] }
def nextKey (kr:Nat) (ik:IntKind) (off:Nat):Alt:={ res:= .tup [.bool (.c true),.int ik (.v 500),.bool (getB off (.v 500))],post:=[rngS kr (.v 0) (.v 1) (.up (.v 2) (.add (.v 500) (.c off)) (.c 0)) (.v 2) (.v 500)],xf:=[(.le (.c (-(off:Int))) (.v 500),true),(.eq (.rd (.v 2) (.add (.v 500) (.c off))) (.c 0),false),(.eq (.rd (.v 0) (.add (.v 500) (.c off))) (.c 0),false)] }
def btNext (k kr:Nat) (ik:IntKind) (off ge:Nat):Bt where
 sel op:=match op with
  | .next i false=>some [i]
  |_=>none
 ct:={ g:=0,args:=[.pa (.v 2) (.c 0)],heap:=[rngS kr (.v 0) (.v 1) (.v 2) (.v 2) (.v 3)],nx:=1,pre:=[(.le (.c 0) (.v 2),true)],
       alts:=[nextEnd k ge,nextKey kr ik off] }
def entryA (kr:Nat) (ik:IntKind) (off:Nat):Alt:={ res:= .tup [.int ik (.v 3),.bool (getB off (.v 3))],post:=[rngS kr (.v 0) (.v 1) (.v 2) (.v 2) (.v 3)] }
def btEntry (kr:Nat) (ik:IntKind) (off:Nat):Bt where
 sel op:=match op with
  | .entry i=>some [i]
  |_=>none
 rd:=true
 ct:={ g:=0,args:=[.pa (.v 2) (.c 0)],heap:=[rngS kr (.v 0) (.v 1) (.v 2) (.v 2) (.v 3)],pre:=[(.le (.c 0) (.v 2),true),(.le (.c (-(off:Int))) (.v 3),true),(.eq (.rd (.v 0) (.add (.v 3) (.c off))) (.c 0),false)],
       alts:=[entryA kr ik off] }
def btDelR (T kr:Nat) (ik:IntKind) (off:Nat):Bt where
 sel op:=match op with
  | .call { callee:= .builtin .delete,args:=⟨[m,x]⟩,argTypes:=⟨[t,_]⟩ }=>if t=T then some [m,x] else none
  |_=>none
 ct:={ g:=0,args:=[.map 0,.int ik (.v 0)],heap:=[rngS kr (.v 0) (.v 1) (.v 2) (.v 2) (.v 3)],pre:=[(.le (.c (-(off:Int))) (.v 0),true)],
       alts:=[{ res:= .tup [],post:=[rngS kr (.up (.v 0) (.add (.v 0) (.c off)) (.c 0)) (.v 1) (.up (.v 2) (.add (.v 0) (.c off)) (.c 0)) (.v 2) (.v 3)] }] }
variable {E E':Env} {β:Nat→Bk} {w w':World} {fns:Fns}
theorem val_run2 {s:Sem Value} {v:Value} (h:s.run P w= .ok v w'):((do pure (Next.value (←s))):Sem Next).run P w= .ok (.value v) w':=by simp [h]
theorem one_turn {k k':Nat} {l l':SL} (hw:HOk E β [.pr k l] w) (hf: ∀x,E'.fn.ft k' (l'.den E') (β 0).a (β 0).v x→(E.fn.ft k (l.den E) (β 0).a (β 0).v x∨w.heap.size≤x)∧x<w'.heap.size) (hsz:w.heap.size≤w'.heap.size)
 (hsame: ∀x,x<w.heap.size→ ¬E.fn.ft k (l.den E) (β 0).a (β 0).v x→w'.heap[x]?=w.heap[x]?) (hos:w'.os=w.os) (htp:w'.tape=w.tape) (hop:w'.output=w.output) (hp:E'.fn.p k' (l'.den E') (β 0).a (β 0).v w'):
 HOk E' β [.pr k' l'] w'∧Ext E [.pr k l] β w E' [.pr k' l'] β w':=by
 have z: ∀(i:Nat) (s:SBlk) (q:SBlk),[q][i]?=some s→i=0∧s=q:=fun i s q h=>by
  match i,h with
  |0,h=>cases h;exact ⟨rfl,rfl⟩
 refine ⟨⟨fun i j s t x hi hj _ _=>by rw [(z i s _ hi).1,(z j t _ hj).1],fun i s x hi hx=>?_,fun i s hi=>?_⟩,⟨Nat.le_refl _,fun _ _=>rfl,fun i s' hi hs hwr=>?_,fun i s' x hi hx=>?_,hsz,fun b hb hn=>?_,hos,htp,hop⟩⟩
 ·obtain ⟨rfl,rfl⟩:=z i s _ hi
  exact (hf x hx).2
 ·obtain ⟨rfl,rfl⟩:=z i s _ hi
  exact hp
 ·obtain ⟨rfl,rfl⟩:=z i s' _ hs
  exact ⟨_,rfl,trivial⟩
 ·obtain ⟨rfl,rfl⟩:=z i s' _ hi
  rcases (hf x hx).1 with h|h
  ·exact .inr ⟨0,_,rfl,h,.inl trivial⟩
  ·exact .inl h
 ·exact hsame b hb (fun h=>hn 0 _ rfl trivial h)
theorem upd_v {E V:Env} {n j:Nat} (h:xb≤j∧j<xb+n):(E.upd xb n V).i j=V.i j:=by
 show (if xb≤j∧j<xb+n then V.i (xb+(j - xb)) else E.i j)=_
 rw [if_pos h,Nat.add_sub_cancel' h.1]
theorem btRange_ok {T k kr off ge kt et:Nat} {ik:IntKind} (hB:MapB fns k ik off) (hR:RngB fns kr ik off ge) (hm:P.underlying T=some (.map kt et)):BtOk P fns (btRange T k kr off):=by
 intro E β w hE _ hw hF
 refine ⟨fun a ha=>(by cases ha;intro q hq;cases hq),fun eval o xs hsel hxs=>?_⟩
 unfold btRange at hsel hxs
 cases ho:o.op<;>simp only [ho] at hsel<;>try (cases hsel;done)
 rename_i t m
 split at hsel
 ·rename_i ht
  subst ht
  cases hsel
  simp only [List.map_cons,List.map_nil,SV.denL,SV.den,List.cons.injEq,and_true] at hxs
  have hp:E.fn.p k ((SL.a (AE.v 0) (SL.a (AE.v 1) .nil)).den E) (β 0).a (β 0).v w:=hw.ok 0 _ rfl
  rw [hE] at hp
  have hp:=(hB.p _ _ _ _ _).1 hp
  obtain ⟨ob,h1,h2⟩:=mapv_range (P:=P) hp hm
  obtain ⟨V,hV⟩: ∃V:Env,V={ E with i:=fun _=>(w.heap.size:Int) }:=⟨_,rfl⟩
  have h500:(E.upd xb 1 V).i 500=(w.heap.size:Int):=by rw [upd_v (by decide),hV]
  have HU:AgE 500 E (E.upd xb 1 V):=Env.upd_ag E xb 1 V
  have hold: ∀c,c<w.heap.size→(w.alloc ob).heap[c]?=w.heap[c]?:=fun c hc=>heap_alloc_old w ob hc
  have hs1:(w.alloc ob).heap.size=w.heap.size+1:=World.size_alloc _ _
  have ea: ∀j:Nat,j<500→(AE.v j).den (E.upd xb 1 V)=(AE.v j).den E:=fun j hj=>by funext t;simp only [AE.den];rw [HU.a j hj]
  have hr:(β 0).a<w.heap.size:=hw.lt 0 _ _ rfl (show E.fn.ft k ((SL.a (AE.v 0) (SL.a (AE.v 1) .nil)).den E) (β 0).a (β 0).v (β 0).a by rw [hE];exact (hB.ft _ _ _ _).2 rfl)
  obtain ⟨k1,k2⟩:=one_turn (E:=E) (E':=E.upd xb 1 V) (k':=kr) (l':=(.a (.v 0) (.a (.v 1) (.a (.v 0) (.i (.v 500) (.i (.c (-(off:Int) - 1)) .nil)))))) hw (w':=w.alloc ob) (fun x hx=>by
   rw [HU.fn,hE] at hx
   have hx':=(hR.ft _ _ _ _ _ _ _ _).1 hx
   rcases hx' with rfl|rfl
   ·exact ⟨.inl (by rw [hE];exact (hB.ft _ _ _ _).2 rfl),by rw [hs1];omega⟩
   ·have:((SE.v 500).den (E.upd xb 1 V)).toNat=w.heap.size:=by show ((E.upd xb 1 V).i 500).toNat=_;rw [h500];omega
    rw [this,hs1];exact ⟨.inr (Nat.le_refl _),by omega⟩) (by rw [hs1];omega) (fun x hx _=>hold x hx) rfl rfl rfl (by
   rw [HU.fn,hE]
   refine (hR.p _ _ _ _ _ _ _ _).2 ?_
   rw [ea 0 (by decide),ea 1 (by decide)]
   show RngV _ _ _ _ _ _ _ ((E.upd xb 1 V).i 500) _
   rw [h500];exact h2)
  refine ⟨.pointer (some ⟨w.heap.size,0,none⟩),w.alloc ob,.inl ?_,fun h=>(by cases h),⟨_,β,V,rfl,?_,k1,k2,?_⟩⟩
  ·unfold execOp
   simp only [ho,hxs]
   exact val_run2 h1
  ·show Ending.returned _= .returned ((SV.pa (.v 500) (.c 0)).den (E.upd xb 1 V) β)
   simp only [SV.den,SE.den,h500]
   rw [if_pos (by omega)]
   simp
  ·intro q hq
   simp only [List.mem_cons,List.not_mem_nil,or_false] at hq
   subst hq
   exact decide_eq_true (by show (0:Int)≤(E.upd xb 1 V).i 500;rw [h500];omega)
 ·cases hsel
theorem btNext_ok {k kr off ge:Nat} {ik:IntKind} (hB:MapB fns k ik off) (hR:RngB fns kr ik off ge):BtOk P fns (btNext k kr ik off ge):=by
 intro E β w hE _ hw hF
 have hp:E.fn.p kr ((SL.a (.v 0) (.a (.v 1) (.a (.v 2) (.i (.v 2) (.i (.v 3) .nil))))).den E) (β 0).a (β 0).v w:=hw.ok 0 _ rfl
 rw [hE] at hp
 have hp:=(hR.p _ _ _ _ _ _ _ _).1 hp
 have h20:0≤E.i 2:=of_decide_eq_true (hF (.le (.c 0) (.v 2),true) (by simp [btNext]))
 have hgd:(SB.ap ge (.a (.v 2) .nil)).den E=true↔ ∀z,(AE.v 2).den E z=0:=by
  show E.fn.g ge [.a ((AE.v 2).den E)]=true↔_
  rw [hE];exact hR.g _
 have hft0: ∀x,E.fn.ft kr ((SL.a (.v 0) (.a (.v 1) (.a (.v 2) (.i (.v 2) (.i (.v 3) .nil))))).den E) (β 0).a (β 0).v x↔x=(β 0).a∨x=(E.i 2).toNat:=fun x=>by rw [hE];exact hR.ft _ _ _ _ _ _ _ _
 refine ⟨fun a ha=>?_,fun eval o xs hsel hxs=>?_⟩
 ·simp only [btNext,altSel] at ha
  split at ha<;>(try split at ha)<;>first|(cases ha;intro q hq;cases hq)|cases ha
 unfold btNext at hsel hxs
 cases ho:o.op<;>simp only [ho] at hsel<;>try (cases hsel;done)
 rename_i i s
 cases s<;>simp only at hsel<;>try (cases hsel;done)
 cases hsel
 simp only [List.map_cons,List.map_nil,SV.denL,SV.den,SE.den,h20,if_true,List.cons.injEq,and_true,Int.toNat_zero] at hxs
 have hr:(β 0).a<w.heap.size:=hw.lt 0 _ _ rfl ((hft0 _).2 (.inl rfl))
 have hi:(E.i 2).toNat<w.heap.size:=hw.lt 0 _ _ rfl ((hft0 _).2 (.inr rfl))
 rcases rngv_next (P:=P) (ty:=o.type) hp with ⟨g1,g2⟩|⟨z,g1,w',g2,g3,g4,g5,g6,g7,g8⟩
 ·obtain ⟨k1,k2⟩:=one_turn (E:=E) (E':=E.upd xb 1 E) (k':=k) (l':=(.a (.v 0) (.a (.v 1) .nil))) hw (w':=w) (fun x hx=>by
   have HU:AgE 500 E (E.upd xb 1 E):=Env.upd_ag E xb 1 E
   rw [HU.fn,hE] at hx
   have:=(hB.ft _ _ _ _).1 hx
   subst this
   exact ⟨.inl ((hft0 _).2 (.inl rfl)),hr⟩) (Nat.le_refl _) (fun x hx _=>rfl) rfl rfl rfl (by
   have HU:AgE 500 E (E.upd xb 1 E):=Env.upd_ag E xb 1 E
   rw [HU.fn,hE]
   refine (hB.p _ _ _ _ _).2 ?_
   have ea: ∀j:Nat,j<500→(AE.v j).den (E.upd xb 1 E)=(AE.v j).den E:=fun j hj=>by funext t;simp only [AE.den];rw [HU.a j hj]
   rw [ea 0 (by decide),ea 1 (by decide)]
   exact hp.map)
  refine ⟨_,w,.inl ?_,fun h=>(by cases h),⟨nextEnd k ge,β,E,?_,rfl,k1,k2,fun q hq=>(by cases hq)⟩⟩
  ·unfold execOp
   simp only [ho,hxs]
   exact val_run2 g2
  ·show altSel E [nextEnd k ge,nextKey kr ik off]=_
   have h9:(nextEnd k ge).c.den E=true:=hgd.2 g1
   simp only [altSel,h9,if_true]
 ·obtain ⟨V,hV⟩: ∃V:Env,V={ E with i:=fun _=>(z:Int) - off }:=⟨_,rfl⟩
  have h500:(E.upd xb 1 V).i 500=(z:Int) - off:=by rw [upd_v (by decide),hV]
  have HU:AgE 500 E (E.upd xb 1 V):=Env.upd_ag E xb 1 V
  have ea: ∀j:Nat,j<500→(AE.v j).den (E.upd xb 1 V)=(AE.v j).den E:=fun j hj=>by funext t;simp only [AE.den];rw [HU.a j hj]
  have ei: ∀j:Nat,j<500→(SE.v j).den (E.upd xb 1 V)=E.i j:=fun j hj=>HU.i j hj
  have hz5:((SE.add (.v 500) (.c off)).den (E.upd xb 1 V)).toNat=z:=by
   show ((E.upd xb 1 V).i 500+off).toNat=z
   rw [h500];omega
  have hng: ¬ (SB.ap ge (.a (.v 2) .nil)).den E=true:=fun h=>g1 (hgd.1 h z)
  obtain ⟨k1,k2⟩:=one_turn (E:=E) (E':=E.upd xb 1 V) (k':=kr) (l':=(.a (.v 0) (.a (.v 1) (.a (.up (.v 2) (.add (.v 500) (.c off)) (.c 0)) (.i (.v 2) (.i (.v 500) .nil)))))) hw (w':=w') (fun x hx=>by
   rw [HU.fn,hE] at hx
   have hx':=(hR.ft _ _ _ _ _ _ _ _).1 hx
   rw [ei 2 (by decide)] at hx'
   exact ⟨.inl ((hft0 x).2 hx'),by rw [g4];rcases hx' with rfl|rfl<;>assumption⟩) (by omega) (fun x hx hn=>g5 x (fun h=>hn ((hft0 x).2 (.inr h)))) g6 g7 g8 (by
   rw [HU.fn,hE]
   refine (hR.p _ _ _ _ _ _ _ _).2 ?_
   rw [ea 0 (by decide),ea 1 (by decide),ei 2 (by decide)]
   have e1:(AE.up (.v 2) (.add (.v 500) (.c off)) (.c 0)).den (E.upd xb 1 V)=fun y=>if y=z then 0 else (AE.v 2).den E y:=by
    funext y
    show (if y=((SE.add (.v 500) (.c off)).den (E.upd xb 1 V)).toNat then (0:Int) else (AE.v 2).den (E.upd xb 1 V) y)=_
    rw [hz5,ea 2 (by decide)]
   rw [e1]
   show RngV _ _ _ _ _ _ _ _ ((E.upd xb 1 V).i 500)
   rw [h500];exact g3)
  have hpz:(AE.v 0).den E z≠0:=by
   obtain ⟨es,clock,seen,q1,q2,q3,q4,q5,q6,q7,q8,q9⟩:=hp
   exact q8 z g1
  refine ⟨.tuple #[.bool true,.int ik ((z:Int) - off),.bool ((AE.v 1).den E z !=0)],w',.inl ?_,fun h=>(by cases h),⟨nextKey kr ik off,β,V,?_,?_,k1,k2,?_⟩⟩
  ·unfold execOp
   simp only [ho,hxs]
   exact val_run2 g2
  ·show altSel E [nextEnd k ge,nextKey kr ik off]=_
   have h9: ¬ (nextEnd k ge).c.den E=true:=hng
   have h8:(nextKey kr ik off).c.den E=true:=rfl
   rw [show altSel E [nextEnd k ge,nextKey kr ik off]=if (nextEnd k ge).c.den E=true then some (nextEnd k ge) else if (nextKey kr ik off).c.den E=true then some (nextKey kr ik off) else none from rfl,if_neg h9,if_pos h8]
  ·show Ending.returned (.tuple #[.bool true,.int ik ((z:Int) - off),.bool _])= .returned ((SV.tup [.bool (.c true),.int ik (.v 500),.bool (getB off (.v 500))]).den (E.upd xb 1 V) β)
   have e3:(getB off (.v 500)).den (E.upd xb 1 V)=((AE.v 1).den E z !=0):=by
    show (!((AE.v 1).den (E.upd xb 1 V) ((SE.add (.v 500) (.c off)).den (E.upd xb 1 V)).toNat==0))=_
    rw [hz5,ea 1 (by decide)];rfl
   rw [←e3,←h500]
   rfl
  ·intro q hq
   simp only [nextKey,List.mem_cons,List.not_mem_nil,or_false] at hq
   rcases hq with rfl|rfl|rfl
   ·exact decide_eq_true (by show -(off:Int)≤(E.upd xb 1 V).i 500;rw [h500];omega)
   ·show ((AE.v 2).den (E.upd xb 1 V) ((SE.add (.v 500) (.c off)).den (E.upd xb 1 V)).toNat==0)=false
    rw [hz5,ea 2 (by decide)];simpa using g1
   ·show ((AE.v 0).den (E.upd xb 1 V) ((SE.add (.v 500) (.c off)).den (E.upd xb 1 V)).toNat==0)=false
    rw [hz5,ea 0 (by decide)];simpa using hpz
theorem btEntry_ok {kr off ge:Nat} {ik:IntKind} (hR:RngB fns kr ik off ge):BtOk P fns (btEntry kr ik off):=by
 intro E β w hE _ hw hF
 refine ⟨fun a ha=>(by cases ha;intro q hq;cases hq),fun eval o xs hsel hxs=>?_⟩
 have hp:E.fn.p kr ((SL.a (.v 0) (.a (.v 1) (.a (.v 2) (.i (.v 2) (.i (.v 3) .nil))))).den E) (β 0).a (β 0).v w:=hw.ok 0 _ rfl
 rw [hE] at hp
 have hp:=(hR.p _ _ _ _ _ _ _ _).1 hp
 have h20:0≤E.i 2:=of_decide_eq_true (hF (.le (.c 0) (.v 2),true) (by simp [btEntry]))
 have h30: -(off:Int)≤E.i 3:=of_decide_eq_true (hF (.le (.c (-(off:Int))) (.v 3),true) (by simp [btEntry]))
 obtain ⟨z,hz1,hz2⟩:=key_of (E:=E) h30
 have hz3:((SE.add (.v 3) (.c off)).den E).toNat=z:=hz2
 have hpz:(AE.v 0).den E z≠0:=by
  have:=hF (.eq (.rd (.v 0) (.add (.v 3) (.c off))) (.c 0),false) (by simp [btEntry])
  have h1:((AE.v 0).den E ((SE.add (.v 3) (.c off)).den E).toNat==0)=false:=this
  rw [hz3] at h1;simpa using h1
 unfold btEntry at hsel hxs
 cases ho:o.op<;>simp only [ho] at hsel<;>try (cases hsel;done)
 cases hsel
 simp only [List.map_cons,List.map_nil,SV.denL,SV.den,SE.den,h20,if_true,List.cons.injEq,and_true,Int.toNat_zero] at hxs
 have hp':RngV w (β 0).a ik off ((AE.v 0).den E) (fun z=> .bool ((AE.v 1).den E z !=0)) ((AE.v 2).den E) (E.i 2) ((z:Int) - off):=by rw [←hz1];exact hp
 refine ⟨.tuple #[.int ik ((z:Int) - off),.bool ((AE.v 1).den E z !=0)],w,.inl ?_,fun _=>rfl,ext_same E _ β w _ _ rfl (a:=entryA kr ik off) rfl rfl rfl rfl ?_ hw⟩
 ·unfold execOp
  simp only [ho,hxs]
  exact val_run2 (rngv_entry hp' hpz)
 ·show Ending.returned (.tuple #[.int ik ((z:Int) - off),.bool _])= .returned ((SV.tup [.int ik (.v 3),.bool (getB off (.v 3))]).den E β)
  have e3:(getB off (.v 3)).den E=((AE.v 1).den E z !=0):=by
   show (!((AE.v 1).den E ((SE.add (.v 3) (.c off)).den E).toNat==0))=_
   rw [hz3];rfl
  simp only [SV.den,SV.denL,SE.den,e3,hz1]
theorem btDelR_ok {T kr off ge kt et:Nat} {ik:IntKind} (hR:RngB fns kr ik off ge) (hm:P.underlying T=some (.map kt et)) (hk:P.underlying kt=some (.int ik)):BtOk P fns (btDelR T kr ik off):=by
 intro E β w hE _ hw hF
 refine ⟨fun a ha=>(by cases ha;intro q hq;cases hq),fun eval o xs hsel hxs=>?_⟩
 have hp:E.fn.p kr ((SL.a (.v 0) (.a (.v 1) (.a (.v 2) (.i (.v 2) (.i (.v 3) .nil))))).den E) (β 0).a (β 0).v w:=hw.ok 0 _ rfl
 rw [hE] at hp
 have hp:=(hR.p _ _ _ _ _ _ _ _).1 hp
 have h00: -(off:Int)≤E.i 0:=of_decide_eq_true (hF (.le (.c (-(off:Int))) (.v 0),true) (by simp [btDelR]))
 obtain ⟨z,hz1,hz2⟩:=key_of (E:=E) h00
 have hft0: ∀x,E.fn.ft kr ((SL.a (.v 0) (.a (.v 1) (.a (.v 2) (.i (.v 2) (.i (.v 3) .nil))))).den E) (β 0).a (β 0).v x↔x=(β 0).a∨x=(E.i 2).toNat:=fun x=>by rw [hE];exact hR.ft _ _ _ _ _ _ _ _
 have hr:(β 0).a<w.heap.size:=hw.lt 0 _ _ rfl ((hft0 _).2 (.inl rfl))
 have hi:(E.i 2).toNat<w.heap.size:=hw.lt 0 _ _ rfl ((hft0 _).2 (.inr rfl))
 have hsel': ∃m x t2,o.op= .call { callee:= .builtin .delete,args:= #[m,x],argTypes:= #[T,t2] }∧xs=[m,x]:=by
  unfold btDelR at hsel
  simp only at hsel
  split at hsel
  ·rename_i m x t t2 ho
   split at hsel
   ·rename_i htt
    subst htt
    cases hsel
    exact ⟨m,x,t2,ho,rfl⟩
   ·cases hsel
  ·cases hsel
 obtain ⟨m,x,t2,ho,rfl⟩:=hsel'
 simp only [btDelR,List.map_cons,List.map_nil,SV.denL,SV.den,SE.den,List.cons.injEq,and_true] at hxs
 obtain ⟨e1,e2⟩:=hxs
 obtain ⟨ob,g1,g2⟩:=rngv_del (P:=P) (ty:=o.type) (z:=z) (at2:=t2) hp hm hk
 obtain ⟨k1,k2⟩:=one_turn (E:=E) (E':=E) (k':=kr) (l':=(.a (.up (.v 0) (.add (.v 0) (.c off)) (.c 0)) (.a (.v 1) (.a (.up (.v 2) (.add (.v 0) (.c off)) (.c 0)) (.i (.v 2) (.i (.v 3) .nil)))))) hw (w':=mset w (β 0).a ob) (fun x hx=>by
  rw [hE] at hx
  have hx':=(hR.ft _ _ _ _ _ _ _ _).1 hx
  exact ⟨.inl ((hft0 x).2 hx'),by rw [mset_size];rcases hx' with rfl|rfl<;>assumption⟩) (by rw [mset_size];exact Nat.le_refl _) (fun x hx hn=>mset_other fun h=>hn ((hft0 x).2 (.inl h))) rfl rfl rfl (by
  rw [hE]
  refine (hR.p _ _ _ _ _ _ _ _).2 ?_
  have u: ∀a:Nat,(AE.up (.v a) (.add (.v 0) (.c off)) (.c 0)).den E=fun y=>if y=z then 0 else (AE.v a).den E y:=fun a=>by
   funext y;simp only [AE.den,SE.den,hz2]
  rw [u 0,u 2];exact g2)
 refine ⟨.tuple #[],mset w (β 0).a ob,.inl ?_,fun h=>(by cases h),ctPost0 (β':=β) rfl rfl rfl rfl k1 k2⟩
 unfold execOp
 simp only [ho,resolve,invoke,Sem.run_bind,Sem.run_pure,Result.andThen_ok,List.map_toArray,List.map_cons,List.map_nil,e1,e2,hz1]
 simp only [builtin]
 first|exact g1|(rw [g1];rfl)|(simp [g1])
end
end
end Go.Sy
end
section
namespace Go.Proofs.Ytgianhjmjiiadaa
open Go Go.Sy
def za:SB×Bool:=((.le (.c 0) (.v 60)),true)
def zb:SB×Bool:=((.le (.v 60) (.c 60)),true)
def zc:SE:= .rd (.v 5) (.mul (.v 130) (.c 6))
def ze:SB:= .ap 13 (.a (.v 5) (.i (.v 60) .nil))
def zf:SB:= .and (.eq zc (.c 1)) (.and (.not (.eq (.v 114) (.c 0))) (.not (.and (.not (.eq (.rd (.v 5) (.add (.mul (.v 130) (.c 6)) (.c 5))) (.c 0))) (.c false))))
def zg:SB:= .ap 10 (.a (.v 5) (.i (.v 60) .nil))
def zh:SE:= .add (.mul (.v 130) (.c 8)) (.c 1)
def zi:SE:= .rd (.ap 24 (.a (.v 5) .nil)) (.v 130)
def zj:SB:= .and (.eq zc (.c 2)) (.c false)
def zk:SB:= .and (.eq zc (.c 1)) (.and (.not (.eq (.v 114) (.c 0))) (.not (.and (.not (.eq (.rd (.v 5) (.add (.mul (.v 130) (.c 6)) (.c 5))) (.c 0))) (.and (.not (.v 116)) (.not (.le (.add (.v 115) (.c 25000000)) (.rd (.v 5) (.add (.mul (.v 130) (.c 6)) (.c 3)))))))))
def zl:SB:= .and (.eq zc (.c 0)) (.and (.not (.lt (.rd (.v 5) (.add (.mul (.v 130) (.c 6)) (.c 2))) (.v 111))) (.not (.and (.not (.eq (.rd (.v 100) (.rd (.v 5) (.add (.mul (.v 130) (.c 6)) (.c 2)))) (.c 0))) (.not (.eq (.rd (.v 101) (.rd (.v 5) (.add (.mul (.v 130) (.c 6)) (.c 2)))) (.c 0))))))
def zm:SE:= .add (.mul (.v 130) (.c 8)) (.c 3)
def zn:SE:= .rd (.ap 21 (.a (.v 5) .nil)) (.v 130)
def zo:SB:= .and (.eq zc (.c 2)) (.lt (.v 111) (.rd (.v 5) (.add (.mul (.v 130) (.c 6)) (.c 2))))
def zp:SB:= .and (.eq zc (.c 3)) (.not (.and (.not (.lt (.rd (.v 5) (.add (.mul (.v 130) (.c 6)) (.c 2))) (.v 111))) (.not (.and (.not (.eq (.rd (.v 100) (.rd (.v 5) (.add (.mul (.v 130) (.c 6)) (.c 2)))) (.c 0))) (.not (.eq (.rd (.v 101) (.rd (.v 5) (.add (.mul (.v 130) (.c 6)) (.c 2)))) (.c 0)))))))
def zt:SE:= .add (.mul (.v 130) (.c 8)) (.c 5)
def zu:SE:= .rd (.ap 23 (.a (.v 5) .nil)) zt
def zw:SB:= .and (.eq zc (.c 0)) (.not (.and (.not (.lt (.rd (.v 5) (.add (.mul (.v 130) (.c 6)) (.c 2))) (.v 111))) (.not (.and (.not (.eq (.rd (.v 100) (.rd (.v 5) (.add (.mul (.v 130) (.c 6)) (.c 2)))) (.c 0))) (.not (.eq (.rd (.v 101) (.rd (.v 5) (.add (.mul (.v 130) (.c 6)) (.c 2)))) (.c 0)))))))
def zx:SE:= .rd (.ap 20 (.a (.v 5) .nil)) zm
def zy:SE:= .add (.mul (.v 130) (.c 8)) (.c 6)
def z5:SE:= .rd (.ap 23 (.a (.v 5) .nil)) zy
def z6:SE:= .rd (.ap 20 (.a (.v 5) .nil)) zt
def z7:SE:= .rd (.ap 20 (.a (.v 5) .nil)) zy
def z8:SE:= .add (.mul (.v 130) (.c 8)) (.c 7)
def z9:SE:= .rd (.ap 23 (.a (.v 5) .nil)) z8
def zba:SE:= .rd (.ap 20 (.a (.v 5) .nil)) z8
def zbb:SE:= .rd (.ap 20 (.a (.v 5) .nil)) (.add (.mul (.v 130) (.c 8)) (.c 4))
def zbc:List (Nat×SE):=[(119,(.c 0)),(118,(.c 0)),(117,(.c 0)),(115,(.c 0)),(114,(.c 0)),(113,(.c 0)),(112,(.c (-1))),(111,(.c 0)),(110,(.c (-1))),(130,(.c 0))]
def zbd:List (Nat×SB):=[(116,(.c false))]
def zbe:List (Nat×AE):=[(101,(.tl (.v 0) (.c 0) .nil)),(100,(.tl (.v 0) (.c 0) .nil)),(122,(.v 1001)),(121,(.v 1000))]
def zbf:List (Nat×SE):=[(115,(.c 0)),(114,(.c 0)),(110,(.v 112)),(130,(.add (.v 130) (.c 1)))]
def zbg:List (Nat×AE):=[(103,(.ap 33 (.a (.v 100) .nil))),(102,(.ap 33 (.a (.v 100) .nil)))]
def zbh:List (Nat×SE):=[(111,(.rd (.v 5) (.add (.mul (.v 130) (.c 6)) (.c 2)))),(130,(.add (.v 130) (.c 1)))]
def zbi:List (Nat×AE):=[(100,(.ap 34 (.a (.v 100) (.i (.rd (.v 5) (.add (.mul (.v 130) (.c 6)) (.c 2))) .nil))))]
def zbj:List (Nat×SE):=[(119,(.ite (.eq (.rd (.v 5) (.add (.mul (.v 130) (.c 6)) (.c 1))) (.c 3)) (.add (.v 119) (.c 1)) (.v 119))),(118,(.ite (.eq (.rd (.v 5) (.add (.mul (.v 130) (.c 6)) (.c 1))) (.c 1)) (.add (.v 118) (.c 1)) (.v 118))),(117,(.ite (.eq (.rd (.v 5) (.add (.mul (.v 130) (.c 6)) (.c 1))) (.c 2)) (.add (.v 117) (.c 1)) (.v 117))),(115,(.ite (.not (.eq (.rd (.v 5) (.add (.mul (.v 130) (.c 6)) (.c 4))) (.c 0))) (.rd (.v 5) (.add (.mul (.v 130) (.c 6)) (.c 3))) (.v 115))),(114,(.ite (.not (.eq (.rd (.v 5) (.add (.mul (.v 130) (.c 6)) (.c 4))) (.c 0))) (.add (.v 114) (.c 1)) (.v 114))),(113,(.ite (.le (.v 112) (.rd (.v 5) (.add (.mul (.v 130) (.c 6)) (.c 2)))) (.rd (.v 5) (.add (.mul (.v 130) (.c 6)) (.c 3))) (.v 113))),(112,(.ite (.le (.v 112) (.rd (.v 5) (.add (.mul (.v 130) (.c 6)) (.c 2)))) (.rd (.v 5) (.add (.mul (.v 130) (.c 6)) (.c 2))) (.v 112))),(130,(.add (.v 130) (.c 1)))]
def zbk:List (Nat×SB):=[(116,(.not (.and (.not (.v 116)) (.not (.and (.not (.eq (.rd (.v 5) (.add (.mul (.v 130) (.c 6)) (.c 4))) (.c 0))) (.not (.and (.not (.le (.c 1) (.v 114))) (.and (.not (.eq (.rd (.v 5) (.add (.mul (.v 130) (.c 6)) (.c 1))) (.c 3))) (.c true)))))))))]
def zbl:List (Nat×AE):=[(101,(.up (.v 101) (.rd (.v 5) (.add (.mul (.v 130) (.c 6)) (.c 2))) (.c 1))),(100,(.up (.v 100) (.rd (.v 5) (.add (.mul (.v 130) (.c 6)) (.c 2))) (.c 1)))]
def zbm:List (Nat×SE):=[(130,(.add (.v 130) (.c 1)))]
def zbn:List (Nat×SB):=[(116,(.not (.and (.not (.v 116)) (.not (.and (.not (.eq (.rd (.v 5) (.add (.mul (.v 130) (.c 6)) (.c 4))) (.c 0))) (.not (.and (.not (.le (.c 1) (.v 114))) (.and (.not (.eq (.rd (.v 5) (.add (.mul (.v 130) (.c 6)) (.c 1))) (.c 3))) (.and (.not (.and (.lt (.rd (.v 5) (.add (.mul (.v 130) (.c 6)) (.c 2))) (.v 110)) (.not (.and (.not (.eq (.rd (.v 102) (.rd (.v 5) (.add (.mul (.v 130) (.c 6)) (.c 2)))) (.c 0))) (.not (.eq (.rd (.v 103) (.rd (.v 5) (.add (.mul (.v 130) (.c 6)) (.c 2)))) (.c 0))))))) (.not (.ap 31 (.a (.up (.v 100) (.rd (.v 5) (.add (.mul (.v 130) (.c 6)) (.c 2))) (.c 1)) (.a (.up (.v 101) (.rd (.v 5) (.add (.mul (.v 130) (.c 6)) (.c 2))) (.c 1)) (.i (.v 110) (.i (.v 111) (.i (.ite (.le (.v 112) (.rd (.v 5) (.add (.mul (.v 130) (.c 6)) (.c 2)))) (.rd (.v 5) (.add (.mul (.v 130) (.c 6)) (.c 2))) (.v 112)) .nil))))))))))))))))]
def zbo:SB×Bool:=((.le (.c 0) (.v 131)),true)
def zbp:SB×Bool:=((.le (.v 131) (.c 60)),true)
def zbq:SB×Bool:=((.le (.c 0) (.v 133)),true)
def zbr:SB×Bool:=((.lt (.v 30) (.c 2)),false)
def zbs:SB×Bool:=((.lt (.v 30) (.c 2)),true)
def zbt:List (Nat×SB):=[(101,(.c false)),(100,(.c false))]
def zbu:SB×Bool:=((.le (.v 60) (.c 63)),true)
def zbv:SL:= .i (.c 0) (.i (.c 0) (.i (.c 0) .nil))
def zbw:SL:= .i (.c 0) (.i (.c 0) (.i (.c 0) zbv))
def zbx:SL:= .b (.c false) (.b (.c true) zbw)
def zby:SL:= .b (.c false) (.b (.c false) zbw)
def zbz:SL:= .a (.v 100) (.i (.v 100) .nil)
def zb0:SB×Bool:=((.le (.c 0) (.v 110)),true)
def zb1:SB×Bool:=((.le (.v 110) (.c 63)),true)
def zb2:SB×Bool:=((.le (.c 0) (.v 100)),true)
def zb3:SB×Bool:=((.le (.v 100) (.c 51)),true)
def zb4:SB×Bool:=((.ap 1 zbz),true)
def zb5:SB×Bool:=((.le (.v 106) (.v 136)),true)
def zb6:SB×Bool:=((.not (.and (.not (.not (.v 100))) (.not (.le (.c 1) (.v 100))))),true)
def zb7:SB×Bool:=((.le (.c (-1)) (.v 106)),true)
def zb8:SB×Bool:=((.le (.v 106) (.c 1000)),true)
def zb9:SB×Bool:=((.le (.v 131) (.c 63)),true)
def zca:SB×Bool:=((.le (.c 0) (.v 132)),true)
def zcb:SB×Bool:=((.le (.v 132) (.c 63)),true)
def zcc:SB×Bool:=((.le (.v 133) (.c 63)),true)
def zcd:SB×Bool:=((.le (.c 0) (.v 134)),true)
def zce:SB×Bool:=((.le (.c 0) (.v 135)),true)
def zcf:SB×Bool:=((.le (.v 135) (.c 400)),true)
def zcg:SB×Bool:=((.le (.c 0) (.v 136)),true)
def zch:SB×Bool:=((.le (.v 136) (.c 400)),true)
def zci:SB×Bool:=((.le (.c 0) (.v 137)),true)
def zcj:SB×Bool:=((.le (.v 137) (.c 63)),true)
def zck:SB×Bool:=((.le (.c 0) (.v 138)),true)
def zcl:SB×Bool:=((.le (.c (-1)) (.v 139)),true)
def zcm:SB×Bool:=((.le (.v 139) (.c 400)),true)
def zcn:SB×Bool:=((.lt (.v 110) (.v 60)),true)
def zco:SB:= .and (.v 100) (.not (.le (.c 1) (.v 100)))
def zcp:SB×Bool:=(zco,false)
def zcq:SB×Bool:=(zco,true)
def zcr:SB×Bool:=((.v 100),true)
def zcs:SB×Bool:=((.v 100),false)
def zct:SB×Bool:=((.lt (.v 110) (.v 60)),false)
def zcu:SL:= .a (.v 102) (.i (.v 140) .nil)
def zcv:SB×Bool:=((.le (.c 1) (.v 140)),true)
def zcw:SB×Bool:=((.le (.v 140) (.c 51)),true)
def zcx:SB×Bool:=((.ap 2 zcu),true)
def zcy:List (Nat×SB):=[(100,(.c false))]
def zcz:SB×Bool:=((.le (.v 110) (.c 60)),true)
def zc0:SB×Bool:=((.le (.v 132) (.c 60)),true)
def zc1:SB×Bool:=((.le (.v 133) (.c 60)),true)
def zc2:List (Nat×SE):=[(144,(.v 133)),(143,(.v 132)),(142,(.v 131)),(141,(.c 0)),(150,(.c 0)),(140,(.v 100))]
end Go.Proofs.Ytgianhjmjiiadaa
end
section
set_option autoImplicit true
set_option relaxedAutoImplicit true
set_option linter.unusedVariables false
set_option linter.unusedSimpArgs false
namespace Go.Proofs.Ytgianhjmjiiadaa
open Go Go.Sy
def kR (A:Nat→Int) (p:Int):Nat→Nat
 |0=>0
 |n+1=>if A (n*2)≤p+1 then n+1 else kR A p n
theorem kR_le (A:Nat→Int) (p:Int): ∀n,kR A p n≤n
 |0=>Nat.le_refl _
 |n+1=>by
  unfold kR
  split
  ·exact Nat.le_refl _
  ·have:=kR_le A p n;omega
theorem kR_at (A:Nat→Int) (p:Int): ∀n k,kR A p n=k+1→A (k*2)≤p+1
 |0,k,h=>by cases h
 |n+1,k,h=>by
  unfold kR at h
  split at h
  ·have:k=n:=by omega
   subst this;assumption
  ·exact kR_at A p n k h
theorem kR_gt (A:Nat→Int) (p:Int): ∀n j,kR A p n≤j→j<n→p+1<A (j*2)
 |0,j,_,h=>by omega
 |n+1,j,h,hj=>by
  unfold kR at h
  split at h
  ·omega
  ·rcases Nat.lt_or_ge j n with h1|h1
   ·exact kR_gt A p n j h h1
   ·have:j=n:=by omega
    subst this;omega
theorem kR_eq {A:Nat→Int} {p:Int} {n k:Nat} (hk:k≤n) (h1: ∀j,k≤j→j<n→p+1<A (j*2)) (h2:0<k→A ((k - 1)*2)≤p+1):kR A p n=k:=by
 rcases Nat.lt_trichotomy (kR A p n) k with h|h|h
 ·have:=kR_gt A p n (k - 1) (by omega) (by omega)
  have:=h2 (by omega)
  omega
 ·exact h
 ·obtain ⟨t,ht⟩: ∃t,kR A p n=t+1:=⟨kR A p n - 1,by omega⟩
  have:=kR_at A p n t ht
  have:=kR_le A p n
  have:=h1 t (by omega) (by omega)
  omega
def upd (A:Nat→Int) (t:Nat) (x:Int) (j:Nat):Int:=if j=t then x else A j
def ins2 (A:Nat→Int) (n k:Nat) (s e:Int) (j:Nat):Int:=if j<k*2 then A j else if j=k*2 then s else if j=k*2+1 then e else if j<(n+1)*2 then A (j - 2) else 0
def del2 (A:Nat→Int) (i m:Nat) (j:Nat):Int:=if j<i*2 then A j else A (j+m*2)
structure Rg (A:Nat→Int) (n:Nat):Prop where
 le: ∀i,i<n→A (i*2)≤A (i*2+1)
 gap: ∀i j,i<j→j<n→A (i*2+1)+1<A (j*2)
 lo: ∀i,i<n→0≤A (i*2)
 hi: ∀i,i<n→A (i*2+1)≤1000
def Mem (A:Nat→Int) (n:Nat) (x:Int):Prop:= ∃i,i<n∧A (i*2)≤x∧x≤A (i*2+1)
def dupR (A:Nat→Int) (k:Nat) (p:Int):Bool:=decide (A (k*2)≤p∧p≤A (k*2+1))
def addB (A:Nat→Int) (n:Nat) (p:Int):Bool:=match kR A p n with
 |0=>true
 |k+1=>!dupR A k p
def addN (A:Nat→Int) (n:Nat) (p:Int):Nat:=match kR A p n with
 |0=>n+1
 |k+1=>if dupR A k p then n else if A (k*2+1)=p - 1 then n else if A (k*2)=p+1 then (if 0<k∧A ((k - 1)*2+1)+1=p then n - 1 else n) else n+1
def addA (A:Nat→Int) (n:Nat) (p:Int):Nat→Int:=match kR A p n with
 |0=>ins2 A n 0 p p
 |k+1=>if dupR A k p then A else if A (k*2+1)=p - 1 then upd A (k*2+1) p else if A (k*2)=p+1 then (if 0<k∧A ((k - 1)*2+1)+1=p then del2 (upd A ((k - 1)*2+1) (A (k*2+1))) k 1 else upd A (k*2) p) else ins2 A n (k+1) p p
theorem upd_ne {A:Nat→Int} {t j:Nat} {x:Int} (h:j≠t):upd A t x j=A j:=if_neg h
theorem upd_eq (A:Nat→Int) (t:Nat) (x:Int):upd A t x t=x:=if_pos rfl
theorem rg_end {A:Nat→Int} {n k:Nat} {p:Int} (h:Rg A n) (hk:k<n) (he:A (k*2+1)=p - 1) (hg: ∀j,k<j→j<n→p+1<A (j*2)) (hp:p≤1000):
 Rg (upd A (k*2+1) p) n∧ ∀x,Mem (upd A (k*2+1) p) n x↔Mem A n x∨x=p:=by
 have e0: ∀i,upd A (k*2+1) p (i*2)=A (i*2):=fun i=>upd_ne (by omega)
 have e1: ∀i,i≠k→upd A (k*2+1) p (i*2+1)=A (i*2+1):=fun i hi=>upd_ne (by omega)
 have e2:upd A (k*2+1) p (k*2+1)=p:=upd_eq _ _ _
 have hkk:=h.le k hk
 refine ⟨⟨fun i hi=>?_,fun i j hij hj=>?_,fun i hi=>by rw [e0];exact h.lo i hi,fun i hi=>?_⟩,fun x=>⟨?_,?_⟩⟩
 ·rw [e0]
  by_cases c:i=k
  ·subst c;rw [e2];omega
  ·rw [e1 i c];exact h.le i hi
 ·rw [e0]
  by_cases c:i=k
  ·subst c;rw [e2];exact hg j hij hj
  ·rw [e1 i c];exact h.gap i j hij hj
 ·by_cases c:i=k
  ·subst c;rw [e2];exact hp
  ·rw [e1 i c];exact h.hi i hi
 ·rintro ⟨i,hi,a,b⟩
  rw [e0] at a
  by_cases c:i=k
  ·subst c
   rw [e2] at b
   by_cases d:x=p
   ·exact .inr d
   ·exact .inl ⟨i,hi,a,by omega⟩
  ·rw [e1 i c] at b;exact .inl ⟨i,hi,a,b⟩
 ·rintro (⟨i,hi,a,b⟩|rfl)
  ·refine ⟨i,hi,by rw [e0];exact a,?_⟩
   by_cases c:i=k
   ·subst c;rw [e2];omega
   ·rw [e1 i c];exact b
  ·exact ⟨k,hk,by rw [e0];omega,by rw [e2];exact Int.le_refl _⟩
theorem rg_start {A:Nat→Int} {n k:Nat} {p:Int} (h:Rg A n) (hk:k<n) (he:A (k*2)=p+1) (hg:0<k→ ¬A ((k - 1)*2+1)+1=p) (hp:0≤p):
 Rg (upd A (k*2) p) n∧ ∀x,Mem (upd A (k*2) p) n x↔Mem A n x∨x=p:=by
 have e1: ∀i,upd A (k*2) p (i*2+1)=A (i*2+1):=fun i=>upd_ne (by omega)
 have e0: ∀i,i≠k→upd A (k*2) p (i*2)=A (i*2):=fun i hi=>upd_ne (by omega)
 have e2:upd A (k*2) p (k*2)=p:=upd_eq _ _ _
 have hkk:=h.le k hk
 refine ⟨⟨fun i hi=>?_,fun i j hij hj=>?_,fun i hi=>?_,fun i hi=>by rw [e1];exact h.hi i hi⟩,fun x=>⟨?_,?_⟩⟩
 ·rw [e1]
  by_cases c:i=k
  ·subst c;rw [e2];omega
  ·rw [e0 i c];exact h.le i hi
 ·rw [e1]
  by_cases c:j=k
  ·subst c
   rw [e2]
   have g1:=h.gap i j hij hj
   by_cases d:i=j - 1
   ·subst d
    have:=hg (by omega)
    omega
   ·have g2:=h.gap i (j - 1) (by omega) (by omega)
    have g3:=h.gap (j - 1) j (by omega) hj
    have g4:=h.le (j - 1) (by omega)
    omega
  ·rw [e0 j c];exact h.gap i j hij hj
 ·by_cases c:i=k
  ·subst c;rw [e2];exact hp
  ·rw [e0 i c];exact h.lo i hi
 ·rintro ⟨i,hi,a,b⟩
  rw [e1] at b
  by_cases c:i=k
  ·subst c
   rw [e2] at a
   by_cases d:x=p
   ·exact .inr d
   ·exact .inl ⟨i,hi,by omega,b⟩
  ·rw [e0 i c] at a;exact .inl ⟨i,hi,a,b⟩
 ·rintro (⟨i,hi,a,b⟩|rfl)
  ·refine ⟨i,hi,?_,by rw [e1];exact b⟩
   by_cases c:i=k
   ·subst c;rw [e2];omega
   ·rw [e0 i c];exact a
  ·exact ⟨k,hk,by rw [e2];exact Int.le_refl _,by rw [e1];omega⟩
theorem rg_merge {A:Nat→Int} {n k:Nat} {p:Int} (h:Rg A n) (hk:k<n) (h0:0<k) (he:A (k*2)=p+1) (hm:A ((k - 1)*2+1)+1=p):
 Rg (del2 (upd A ((k - 1)*2+1) (A (k*2+1))) k 1) (n - 1)∧ ∀x,Mem (del2 (upd A ((k - 1)*2+1) (A (k*2+1))) k 1) (n - 1) x↔Mem A n x∨x=p:=by
 obtain ⟨B,hB⟩: ∃B,B=del2 (upd A ((k - 1)*2+1) (A (k*2+1))) k 1:=⟨_,rfl⟩
 rw [←hB]
 have l0: ∀i,i<k→B (i*2)=A (i*2):=fun i hi=>by
  rw [hB];unfold del2;rw [if_pos (by omega),upd_ne (by omega)]
 have l1: ∀i,i+1<k→B (i*2+1)=A (i*2+1):=fun i hi=>by
  rw [hB];unfold del2;rw [if_pos (by omega),upd_ne (by omega)]
 have l2:B ((k - 1)*2+1)=A (k*2+1):=by
  rw [hB];unfold del2;rw [if_pos (by omega),upd_eq]
 have g0: ∀i,k≤i→B (i*2)=A ((i+1)*2):=fun i hi=>by
  rw [hB];unfold del2;rw [if_neg (by omega),upd_ne (by omega)];congr 1;omega
 have g1: ∀i,k≤i→B (i*2+1)=A ((i+1)*2+1):=fun i hi=>by
  rw [hB];unfold del2;rw [if_neg (by omega),upd_ne (by omega)];congr 1;omega
 have hkk:=h.le k hk
 have hk1:=h.le (k - 1) (by omega)
 refine ⟨⟨fun i hi=>?_,fun i j hij hj=>?_,fun i hi=>?_,fun i hi=>?_⟩,fun x=>⟨?_,?_⟩⟩
 ·rcases (by omega:i+1<k∨i=k - 1∨k≤i) with c|c|c
  ·rw [l0 i (by omega),l1 i c];exact h.le i (by omega)
  ·subst c;rw [l0 _ (by omega),l2];omega
  ·rw [g0 i c,g1 i c];exact h.le (i+1) (by omega)
 ·rcases (by omega:i+1<k∨i=k - 1∨k≤i) with c|c|c
  ·rw [l1 i c]
   rcases Nat.lt_or_ge j k with d|d
   ·rw [l0 j d];exact h.gap i j hij (by omega)
   ·rw [g0 j d];exact h.gap i (j+1) (by omega) (by omega)
  ·subst c
   rw [l2,g0 j (by omega)];exact h.gap k (j+1) (by omega) (by omega)
  ·rw [g1 i c,g0 j (by omega)];exact h.gap (i+1) (j+1) (by omega) (by omega)
 ·rcases Nat.lt_or_ge i k with c|c
  ·rw [l0 i c];exact h.lo i (by omega)
  ·rw [g0 i c];exact h.lo (i+1) (by omega)
 ·rcases (by omega:i+1<k∨i=k - 1∨k≤i) with c|c|c
  ·rw [l1 i c];exact h.hi i (by omega)
  ·subst c;rw [l2];exact h.hi k hk
  ·rw [g1 i c];exact h.hi (i+1) (by omega)
 ·rintro ⟨i,hi,a,b⟩
  rcases (by omega:i+1<k∨i=k - 1∨k≤i) with c|c|c
  ·rw [l0 i (by omega)] at a;rw [l1 i c] at b;exact .inl ⟨i,by omega,a,b⟩
  ·subst c
   rw [l0 _ (by omega)] at a;rw [l2] at b
   by_cases d:x=p
   ·exact .inr d
   ·rcases Int.lt_or_le x p with e|e
    ·exact .inl ⟨k - 1,by omega,a,by omega⟩
    ·exact .inl ⟨k,hk,by omega,b⟩
  ·rw [g0 i c] at a;rw [g1 i c] at b;exact .inl ⟨i+1,by omega,a,b⟩
 ·rintro (⟨i,hi,a,b⟩|rfl)
  ·rcases (by omega:i+1<k∨i=k - 1∨i=k∨k<i) with c|c|c|c
   ·exact ⟨i,by omega,by rw [l0 i (by omega)];exact a,by rw [l1 i c];exact b⟩
   ·subst c;exact ⟨k - 1,by omega,by rw [l0 _ (by omega)];exact a,by rw [l2];omega⟩
   ·subst c
    have g:=h.gap (i - 1) i (by omega) hk
    exact ⟨i - 1,by omega,by rw [l0 _ (by omega)];omega,by rw [l2];exact b⟩
   ·exact ⟨i - 1,by omega,by rw [g0 _ (by omega),show i - 1+1=i by omega];exact a,by rw [g1 _ (by omega),show i - 1+1=i by omega];exact b⟩
  ·exact ⟨k - 1,by omega,by rw [l0 _ (by omega)];omega,by rw [l2];omega⟩
theorem rg_ins {A:Nat→Int} {n k:Nat} {p:Int} (h:Rg A n) (hk:k≤n) (hb: ∀j,j<k→A (j*2+1)+1<p) (ha: ∀j,k≤j→j<n→p+1<A (j*2)) (h0:0≤p) (hp:p≤1000):
 Rg (ins2 A n k p p) (n+1)∧ ∀x,Mem (ins2 A n k p p) (n+1) x↔Mem A n x∨x=p:=by
 obtain ⟨B,hB⟩: ∃B,B=ins2 A n k p p:=⟨_,rfl⟩
 rw [←hB]
 have l0: ∀i,i<k→B (i*2)=A (i*2)∧B (i*2+1)=A (i*2+1):=fun i hi=>by
  rw [hB];unfold ins2;exact ⟨if_pos (by omega),if_pos (by omega)⟩
 have m0:B (k*2)=p∧B (k*2+1)=p:=by
  rw [hB];unfold ins2
  rw [if_neg (by omega),if_pos rfl,if_neg (by omega),if_neg (by omega),if_pos rfl]
  exact ⟨rfl,rfl⟩
 have g0: ∀i,k<i→i<n+1→B (i*2)=A ((i - 1)*2)∧B (i*2+1)=A ((i - 1)*2+1):=fun i hi hn=>by
  rw [hB];unfold ins2
  rw [if_neg (by omega),if_neg (by omega),if_neg (by omega),if_pos (by omega),if_neg (by omega),if_neg (by omega),if_neg (by omega),if_pos (by omega)]
  exact ⟨by congr 1;omega,by congr 1;omega⟩
 refine ⟨⟨fun i hi=>?_,fun i j hij hj=>?_,fun i hi=>?_,fun i hi=>?_⟩,fun x=>⟨?_,?_⟩⟩
 ·rcases (by omega:i<k∨i=k∨k<i) with c|c|c
  ·rw [(l0 i c).1,(l0 i c).2];exact h.le i (by omega)
  ·subst c;rw [m0.1,m0.2];exact Int.le_refl _
  ·rw [(g0 i c hi).1,(g0 i c hi).2];exact h.le (i - 1) (by omega)
 ·rcases (by omega:i<k∨i=k∨k<i) with c|c|c
  ·rw [(l0 i c).2]
   rcases (by omega:j<k∨j=k∨k<j) with d|d|d
   ·rw [(l0 j d).1];exact h.gap i j hij (by omega)
   ·subst d;rw [m0.1];exact hb i c
   ·rw [(g0 j d hj).1]
    rcases Nat.lt_or_ge i (j - 1) with e|e
    ·exact h.gap i (j - 1) e (by omega)
    ·omega
  ·subst c
   rw [m0.2,(g0 j (by omega) hj).1];exact ha (j - 1) (by omega) (by omega)
  ·rw [(g0 i c (by omega)).2,(g0 j (by omega) hj).1];exact h.gap (i - 1) (j - 1) (by omega) (by omega)
 ·rcases (by omega:i<k∨i=k∨k<i) with c|c|c
  ·rw [(l0 i c).1];exact h.lo i (by omega)
  ·subst c;rw [m0.1];exact h0
  ·rw [(g0 i c hi).1];exact h.lo (i - 1) (by omega)
 ·rcases (by omega:i<k∨i=k∨k<i) with c|c|c
  ·rw [(l0 i c).2];exact h.hi i (by omega)
  ·subst c;rw [m0.2];exact hp
  ·rw [(g0 i c hi).2];exact h.hi (i - 1) (by omega)
 ·rintro ⟨i,hi,a,b⟩
  rcases (by omega:i<k∨i=k∨k<i) with c|c|c
  ·rw [(l0 i c).1] at a;rw [(l0 i c).2] at b;exact .inl ⟨i,by omega,a,b⟩
  ·subst c;rw [m0.1] at a;rw [m0.2] at b;exact .inr (by omega)
  ·rw [(g0 i c hi).1] at a;rw [(g0 i c hi).2] at b;exact .inl ⟨i - 1,by omega,a,b⟩
 ·rintro (⟨i,hi,a,b⟩|rfl)
  ·rcases Nat.lt_or_ge i k with c|c
   ·exact ⟨i,by omega,by rw [(l0 i c).1];exact a,by rw [(l0 i c).2];exact b⟩
   ·obtain ⟨g1,g2⟩:=g0 (i+1) (by omega) (by omega)
    rw [Nat.add_sub_cancel] at g1 g2
    exact ⟨i+1,by omega,by rw [g1];exact a,by rw [g2];exact b⟩
  ·exact ⟨k,by omega,by rw [m0.1];exact Int.le_refl _,by rw [m0.2];exact Int.le_refl _⟩
theorem add_ok {A:Nat→Int} {n:Nat} {p:Int} (h:Rg A n) (h0:0≤p) (hp:p≤1000):
 Rg (addA A n p) (addN A n p)∧(∀x,Mem (addA A n p) (addN A n p) x↔Mem A n x∨x=p)∧(addB A n p=true↔ ¬Mem A n p)∧addN A n p≤n+1:=by
 unfold addA addN addB
 have hkl:=kR_le A p n
 have hgt:=kR_gt A p n
 cases hk:kR A p n with
 |zero=>
  rw [hk] at hgt
  obtain ⟨a,b⟩:=rg_ins h (Nat.zero_le _) (fun j hj=>absurd hj (Nat.not_lt_zero _)) (fun j h1 h2=>hgt j h1 h2) h0 hp
  refine ⟨a,b,⟨fun _=>?_,fun _=>rfl⟩,Nat.le_refl _⟩
  rintro ⟨i,hi,c,d⟩
  have:=hgt i (Nat.zero_le _) hi
  omega
 |succ k=>
  have hat:=kR_at A p n k hk
  rw [hk] at hgt hkl
  have hkn:k<n:=by omega
  simp only
  have low: ∀j,j<k→A (j*2+1)+1<A (k*2):=fun j hj=>h.gap j k hj hkn
  cases hd:dupR A k p with
  |true=>
   have hd':A (k*2)≤p∧p≤A (k*2+1):=by simpa [dupR] using hd
   simp only [if_true]
   refine ⟨h,fun x=>⟨.inl,?_⟩,⟨fun h=>(by cases h),fun hh=>absurd ⟨k,hkn,hd'.1,hd'.2⟩ hh⟩,by omega⟩
   rintro (h|rfl)
   ·exact h
   ·exact ⟨k,hkn,hd'.1,hd'.2⟩
  |false=>
   have hd': ¬ (A (k*2)≤p∧p≤A (k*2+1)):=by simpa [dupR] using hd
   simp only [Bool.false_eq_true,if_false]
   have hnm: ¬Mem A n p:=by
    rintro ⟨i,hi,c,d⟩
    rcases (by omega:i<k∨i=k∨k<i) with e|e|e
    ·have:=low i e
     have:=h.le k hkn
     have:=h.le i (by omega)
     rcases Int.lt_or_le p (A (k*2)) with f|f
     ·omega
     ·omega
    ·subst e;exact hd' ⟨c,d⟩
    ·have:=hgt i (by omega) hi;omega
   by_cases c1:A (k*2+1)=p - 1
   ·simp only [if_pos c1]
    obtain ⟨a,b⟩:=rg_end h hkn c1 (fun j h1 h2=>hgt j (by omega) h2) hp
    exact ⟨a,b,⟨fun _=>hnm,fun _=>rfl⟩,by omega⟩
   ·simp only [if_neg c1]
    by_cases c2:A (k*2)=p+1
    ·simp only [if_pos c2]
     by_cases c3:0<k∧A ((k - 1)*2+1)+1=p
     ·simp only [if_pos c3]
      obtain ⟨a,b⟩:=rg_merge h hkn c3.1 c2 c3.2
      exact ⟨a,b,⟨fun _=>hnm,fun _=>rfl⟩,by omega⟩
     ·simp only [if_neg c3]
      obtain ⟨a,b⟩:=rg_start h hkn c2 (fun h1 h2=>c3 ⟨h1,h2⟩) h0
      exact ⟨a,b,⟨fun _=>hnm,fun _=>rfl⟩,by omega⟩
    ·simp only [if_neg c2]
     have hkk:=h.le k hkn
     obtain ⟨a,b⟩:=rg_ins (k:=k+1) (p:=p) h hkn (fun j hj=>by
      rcases (by omega:j<k∨j=k) with e|e
      ·have:=low j e;have:=h.le j (by omega);omega
      ·subst e;omega) (fun j h1 h2=>hgt j h1 h2) h0 hp
     exact ⟨a,b,⟨fun _=>hnm,fun _=>rfl⟩,Nat.le_refl _⟩
def hmR (A:Nat→Int) (q d:Int):Nat→Int
 |0=>q
 |i+1=>if A (i*2)≤q∧q≤A (i*2+1) then (if d≠ -1∧A (i*2) - 1<d then -1 else A (i*2) - 1) else if 1≤i∧A ((i - 1)*2+1)<q∧q≤A (i*2) then q else hmR A q d i
def hm (A:Nat→Int) (n:Nat) (p d:Int):Int:=if n=0∨(d≠ -1∧p<d) then -1 else hmR A (min (A ((n - 1)*2+1)) p) d n
def dkR (A:Nat→Int) (p:Int):Nat→Nat
 |0=>0
 |n+1=>if A (n*2+1)<p then n+1 else dkR A p n
def cutA (A:Nat→Int) (n:Nat) (p:Int):Nat→Int:=if dkR A p n<n∧A (dkR A p n*2)<p then upd (del2 A 0 (dkR A p n)) 0 p else del2 A 0 (dkR A p n)
theorem dkR_le (A:Nat→Int) (p:Int): ∀n,dkR A p n≤n
 |0=>Nat.le_refl _
 |n+1=>by
  unfold dkR
  split
  ·exact Nat.le_refl _
  ·have:=dkR_le A p n;omega
theorem dkR_gt (A:Nat→Int) (p:Int): ∀n j,dkR A p n≤j→j<n→p≤A (j*2+1)
 |0,j,_,h=>by omega
 |n+1,j,h,hj=>by
  unfold dkR at h
  split at h
  ·omega
  ·rcases Nat.lt_or_ge j n with h1|h1
   ·exact dkR_gt A p n j h h1
   ·have:j=n:=by omega
    subst this;omega
theorem dkR_at (A:Nat→Int) (p:Int): ∀n k,dkR A p n=k+1→A (k*2+1)<p
 |0,k,h=>by cases h
 |n+1,k,h=>by
  unfold dkR at h
  split at h
  ·have:k=n:=by omega
   subst this;assumption
  ·exact dkR_at A p n k h
theorem dkR_eq {A:Nat→Int} {p:Int} {n k:Nat} (hr:Rg A n) (hk:k≤n) (h1:k<n→p≤A (k*2+1)) (h2:0<k→A ((k - 1)*2+1)<p):dkR A p n=k:=by
 rcases Nat.lt_trichotomy (dkR A p n) k with h|h|h
 ·have:=dkR_gt A p n (k - 1) (by omega) (by omega)
  have:=h2 (by omega)
  omega
 ·exact h
 ·obtain ⟨t,ht⟩: ∃t,dkR A p n=t+1:=⟨dkR A p n - 1,by omega⟩
  have h3:=dkR_at A p n t ht
  have h4:=dkR_le A p n
  have h5:=h1 (by omega)
  rcases Nat.lt_or_ge k t with h6|h6
  ·have:=hr.gap k t h6 (by omega);have:=hr.le t (by omega);omega
  ·have:k=t:=by omega
   subst this;omega
theorem cut_ok {A:Nat→Int} {n:Nat} {p:Int} (hr:Rg A n) (h0:0≤p) (hp:p≤1000):Rg (cutA A n p) (n - dkR A p n):=by
 obtain ⟨d,hd⟩: ∃d,dkR A p n=d:=⟨_,rfl⟩
 have hle:=dkR_le A p n
 have hgt:=dkR_gt A p n
 unfold cutA
 rw [hd] at hle hgt⊢
 have e: ∀j,del2 A 0 d j=A (j+d*2):=fun j=>by unfold del2;rw [if_neg (by omega)]
 have e0: ∀i,del2 A 0 d (i*2)=A ((i+d)*2):=fun i=>by rw [e];congr 1;omega
 have e1: ∀i,del2 A 0 d (i*2+1)=A ((i+d)*2+1):=fun i=>by rw [e];congr 1;omega
 have base:Rg (del2 A 0 d) (n - d):=⟨fun i hi=>by rw [e0,e1];exact hr.le _ (by omega),fun i j hij hj=>by rw [e1,e0];exact hr.gap _ _ (by omega) (by omega),fun i hi=>by rw [e0];exact hr.lo _ (by omega),fun i hi=>by rw [e1];exact hr.hi _ (by omega)⟩
 split
 ·rename_i h
  have u1: ∀i,upd (del2 A 0 d) 0 p (i*2+1)=del2 A 0 d (i*2+1):=fun i=>upd_ne (by omega)
  have u0: ∀i,0<i→upd (del2 A 0 d) 0 p (i*2)=del2 A 0 d (i*2):=fun i hi=>upd_ne (by omega)
  refine ⟨fun i hi=>?_,fun i j hij hj=>?_,fun i hi=>?_,fun i hi=>by rw [u1];exact base.hi i hi⟩
  ·rw [u1]
   rcases Nat.eq_zero_or_pos i with h'|h'
   ·subst h'
    show upd _ 0 p 0≤_
    rw [upd_eq,e1];exact hgt _ (by omega) (by omega)
   ·rw [u0 i h'];exact base.le i hi
  ·rw [u1,u0 j (by omega)];exact base.gap i j hij hj
  ·rcases Nat.eq_zero_or_pos i with h'|h'
   ·subst h'
    show 0≤upd _ 0 p 0
    rw [upd_eq];exact h0
   ·rw [u0 i h'];exact base.lo i hi
 ·exact base
def rvA (A:Nat→Int) (n j:Nat):Int:=A ((n - 1 - j/2)*2+j % 2)
structure RgD (B:Nat→Int) (m:Nat):Prop where
 le: ∀i,i<m→B (i*2)≤B (i*2+1)
 gap: ∀i j,i<j→j<m→B (j*2+1)+1<B (i*2)
 lo: ∀i,i<m→0≤B (i*2)
 hi: ∀i,i<m→B (i*2+1)≤1000
theorem rgd_of {A:Nat→Int} {n:Nat} (h:Rg A n):RgD (rvA A n) n:=by
 have e0: ∀i,rvA A n (i*2)=A ((n - 1 - i)*2):=fun i=>by unfold rvA;rw [show i*2/2=i by omega,show i*2 % 2=0 by omega];rfl
 have e1: ∀i,rvA A n (i*2+1)=A ((n - 1 - i)*2+1):=fun i=>by unfold rvA;rw [show (i*2+1)/2=i by omega,show (i*2+1) % 2=1 by omega]
 exact ⟨fun i hi=>by rw [e0,e1];exact h.le _ (by omega),fun i j hij hj=>by rw [e0,e1];exact h.gap _ _ (by omega) (by omega),fun i hi=>by rw [e0];exact h.lo _ (by omega),fun i hi=>by rw [e1];exact h.hi _ (by omega)⟩
def fiR (B:Nat→Int) (p:Int) (m:Nat):Nat:=((List.range m).find? fun i=>decide (B (i*2)≤p)).getD m
def acks (B:Nat→Int) (m:Nat) (p:Int):Bool:=(List.range m).any fun i=>decide (B (i*2)≤p∧p≤B (i*2+1))
theorem fiR_eq {B:Nat→Int} {p:Int} {m k:Nat} (hr:RgD B m) (hk:k≤m) (h1: ∀j,j<k→p<B (j*2)) (h2:k<m→B (k*2)≤p):fiR B p m=k:=by
 unfold fiR
 rcases Nat.lt_or_ge k m with h|h
 ·have:(List.range m).find? (fun i=>decide (B (i*2)≤p))=some k:=by
   rw [List.find?_eq_some_iff_getElem]
   refine ⟨by simpa using h2 h,k,by simpa using h,by simp,fun j hj=>?_⟩
   have:=h1 j hj
   simp;omega
  rw [this];rfl
 ·have e:k=m:=by omega
  have:(List.range m).find? (fun i=>decide (B (i*2)≤p))=none:=by
   rw [List.find?_eq_none]
   intro x hx
   have:=h1 x (by rw [e];exact List.mem_range.1 hx)
   simp;omega
  rw [this,e];rfl
theorem acks_at {B:Nat→Int} {p:Int} {m k:Nat} (hr:RgD B m) (hk:k<m) (h1: ∀j,j<k→p<B (j*2)) (h2:B (k*2)≤p):acks B m p=decide (p≤B (k*2+1)):=by
 unfold acks
 rw [Bool.eq_iff_iff,List.any_eq_true]
 constructor
 ·rintro ⟨i,hi,hp⟩
  have hi:=List.mem_range.1 hi
  simp only [decide_eq_true_eq] at hp⊢
  rcases Nat.lt_trichotomy i k with h|h|h
  ·have:=h1 i h;omega
  ·subst h;exact hp.2
  ·have:=hr.gap k i h hi;have:=hr.le k hk;omega
 ·intro h
  exact ⟨k,List.mem_range.2 hk,by simp only [decide_eq_true_eq] at h⊢;exact ⟨h2,h⟩⟩
theorem acks_no {B:Nat→Int} {p:Int} {m:Nat} (h: ∀i,i<m→ ¬ (B (i*2)≤p∧p≤B (i*2+1))):acks B m p=false:=by
 unfold acks
 rw [List.any_eq_false]
 intro i hi
 have:=h i (List.mem_range.1 hi)
 simpa using this
def grt (lo p:Int):Int:=if lo≤p then p else lo
theorem addN_pos {A:Nat→Int} {n:Nat} {p:Int} (h:Rg A n):1≤addN A n p:=by
 unfold addN
 have hle:=kR_le A p n
 split
 ·omega
 ·rename_i k hk
  split
  ·omega
  ·split
   ·omega
   ·split
    ·split<;>omega
    ·omega
structure St where
 c0:Int
 c1:Int
 ce:Int
 db:Int
 lt:Int
 lo:Int
 ig:Int
 ct:Int
 al:Int
 lw:Int
 nw:Bool
 qd:Bool
 k:Bool
 n:Nat
 m:Nat
 A:Nat→Int
 B:Nat→Int
def s0:St:=⟨0,0,0,-1,0,0,0,0,0,-1,false,false,false,0,0,fun _=>0,fun _=>0⟩
noncomputable def memD (A:Nat→Int) (n:Nat) (p:Int):Bool:=open Classical in decide (Mem A n p)
noncomputable def isOld (s:St) (p:Int):Bool:=decide (p<s.db)||memD s.A s.n p
def ecnI (e:Int):Int:=if e=1 then 2 else if e=2 then 3 else if e=3 then 4 else 1
def nmD (s:St) (p:Int):Bool:=decide (1≤grt s.lo p)&&decide (hm (addA s.A s.n p) (addN s.A s.n p) (grt s.lo p - 1) s.db≠ -1∧s.B 1≤hm (addA s.A s.n p) (addN s.A s.n p) (grt s.lo p - 1) s.db∧s.B 1 - 1<hm (addA s.A s.n p) (addN s.A s.n p) (grt s.lo p - 1) s.db)
def msD (s:St) (p:Int):Bool:=decide (s.ig≤p∧p<s.B 1)&&!acks s.B s.m p
def sqD (s:St) (p e:Int) (el:Bool):Bool:=s.qd||(el&&((s.k&&msD s p)||(decide (2≤s.ct+1)||((s.k&&nmD s p)||decide (ecnI e=4)))))
def rcv (s:St) (p e t:Int) (el:Bool):St:=
 { s with
   c0:=if ecnI e=3 then s.c0+1 else s.c0
   c1:=if ecnI e=2 then s.c1+1 else s.c1
   ce:=if ecnI e=4 then s.ce+1 else s.ce
   nw:=s.nw||el
   lt:=if s.lo≤p then t else s.lt
   lo:=grt s.lo p
   qd:=sqD s p e el
   ct:=if el then s.ct+1 else s.ct
   al:=if el then (if sqD s p e el then (if s.qd then s.al else 0) else t+25000000) else s.al
   lw:=if s.lw= -1∨p<s.lw then p else s.lw
   n:=addN s.A s.n p
   A:=addA s.A s.n p }
def asks (s:St) (t:Int) (on:Bool):Bool:=s.nw&&!(on&&(!s.qd&&(decide (s.al=0)||decide (t<s.al))))
def fram (s:St):St:={ s with k:=true,m:=s.n,B:=rvA s.A s.n,nw:=false,qd:=false,al:=0,ct:=0 }
def cutS (s:St) (p:Int):St:=if p≤s.ig then s else { s with ig:=p,db:=p,n:=s.n - dkR s.A p s.n,A:=cutA s.A s.n p }
noncomputable def stp (s:St) (kd e p t:Int) (el on:Bool):St:=
 if kd=0 then (if isOld s p then s else rcv s p e t el) else if kd=1 then (if asks s t on then fram s else s) else if kd=2 then cutS s p else s
def kdA (S:Nat→Int) (i:Nat):Int:=S (i*6)
def ecA (S:Nat→Int) (i:Nat):Int:=S (i*6+1)
def pnA (S:Nat→Int) (i:Nat):Int:=S (i*6+2)
def tmA (S:Nat→Int) (i:Nat):Int:=S (i*6+3)
def elA (S:Nat→Int) (i:Nat):Bool:=!(S (i*6+4)==0)
def onA (S:Nat→Int) (i:Nat):Bool:=!(S (i*6+5)==0)
noncomputable def sAt (S:Nat→Int):Nat→St
 |0=>s0
 |i+1=>stp (sAt S i) (kdA S i) (ecA S i) (pnA S i) (tmA S i) (elA S i) (onA S i)
noncomputable def frA (S:Nat→Int) (i:Nat):Bool:=decide (kdA S i=1)&&asks (sAt S i) (tmA S i) (onA S i)
noncomputable def isC (S:Nat→Int) (i:Nat):Bool:=frA S i||(decide (kdA S i=3)&&isOld (sAt S i) (pnA S i))
noncomputable def wrC (S:Nat→Int) (i:Nat):Bool:=decide (kdA S i=0)&&isOld (sAt S i) (pnA S i)
noncomputable def dlC (S:Nat→Int) (i:Nat):Int:=if frA S i then imx 0 (tmA S i - (sAt S i).lt) else 0
noncomputable def atC (S:Nat→Int) (i:Nat):Int:=if kdA S i=4 then (sAt S i).al else 0
noncomputable def cnC (S:Nat→Int) (i:Nat) (x:Int):Int:=if frA S i then x else 0
noncomputable def cellA (S:Nat→Int) (i c:Nat):Int:=
 if c=0 then b2i (isC S i) else if c=1 then b2i (wrC S i) else if c=3 then dlC S i else if c=4 then atC S i else if c=5 then cnC S i (sAt S i).c0 else if c=6 then cnC S i (sAt S i).c1 else if c=7 then cnC S i (sAt S i).ce else 0
noncomputable def colA (S:Nat→Int) (t:Nat):Int:=cellA S (t/8) (t % 8)
noncomputable def colL (S:Nat→Int) (i:Nat):Int:=if frA S i then ((sAt S i).n:Int) else 0
noncomputable def colC (S:Nat→Int) (t:Nat):Int:=rvA (sAt S (t/128)).A (sAt S (t/128)).n (t % 128)
def topA (S:Nat→Int):Nat→Int
 |0=> -1
 |i+1=>if kdA S i=0 then max (topA S i) (pnA S i) else topA S i
structure SOk (S:Nat→Int) (n:Nat):Prop where
 kd: ∀i,i<n→0≤kdA S i∧kdA S i≤4
 ec: ∀i,i<n→0≤ecA S i∧ecA S i≤3
 pn: ∀i,i<n→0≤pnA S i∧pnA S i≤400
 lo: ∃z,(∀i,i<n→i<z→pnA S i≤99)∧ ∀i,i<n→z<i→kdA S i≠0
 tm: ∀i,i<n→0≤tmA S i∧tmA S i≤1000000000000000
 ig: ∀i,i<n→kdA S i=2→pnA S i≤topA S i
def offS (S:Nat→Int) (t:Nat):Int:=if t % 6=5 then 0 else S t
structure SOk0 (S:Nat→Int) (n:Nat):Prop where
 ok:SOk S n
 k2: ∀i,i<n→kdA S i≠2∧kdA S i≠4
noncomputable def colA0 (S:Nat→Int) (t:Nat):Int:=if t % 8=3 then 0 else colA (offS S) t
noncomputable def colL0 (S:Nat→Int) (t:Nat):Int:=colL (offS S) t
noncomputable def colC0 (S:Nat→Int) (t:Nat):Int:=colC (offS S) t
theorem off_c (S:Nat→Int) (i:Nat):kdA (offS S) i=kdA S i∧ecA (offS S) i=ecA S i∧pnA (offS S) i=pnA S i∧tmA (offS S) i=tmA S i∧elA (offS S) i=elA S i∧onA (offS S) i=false:=by
 have h: ∀c,c<5→offS S (i*6+c)=S (i*6+c):=fun c hc=>if_neg (by omega)
 refine ⟨h 0 (by omega),h 1 (by omega),h 2 (by omega),h 3 (by omega),?_,?_⟩
 ·unfold elA;rw [h 4 (by omega)]
 ·unfold onA
  rw [show offS S (i*6+5)=0 from if_pos (by omega)];rfl
theorem off_top (S:Nat→Int): ∀i,topA (offS S) i=topA S i
 |0=>rfl
 |i+1=>by
  simp only [topA]
  rw [(off_c S i).1,(off_c S i).2.2.1,off_top S i]
theorem SOk0.off {S:Nat→Int} {n:Nat} (h:SOk0 S n):SOk (offS S) n:=by
 have c:=fun i=>off_c S i
 obtain ⟨z,z1,z2⟩:=h.ok.lo
 exact ⟨fun i hi=>by rw [(c i).1];exact h.ok.kd i hi,fun i hi=>by rw [(c i).2.1];exact h.ok.ec i hi,fun i hi=>by rw [(c i).2.2.1];exact h.ok.pn i hi,⟨z,fun i hi hz=>by rw [(c i).2.2.1];exact z1 i hi hz,fun i hi hz=>by rw [(c i).1];exact z2 i hi hz⟩,
  fun i hi=>by rw [(c i).2.2.2.1];exact h.ok.tm i hi,fun i hi hk=>by rw [(c i).2.2.1,off_top];rw [(c i).1] at hk;exact h.ok.ig i hi hk⟩
structure STok (S:Nat→Int) (n:Nat) (sp:Int):Prop where
 kd: ∀i,i<n→0≤kdA S i∧kdA S i≤4
 ec: ∀i,i<n→0≤ecA S i∧ecA S i≤3
 pn: ∀i,i<n→0≤pnA S i∧pnA S i≤99
 tm: ∀i,i<n→1000000≤tmA S i∧tmA S i≤1000000000
 mono: ∀i j,i≤j→j<n→tmA S i≤tmA S j
 ig: ∀i,i<n→kdA S i=2→pnA S i≤topA S i∧sp=2
 k4: ∀i,i<n→kdA S i=4→sp=2
structure Inv (s:St) (i:Nat) (top:Int):Prop where
 rg:Rg s.A s.n
 mem: ∀x,Mem s.A s.n x→x≤top
 e:top= -1→s.n=0∧s.nw=false∧s.ig=0∧s.lo=0
 t:0≤top→s.lo=top∧Mem s.A s.n top
 t0: -1≤top
 t1:top≤400
 n1:s.n≤51
 nw:s.nw=true→1≤s.n
 k:s.k=true→1≤s.m∧s.m≤51∧RgD s.B s.m
 db0: -1≤s.db
 db:s.db≤s.ig
 ig:s.ig≤max 0 top
 c0:0≤s.c0∧s.c0≤i
 c1:0≤s.c1∧s.c1≤i
 ce:0≤s.ce∧s.ce≤i
 ct:0≤s.ct∧s.ct≤i
 lt:0≤s.lt∧s.lt≤1000000000000000
 al:0≤s.al∧s.al≤2000000000000000
 lw: -1≤s.lw∧s.lw≤400
 ig0:0≤s.ig
theorem rg_count {A:Nat→Int} {n:Nat} (h:Rg A n): ∀i,i<n→(i*2:Int)≤A (i*2)
 |0,hi=>by have:=h.lo 0 hi;omega
 |i+1,hi=>by
  have:=rg_count h i (by omega)
  have:=h.le i (by omega)
  have:=h.gap i (i+1) (by omega) hi
  omega
theorem rg_n {A:Nat→Int} {n:Nat} (h:Rg A n) {b:Int} (hb: ∀x,Mem A n x→x≤b) (h0: -1≤b):(n:Int)*2≤b+2:=by
 rcases Nat.eq_zero_or_pos n with h1|h1
 ·subst h1;omega
 ·have a:=rg_count h (n - 1) (by omega)
  have l:=h.le (n - 1) (by omega)
  have:=hb (A ((n - 1)*2)) ⟨n - 1,by omega,by omega,l⟩
  omega
theorem cut_mem {A:Nat→Int} {n:Nat} {p:Int} (hr:Rg A n): ∀x,Mem (cutA A n p) (n - dkR A p n) x↔Mem A n x∧p≤x:=by
 have hle:=dkR_le A p n
 have hgt:=dkR_gt A p n
 intro x
 obtain ⟨d,hd⟩: ∃d,dkR A p n=d:=⟨_,rfl⟩
 have hlt: ∀j,j<d→A (j*2+1)<p:=fun j hj=>by
  rcases Nat.eq_zero_or_pos d with h0|h0
  ·omega
  ·have h1:=dkR_at A p n (d - 1) (by omega)
   rcases Nat.lt_or_ge j (d - 1) with h2|h2
   ·have:=hr.gap j (d - 1) h2 (by omega)
    have:=hr.le (d - 1) (by omega)
    omega
   ·have:j=d - 1:=by omega
    rw [this];exact h1
 unfold cutA
 rw [hd] at hgt hle⊢
 have ed: ∀j,del2 A 0 d j=A (j+d*2):=fun j=>by unfold del2;rw [if_neg (by omega)]
 split
 ·rename_i hc
  have e0: ∀i,upd (del2 A 0 d) 0 p (i*2)=if i=0 then p else A ((i+d)*2):=fun i=>by
   unfold upd
   by_cases c:i=0
   ·rw [if_pos (by omega),if_pos c]
   ·rw [if_neg (by omega),if_neg c,ed,show i*2+d*2=(i+d)*2 by omega]
  have e1: ∀i,upd (del2 A 0 d) 0 p (i*2+1)=A ((i+d)*2+1):=fun i=>by
   unfold upd;rw [if_neg (by omega),ed,show i*2+1+d*2=(i+d)*2+1 by omega]
  constructor
  ·rintro ⟨i,hi,a,b⟩
   rw [e0] at a;rw [e1] at b
   by_cases c:i=0
   ·subst c
    rw [if_pos rfl] at a
    rw [Nat.zero_add] at b
    exact ⟨⟨d,by omega,by omega,b⟩,a⟩
   ·rw [if_neg c] at a
    have:=hgt (i+d) (by omega) (by omega)
    have:=hr.gap d (i+d) (by omega) (by omega)
    have:=hgt d (by omega) (by omega)
    exact ⟨⟨i+d,by omega,a,b⟩,by omega⟩
  ·rintro ⟨⟨i,hi,a,b⟩,hp⟩
   have hid:d≤i:=by
    rcases Nat.lt_or_ge i d with h1|h1
    ·have:=hlt i h1;omega
    ·exact h1
   refine ⟨i - d,by omega,?_,?_⟩
   ·rw [e0]
    split
    ·exact hp
    ·rw [show i - d+d=i by omega];exact a
   ·rw [e1,show i - d+d=i by omega];exact b
 ·rename_i hc
  constructor
  ·rintro ⟨i,hi,a,b⟩
   rw [ed] at a b
   rw [show i*2+d*2=(i+d)*2 by omega] at a
   rw [show i*2+1+d*2=(i+d)*2+1 by omega] at b
   have hp:p≤A (d*2):=by
    have:d<n:=by omega
    omega
   refine ⟨⟨i+d,by omega,a,b⟩,?_⟩
   rcases Nat.eq_zero_or_pos i with h0|h0
   ·subst h0;rw [Nat.zero_add] at a;omega
   ·have:=hr.gap d (i+d) (by omega) (by omega)
    have:=hr.le d (by omega)
    omega
  ·rintro ⟨⟨i,hi,a,b⟩,hp⟩
   have hid:d≤i:=by
    rcases Nat.lt_or_ge i d with h1|h1
    ·have:=hlt i h1;omega
    ·exact h1
   refine ⟨i - d,by omega,?_,?_⟩
   ·rw [ed,show (i - d)*2+d*2=i*2 by omega];exact a
   ·rw [ed,show (i - d)*2+1+d*2=i*2+1 by omega];exact b
theorem memD_iff {A:Nat→Int} {n:Nat} {p:Int}:memD A n p=true↔Mem A n p:=by
 unfold memD;exact @decide_eq_true_iff _ (Classical.propDecidable _)
theorem old_f {s:St} {p:Int} (h:isOld s p=false):s.db≤p∧ ¬Mem s.A s.n p:=by
 unfold isOld at h
 rw [Bool.or_eq_false_iff,decide_eq_false_iff_not] at h
 refine ⟨by omega,fun hm=>?_⟩
 rw [memD_iff.2 hm] at h
 exact absurd h.2 (by decide)
theorem Inv.zero:Inv s0 0 (-1):=by
 have hM: ∀x,¬Mem s0.A s0.n x:=by rintro x ⟨i,hi,_⟩;exact Nat.not_lt_zero _ hi
 refine ⟨⟨fun i hi=>absurd hi (Nat.not_lt_zero _),fun i j _ hj=>absurd hj (Nat.not_lt_zero _),fun i hi=>absurd hi (Nat.not_lt_zero _),fun i hi=>absurd hi (Nat.not_lt_zero _)⟩,fun x hx=>absurd hx (hM x),fun _=>⟨rfl,rfl,rfl,rfl⟩,fun h=>by omega,by omega,by omega,Nat.zero_le _,fun h=>(by cases h),fun h=>(by cases h),?_,?_,(by show (0:Int)≤max 0 (-1);omega),?_,?_,?_,?_,?_,?_,?_,?_⟩<;>simp [s0]
theorem Inv.mono {s:St} {i j:Nat} {top:Int} (h:Inv s i top) (hij:i≤j):Inv s j top:=
 { h with c0:=⟨h.c0.1,by have:=h.c0.2;omega⟩,c1:=⟨h.c1.1,by have:=h.c1.2;omega⟩,ce:=⟨h.ce.1,by have:=h.ce.2;omega⟩,ct:=⟨h.ct.1,by have:=h.ct.2;omega⟩ }
theorem Inv.rcv {s:St} {i:Nat} {top:Int} (h:Inv s i top) {p e t:Int} {el:Bool} (hi:s.n≤50) (p0:0≤p) (p1:p≤400) (t0:0≤t) (t1:t≤1000000000000000) (ho:isOld s p=false):Inv (rcv s p e t el) (i+1) (max top p):=by
 obtain ⟨h1,h2⟩:=old_f ho
 obtain ⟨a1,a2,a3,a4⟩:=add_ok (p:=p) h.rg p0 (by omega)
 have hlo:grt s.lo p=max top p:=by
  unfold grt
  have:=h.t0
  rcases Int.lt_or_le top 0 with c|c
  ·have:=(h.e (by omega)).2.2.2
   rw [if_pos (by omega)];omega
  ·have:=(h.t c).1
   split<;>omega
 have hmem: ∀x,Mem (addA s.A s.n p) (addN s.A s.n p) x→x≤max top p:=fun x hx=>by
  rcases (a2 x).1 hx with h3|h3
  ·have:=h.mem x h3;omega
  ·omega
 have hnp:=addN_pos (p:=p) h.rg
 have ht1:=h.t1
 have ht0:=h.t0
 have hn:=rg_n a1 hmem (by omega)
 have hig:=h.ig
 have hc0:=h.c0;have hc1:=h.c1;have hce:=h.ce;have hct:=h.ct;have hlt:=h.lt;have hal:=h.al;have hlw:=h.lw
 refine ⟨a1,hmem,fun hh=>by omega,fun _=>⟨hlo,(a2 _).2 ?_⟩,by omega,by omega,?_,fun _=>hnp,h.k,h.db0,h.db,?_,?_,?_,?_,?_,?_,?_,?_,h.ig0⟩
 ·rcases Int.lt_or_le top p with c|c
  ·exact .inr (by omega)
  ·rw [show max top p=top by omega];exact .inl (h.t (by omega)).2
 ·show addN s.A s.n p≤51
  omega
 ·show s.ig≤_;omega
 ·show 0≤(if ecnI e=3 then s.c0+1 else s.c0)∧(if ecnI e=3 then s.c0+1 else s.c0)≤((i+1:Nat):Int)
  split<;>omega
 ·show 0≤(if ecnI e=2 then s.c1+1 else s.c1)∧(if ecnI e=2 then s.c1+1 else s.c1)≤((i+1:Nat):Int)
  split<;>omega
 ·show 0≤(if ecnI e=4 then s.ce+1 else s.ce)∧(if ecnI e=4 then s.ce+1 else s.ce)≤((i+1:Nat):Int)
  split<;>omega
 ·show 0≤(if el=true then s.ct+1 else s.ct)∧(if el=true then s.ct+1 else s.ct)≤((i+1:Nat):Int)
  split<;>omega
 ·show 0≤(if s.lo≤p then t else s.lt)∧(if s.lo≤p then t else s.lt)≤_
  split<;>omega
 ·show 0≤(if el=true then (if sqD s p e el=true then (if s.qd=true then s.al else 0) else t+25000000) else s.al)∧(if el=true then (if sqD s p e el=true then (if s.qd=true then s.al else 0) else t+25000000) else s.al)≤_
  split
  ·split
   ·split<;>omega
   ·omega
  ·omega
 ·show -1≤(if s.lw= -1∨p<s.lw then p else s.lw)∧(if s.lw= -1∨p<s.lw then p else s.lw)≤400
  split<;>omega
theorem Inv.fram {s:St} {i:Nat} {top:Int} (h:Inv s i top) (hn:s.nw=true):Inv (fram s) i top:=by
 have hp:=h.nw hn
 exact { rg:=h.rg,mem:=h.mem,e:=fun hh=>⟨(h.e hh).1,rfl,(h.e hh).2.2⟩,t:=h.t,t0:=h.t0,t1:=h.t1,n1:=h.n1,nw:=fun hh=>(by cases hh),k:=fun _=>⟨hp,h.n1,rgd_of h.rg⟩,db0:=h.db0,db:=h.db,ig:=h.ig,c0:=h.c0,c1:=h.c1,ce:=h.ce,ct:=⟨Int.le_refl 0,by show (0:Int)≤i;omega⟩,lt:=h.lt,al:=⟨Int.le_refl 0,by show (0:Int)≤2000000000000000;omega⟩,lw:=h.lw,ig0:=h.ig0 }
theorem Inv.cut {s:St} {i:Nat} {top:Int} (h:Inv s i top) {p:Int} (p0:0≤p) (p1:p≤top):Inv (cutS s p) i top:=by
 unfold cutS
 split
 ·exact h
 ·rename_i hc
  have ht1:=h.t1
  have hm:=cut_mem (p:=p) h.rg
  have hlt:=h.t (by omega)
  have hcm:Mem (cutA s.A s.n p) (s.n - dkR s.A p s.n) top:=(hm _).2 ⟨hlt.2,p1⟩
  have hn1:1≤s.n - dkR s.A p s.n:=by obtain ⟨j,hj,_⟩:=hcm;omega
  exact { h with
   rg:=cut_ok h.rg p0 (by omega)
   mem:=fun x hx=>h.mem x ((hm x).1 hx).1
   e:=fun hh=>by omega
   t:=fun _=>⟨hlt.1,hcm⟩
   n1:=by have:=h.n1;show s.n - _≤51;omega
   nw:=fun _=>hn1
   db0:=by show -1≤p;omega
   db:=Int.le_refl _
   ig:=by show p≤_;omega
   ig0:=p0 }
theorem rcv_n {s:St} {i:Nat} {top:Int} (h:Inv s i top) {p e t:Int} {el:Bool} (p0:0≤p) (p1:p≤99) (ht:top≤99):(rcv s p e t el).n≤50:=by
 obtain ⟨a1,a2,a3,a4⟩:=add_ok (p:=p) h.rg p0 (by omega)
 have:=rg_n a1 (b:=99) (fun x hx=>by
  rcases (a2 x).1 hx with h3|h3
  ·have:=h.mem x h3;omega
  ·omega) (by omega)
 show addN s.A s.n p≤50
 omega
theorem inv_z {S:Nat→Int} {n z:Nat} (h:SOk S n) (hz: ∀i,i<n→i<z→pnA S i≤99) (hz2: ∀i,i<n→z<i→kdA S i≠0): ∀i,i≤n→Inv (sAt S i) i (topA S i)∧(i≤z→topA S i≤99∧(sAt S i).n≤50)
 |0,_=>⟨Inv.zero,fun _=>⟨by show (-1:Int)≤99;omega,Nat.zero_le _⟩⟩
 |i+1,hi=>by
  obtain ⟨ih,ihz⟩:=inv_z h hz hz2 i (by omega)
  have hp:=h.pn i (by omega)
  have ht:=h.tm i (by omega)
  have hk:=h.kd i (by omega)
  simp only [sAt,stp,topA]
  split
  ·rename_i hk0
   have hiz:i≤z:=by
    rcases Nat.lt_or_ge z i with c|c
    ·exact absurd hk0 (hz2 i (by omega) c)
    ·exact c
   obtain ⟨z1,z2⟩:=ihz hiz
   split
   ·rename_i hO
    have hle:pnA S i≤max 0 (topA S i)∧(topA S i= -1→False):=by
     unfold isOld at hO
     rw [Bool.or_eq_true,decide_eq_true_eq,memD_iff] at hO
     have:=ih.db;have:=ih.ig;have h3:=ih.t0
     refine ⟨?_,fun h4=>?_⟩
     ·rcases hO with c|c
      ·omega
      ·have:=ih.mem _ c;omega
     ·obtain ⟨e1,e2,e3,e4⟩:=ih.e h4
      rcases hO with c|c
      ·omega
      ·obtain ⟨j,hj,_⟩:=c;omega
    have:=ih.t0
    have hne: ¬topA S i= -1:=hle.2
    have hl1:=hle.1
    have hm:max (topA S i) (pnA S i)=topA S i:=by omega
    rw [hm];exact ⟨ih.mono (by omega),fun _=>⟨z1,z2⟩⟩
   ·rename_i hO
    refine ⟨ih.rcv z2 hp.1 hp.2 ht.1 ht.2 (by simpa using hO),fun c=>?_⟩
    have hpz:=hz i (by omega) (by omega)
    exact ⟨by omega,rcv_n ih hp.1 hpz z1⟩
  ·split
   ·split
    ·rename_i hA
     have:(sAt S i).nw=true:=by
      unfold asks at hA;rw [Bool.and_eq_true] at hA;exact hA.1
     exact ⟨(ih.fram this).mono (by omega),fun c=>ihz (by omega)⟩
    ·exact ⟨ih.mono (by omega),fun c=>ihz (by omega)⟩
   ·split
    ·rename_i h2
     refine ⟨(ih.cut hp.1 (h.ig i (by omega) h2)).mono (by omega),fun c=>⟨(ihz (by omega)).1,?_⟩⟩
     have:=(ihz (by omega)).2
     unfold cutS
     split
     ·exact this
     ·show (sAt S i).n - _≤50
      omega
    ·exact ⟨ih.mono (by omega),fun c=>ihz (by omega)⟩
theorem inv_at {S:Nat→Int} {n:Nat} (h:SOk S n) (hn:n≤63) (i:Nat) (hi:i≤n):Inv (sAt S i) i (topA S i):=by
 obtain ⟨z,h1,h2⟩:=h.lo
 exact (inv_z h h1 h2 i hi).1
def hvD (A B:Nat→Int) (z:Nat):Bool:=!(A z==0)&&!(B z==0)
noncomputable def gapD (m:Nat→Bool) (gr be la:Int):Bool:=open Classical in decide (∃z:Nat,be≤z∧gr<z∧(z:Int)<la∧m z=false)
def rngF (m:Nat→Bool) (L:Nat):Nat→Nat×(Nat→Int)
 |0=>(0,fun _=>0)
 |i+1=>if m (L - 1 - i)=true then (if 0<(rngF m L i).1∧(rngF m L i).2 (((rngF m L i).1 - 1)*2)=((L - 1 - i:Nat):Int)+1 then ((rngF m L i).1,upd (rngF m L i).2 (((rngF m L i).1 - 1)*2) (L - 1 - i:Nat))
   else ((rngF m L i).1+1,upd (upd (rngF m L i).2 ((rngF m L i).1*2) (L - 1 - i:Nat)) ((rngF m L i).1*2+1) (L - 1 - i:Nat))) else rngF m L i
def rgN (m:Nat→Bool) (L:Nat):Nat:=(rngF m L L).1
def rgB (m:Nat→Bool) (L:Nat):Nat→Int:=(rngF m L L).2
theorem rngF_le (m:Nat→Bool) (L:Nat): ∀i,(rngF m L i).1≤i
 |0=>Nat.le_refl _
 |i+1=>by
  have:=rngF_le m L i
  simp only [rngF]
  split
  ·split
   ·show (rngF m L i).1≤_;omega
   ·show (rngF m L i).1+1≤_;omega
  ·omega
end Go.Proofs.Ytgianhjmjiiadaa
end
section
set_option autoImplicit true
set_option relaxedAutoImplicit true
set_option linter.unusedVariables false
namespace Go.Proofs.Ytgianhjmjiiadaa
open Go Go.Sy
def okf:List Nat:=[3,4,5,6,7,8,9,10,11,12,13,14,15,16,17,18,19,20,21,22,23,24,25,26,27,28,29,30,31,32,33,34,35,36,37,38,39,40,41,42,43,44,45,46,47,48,49,50,51,52,53,54,55,56,57,58,59,60,61]
def rq:RecP where
 ks:=[.bool,.bool,.opq,.int .i64,.int .i64,.int .u64,.int .u64,.int .u64]
 T:=35
 cols:=[(2,[.int .i64,.int .i64],36)]
 W:=128
def pRec (r:RecP) (l:List Arg) (v:Value) (w:World):Prop:=match l with
 |[.i n,.a A,.a B,.a L,.a K,.a C]=>RecIs r n.toNat A B L K C v w
 |_=>v= .slice none 0 0
def ftRec (r:RecP) (l:List Arg) (v:Value) (x:Nat):Prop:=match l with
 |[.i n,.a A,.a B,.a L,.a K,.a C]=>RecFt r n.toNat B v x
 |_=>v.ownBlock=some x
theorem pRec_frame {r:RecP} {l:List Arg} {v:Value} {w w':World} (h:pRec r l v w) (hs: ∀x,ftRec r l v x→w'.heap[x]?=w.heap[x]?):pRec r l v w':=by
 unfold pRec ftRec at*
 split at h
 ·exact RecIs.frame h hs
 ·exact h
theorem pRec_nil (r:RecP) (l:List Arg) (w:World):pRec r (.i 0::l) (.slice none 0 0) w:=by
 unfold pRec
 split
 ·rename_i h;cases h;exact RecIs.nil _ _ _ _ _ _ _
 ·rfl
theorem ftRec_nil (r:RecP) (l:List Arg) (x:Nat): ¬ftRec r (.i 0::l) (.slice none 0 0) x:=by
 unfold ftRec
 split
 ·rename_i h;cases h
  rintro (h|⟨i,f,h,_⟩)
  ·cases h
  ·exact Nat.not_lt_zero _ h
 ·intro h;cases h
def pMap (l:List Arg) (a:Nat) (w:World):Prop:=match l with
 |[.a A,.a B]=>MapV w a .i64 0 A (fun z=> .bool (B z !=0))
 |_=>True
theorem pMap_frame {l:List Arg} {a:Nat} {w w':World} (h:pMap l a w) (hs:w'.heap[a]?=w.heap[a]?):pMap l a w':=by
 unfold pMap at*
 split at h
 ·exact h.frame hs
 ·trivial
def pRng (l:List Arg) (a:Nat) (w:World):Prop:=match l with
 |[.a A,.a B,.a L,.i it,.i cur]=>RngV w a .i64 0 A (fun z=> .bool (B z !=0)) L it cur
 |_=>True
def ftRng (l:List Arg) (a x:Nat):Prop:=match l with
 |[.a _,.a _,.a _,.i it,.i _]=>x=a∨x=it.toNat
 |_=>x=a
theorem pRng_frame {l:List Arg} {a:Nat} {w w':World} (h:pRng l a w) (hs: ∀x,ftRng l a x→w'.heap[x]?=w.heap[x]?):pRng l a w':=by
 unfold pRng ftRng at*
 split at h
 ·exact h.frame (hs _ (.inl rfl)) (hs _ (.inr rfl))
 ·trivial
noncomputable def fns:Fns where
 f k l:=if 1000≤k then fbase k l else match k,l with
   |3,[.a A,.i n,.i p]=>addN A n.toNat p
   |8,[.a A,.i n,.i p]=>kR A p n.toNat
   |7,[.a A,.i n,.i p,.i d]=>hm A n.toNat p d
   |4,[.a A,.i n,.i p]=>(n.toNat - dkR A p n.toNat:Nat)
   |9,[.a B,.i m,.i p]=>fiR B p m.toNat
   |33,[.a A,.a B,.i la]=>rgN (hvD A B) (la+1).toNat
   |_,_=>0
 g k l:=if 1000≤k then gbase k l else match k,l with
   |1,[.a A,.i n]=>(open Classical in decide (Rg A n.toNat))
   |2,[.a B,.i m]=>(open Classical in decide (RgD B m.toNat))
   |3,[.a A,.i n,.i p]=>addB A n.toNat p
   |6,[.a A,.i n,.i p]=>(open Classical in decide (Mem A n.toNat p))
   |10,[.a S,.i n]=>(open Classical in decide (SOk S n.toNat))
   |30,[.a L]=>(open Classical in decide (∀z,L z=0))
   |32,[.a A]=>open Classical in decide (∀z,100≤z→A z=0)
   |31,[.a A,.a B,.i gr,.i be,.i la]=>gapD (hvD A B) gr be la
   |13,[.a S,.i n]=>(open Classical in decide (SOk0 S n.toNat))
   |11,[.a S,.i n,.i sp]=>(open Classical in decide (STok S n.toNat sp))
   |16,[.a A,.i n]=>(open Classical in decide (∀j:Nat,(j:Int)<n→0≤A j∧A j≤255))
   |12,[.a C,.i b,.i n,.a B,.i m]=>(open Classical in decide (n=m∧ ∀j:Nat,(j:Int)<n*2→C (b.toNat+j)=B j))
   |7,[.a B,.i m,.i p]=>acks B m.toNat p
   |21,[.i ign,.i p,.a B,.i m]=>decide (ign≤p∧p<B 1)&&!acks B m.toNat p
   |22,[.a A,.i n,.i lo,.i db,.a B]=>decide (1≤lo)&&decide (hm A n.toNat (lo - 1) db≠ -1∧B 1≤hm A n.toNat (lo - 1) db∧B 1 - 1<hm A n.toNat (lo - 1) db)
   |_,_=>false
 a k l:=match k,l with
   |1,[.a C,.i b,.a a]=>fun j=>if j<b.toNat then C j else a (j - b.toNat)
   |2,[.a A,.i n,.i i,.a B]=>ins2 A n.toNat i.toNat (B 0) (B 1)
   |3,[.a A,.i n,.i p]=>addA A n.toNat p
   |4,[.a A,.i i,.i m]=>del2 A i.toNat m.toNat
   |5,[.a A,.i n,.i p]=>cutA A n.toNat p
   |8,[.a A,.i n]=>rvA A n.toNat
   |20,[.a S]=>colA S
   |32,[.a A,.a B,.i la]=>rgB (hvD A B) (la+1).toNat
   |33,[.a A]=>fun z=>if A z=0 then 0 else 1
   |34,[.a A,.i p]=>fun z=>if (z:Int)<p then 0 else A z
   |21,[.a S]=>colL S
   |22,[.a S]=>colC S
   |23,[.a S]=>colA0 S
   |24,[.a S]=>colL0 S
   |25,[.a S]=>colC0 S
   |_,_=>fun _=>0
 fb k l h:=if_pos h
 gb k l h:=if_pos h
 p k l a v w:=if k=1000 then pRec rq l v w else if k=7 then pMap l a w else if k=8 then pRng l a w else v= .slice none 0 0
 ft k l a v x:=if k=1000 then ftRec rq l v x else if k=7 then x=a else if k=8 then ftRng l a x else v.ownBlock=some x
 pf:=by
  intro k l a v w w' h hs
  by_cases h0:k=1000
  ·simp only [h0,if_true] at h hs⊢;exact pRec_frame h hs
  ·simp only [h0,if_false] at h hs⊢
   by_cases h7:k=7
   ·simp only [h7,if_true] at h hs⊢;exact pMap_frame h (hs a rfl)
   ·simp only [h7,if_false] at h hs⊢
    by_cases h8:k=8
    ·simp only [h8,if_true] at h hs⊢;exact pRng_frame h hs
    ·simp only [h8,if_false] at h hs⊢;exact h
 pn:=by
  intro k r a w hk
  by_cases h0:k=1000
  ·simp only [h0,if_true];exact pRec_nil _ _ _
  ·simp only [h0,if_false,show¬k=7 by omega,show¬k=8 by omega]
 fn:=by
  intro k r a x hk
  by_cases h0:k=1000
  ·simp only [h0,if_true];exact ftRec_nil _ _ _
  ·simp only [h0,if_false,show¬k=7 by omega,show¬k=8 by omega];intro h;cases h
def bd (x:SE) (lo hi:Int):Fx:=[((.le (.c lo) x),true),((.le x (.c hi)),true)]
def a3 (k:Nat) (A:AE) (n p:SE):AE:= .ap k (.a A (.i n (.i p .nil)))
def f3 (k:Nat) (A:AE) (n p:SE):SE:= .ap k (.a A (.i n (.i p .nil)))
def b3 (k:Nat) (A:AE) (n p:SE):SB:= .ap k (.a A (.i n (.i p .nil)))
def rgF (A:AE) (n:SE):SB×Bool:=((.ap 1 (.a A (.i n .nil))),true)
def iv (A:AE) (n:SE):SBlk:= .row A [.int .i64,.int .i64] n [] 106
def iv0:SBlk:=iv (.v 0) (.v 0)
def ct57:Ct where
 g:=57
 args:=[.own 0,.int .i64 (.v 4),.own 1]
 heap:=[iv0,iv (.v 1) (.c 1)]
 pre:=bd (.v 0) 1 1000++[((.le (.c 0) (.v 4)),true),((.le (.v 4) (.v 0)),true)]
 alts:=[{ res:= .own 2,post:=[.dead,iv (.v 1) (.c 1),iv (.ap 2 (.a (.v 0) (.i (.v 0) (.i (.v 4) (.a (.v 1) .nil))))) (.add (.v 0) (.c 1))] }]
def ct51:Ct where
 g:=51
 args:=[.own 0,.int .i64 (.v 4),.int .i64 (.v 5)]
 heap:=[iv0]
 pre:=bd (.v 0) 1 1000++[((.le (.c 0) (.v 4)),true),((.lt (.v 4) (.v 5)),true),((.le (.v 5) (.v 0)),true)]
 alts:=[{ res:= .own 1,post:=[.dead,iv (.ap 4 (.a (.v 0) (.i (.v 4) (.i (.sub (.v 5) (.v 4)) .nil)))) (.sub (.v 0) (.sub (.v 5) (.v 4)))] }]
def hd (q la:SV) (c0 c1 ce db:SE) (nw:SB) (lt lo ig:SE) (qd:SB) (ct al lw:SE):SBlk:=
 .cells [.ptr 2 Off.z,.ptr 3 Off.z,.int .u64 c0,.int .u64 c1,.int .u64 ce,q,.int .i64 db,la,.bool nw,.int .i64 lt,.int .i64 lo,.int .i64 ig,.bool qd,.int .i64 ct,.int .i64 al,.int .i64 lw] 88
def hdV (q la:SV):SBlk:=hd q la (.v 31) (.v 32) (.v 33) (.v 6) (.v 0) (.v 34) (.v 35) (.v 36) (.v 1) (.v 37) (.v 38) (.v 39)
def hh (s:Bool) (q:SV) (db:SE):SBlk:=if s then .cells [.opq 1000,.opq 1001,.opq 1002,.opq 1003,.opq 1004,q,.int .i64 db,.opq 1007,.opq 1008,.opq 1009,.opq 1010,.opq 1011,.opq 1012,.opq 1013,.opq 1014,.opq 1015] 88 else .cells [.opq 1000,.opq 1001,.opq 1002,q,.int .i64 db,.opq 1005,.opq 1006] 82
def hist (s:Bool):SV:= .ptr 0 ⟨.c 0,0,if s then 5 else 3⟩
def hv0 (s:Bool):List SBlk:=[hh s (.own 1) (.v 6),iv0]
def laN:SV:= .nilptr
def laT:SV:= .ptr 4 Off.z
def an2:List SBlk:=[.any,.any]
def adF:Fx:=[((.le (.c 1) (f3 3 (.v 0) (.v 0) (.v 1))),true),((.le (f3 3 (.v 0) (.v 0) (.v 1)) (.add (.v 0) (.c 1))),true),rgF (a3 3 (.v 0) (.v 0) (.v 1)) (f3 3 (.v 0) (.v 0) (.v 1))]
def ct50 (s:Bool):Ct where
 g:=50
 args:=[hist s,.int .i64 (.v 1)]
 heap:=hv0 s
 pre:=bd (.v 0) 0 60++bd (.v 1) 0 400++[rgF (.v 0) (.v 0)]
 alts:=[{ res:= .bool (b3 3 (.v 0) (.v 0) (.v 1)),post:=[hh s (.own 2) (.v 6),.dead,iv (a3 3 (.v 0) (.v 0) (.v 1)) (f3 3 (.v 0) (.v 0) (.v 1))],facts:=adF }]
def prm50 (P:Program):Prm:={ P,gm:=[],okf,mts:=[],dfr:=[],sl:=[(50,5)],ct:=[ct57,ct51],hint:=[(50,14,bd (.rd (.v 0) (.add (.mul (.sub (.v 20) (.c 1)) (.c 2)) (.c 1))) 0 1000)] }
def pts50 (P:Program) (s:Bool):List Pt:=[
 { r:=5,b:=loopB P 50 5,K:=loopK P 50 5,n:=180,tmps:=[(0,hist s),(1,.int .i64 (.v 1)),(5,.int .i64 (.v 20))],ds:=[],heap:=(ct50 s).heap,
   facts:=(ct50 s).pre++bd (.v 20) (-1) 59++[((.lt (.v 20) (.v 0)),true),((.le (f3 8 (.v 0) (.v 0) (.v 1)) (.add (.v 20) (.c 1))),true),((.le (.c 1) (.v 0)),true)] }]
def memB (A:AE) (n p:SE):SB:=b3 6 A n p
def ct39 (s:Bool):Ct where
 g:=39
 args:=[hist s,.int .i64 (.v 1)]
 heap:=hv0 s
 pre:=bd (.v 0) 0 60++bd (.v 1) 0 400++[rgF (.v 0) (.v 0)]
 alts:=[{ c:= .lt (.v 1) (.v 6),res:= .bool (.c true),post:=hv0 s },{ res:= .bool (memB (.v 0) (.v 0) (.v 1)),post:=hv0 s }]
def prm39 (P:Program):Prm:={ P,gm:=[],okf,mts:=[],dfr:=[],sl:=[(39,4)],ct:=[] }
def pts39 (P:Program) (s:Bool):List Pt:=[
 { r:=4,b:=loopB P 39 4,K:=loopK P 39 4,n:=54,tmps:=[(0,hist s),(1,.int .i64 (.v 1)),(5,.int .i64 (.v 20))],ds:=[],heap:=(ct39 s).heap,
   facts:=(ct39 s).pre++bd (.v 20) (-1) 59++[((.lt (.v 20) (.v 0)),true),((.lt (.v 1) (.v 6)),false)] }]
def ct40 (s:Bool):Ct where
 g:=40
 args:=[hist s,.int .i64 (.v 1)]
 heap:=hv0 s
 pre:=bd (.v 0) 0 60++bd (.v 1) 0 400++[rgF (.v 0) (.v 0),((.lt (.v 1) (.v 6)),false),((memB (.v 0) (.v 0) (.v 1)),false)]
 alts:=[{ res:= .bool (.c true),post:=[hh s (.own 2) (.v 6),.dead,iv (a3 3 (.v 0) (.v 0) (.v 1)) (f3 3 (.v 0) (.v 0) (.v 1))],facts:=adF }]
def prm40 (P:Program) (s:Bool):Prm:={ P,gm:=[],okf,mts:=[],dfr:=[],sl:=[],ct:=[ct50 s,ct51] }
def ct61 (s:Bool):Ct where
 g:=61
 args:=[hist s,.int .i64 (.v 1)]
 heap:=hv0 s
 pre:=bd (.v 0) 1 61++bd (.v 1) (-1) 400++bd (.v 6) (-1) 1000++[rgF (.v 0) (.v 0)]
 alts:=[{ res:= .int .i64 (hmE (.v 0) (.v 0) (.v 1) (.v 6)),post:=hv0 s }]
where hmE (A:AE) (n p d:SE):SE:= .ap 7 (.a A (.i n (.i p (.i d .nil))))
def prm61 (P:Program):Prm:={ P,gm:=[],okf,mts:=[],dfr:=[],sl:=[(61,5)],ct:=[],hint:=[(61,3,bd (.rd (.v 0) (.add (.mul (.sub (.v 0) (.c 1)) (.c 2)) (.c 1))) 0 1000),(61,9,bd (.rd (.v 0) (.mul (.v 20) (.c 2))) 0 1000)] }
def pts61 (P:Program) (s:Bool):List Pt:=[
 { r:=5,b:=loopB P 61 5,K:=loopK P 61 5,n:=111,tmps:=[(0,hist s),(1,.int .i64 (.v 21)),(5,.int .i64 (.v 20))],ds:=[],heap:=(ct61 s).heap,
   facts:=(ct61 s).pre++bd (.v 20) (-1) 60++[((.lt (.v 20) (.v 0)),true)]++bd (.v 21) (-1) 1000 }]
def cutF:Fx:=[((.le (.c 0) (f3 4 (.v 0) (.v 0) (.v 1))),true),((.le (f3 4 (.v 0) (.v 0) (.v 1)) (.v 0)),true),rgF (a3 5 (.v 0) (.v 0) (.v 1)) (f3 4 (.v 0) (.v 0) (.v 1))]
def ct49 (s:Bool):Ct where
 g:=49
 args:=[hist s,.int .i64 (.v 1)]
 heap:=hv0 s
 pre:=bd (.v 0) 0 61++bd (.v 1) 0 400++[rgF (.v 0) (.v 0),((.lt (.v 1) (.v 6)),false)]
 alts:=[{ res:= .tup [],post:=[hh s (.own 2) (.v 1),.dead,iv (a3 5 (.v 0) (.v 0) (.v 1)) (f3 4 (.v 0) (.v 0) (.v 1))],facts:=cutF }]
def prm49 (P:Program):Prm:={ P,gm:=[],okf,mts:=[],dfr:=[],sl:=[(49,5)],ct:=[ct51] }
def pts49 (P:Program) (s:Bool):List Pt:=[
 { r:=5,b:=loopB P 49 5,K:=loopK P 49 5,n:=84,tmps:=[(0,hist s),(1,.int .i64 (.v 1)),(4,.int .i64 (.v 21)),(5,.int .i64 (.v 20))],ds:=[],heap:=[hh s (.own 1) (.v 1),iv0],
   facts:=(ct49 s).pre++bd (.v 20) 0 61++bd (.v 21) (-1) 60++[((.le (.c 1) (.v 0)),true),((.le (.v 20) (.v 0)),true),((.lt (.v 21) (.v 20)),true)] }]
def orB (a b:SB):SB:= .not (.and (.not a) (.not b))
def frB (r:Nat) (d c0 c1 ce:SE):SBlk:= .cells [.own r,.int .i64 d,.int .u64 c0,.int .u64 c1,.int .u64 ce] 65
def rw67 (A:AE) (n:SE):SBlk:= .row A [.int .i64,.int .i64] n [] 67
def rvE:AE:= .ap 8 (.a (.v 0) (.i (.v 0) .nil))
def trk:SV:= .ptr 0 ⟨.c 0,0,2⟩
def hdG (la:SV):SBlk:=hd (.own 1) la (.v 31) (.v 32) (.v 33) (.v 6) (.c false) (.v 34) (.v 35) (.v 36) (.v 1) (.v 37) (.v 38) (.v 39)
def newF:Fx:=bd (.v 0) 0 61++[(orB (.not (.v 0)) (.le (.c 1) (.v 0)),true)]
def ct33n:Ct where
 g:=33
 args:=[trk]
 heap:=[hdV (.own 1) laN,iv0,.any,.any]
 pre:=newF
 alts:=[{ c:= .not (.v 0),res:= .nilptr,post:=[hdV (.own 1) laN,iv0,.any,.any] },{ res:= .ptr 5 Off.z,post:=[hdG (.ptr 5 Off.z),iv0,.any,.any,rw67 rvE (.v 0),frB 4 (.c 0) (.v 31) (.v 32) (.v 33)] }]
def ct33t:Ct where
 g:=33
 args:=[trk]
 heap:=[hdV (.own 1) laT,iv0,.any,.any,frB 5 (.v 41) (.v 42) (.v 43) (.v 44),rw67 (.v 2) (.v 40)]
 pre:=newF++bd (.v 40) 1 61
 alts:=[{ c:= .not (.v 0),res:= .nilptr,post:=[hdV (.own 1) laT,iv0,.any,.any,frB 5 (.v 41) (.v 42) (.v 43) (.v 44),rw67 (.v 2) (.v 40)] },{ res:= .ptr 4 Off.z,post:=[hdG laT,iv0,.any,.any,frB 6 (.c 0) (.v 31) (.v 32) (.v 33),.dead,rw67 rvE (.v 0)] }]
def rdF:SB×Bool:=((.ap 2 (.a (.v 2) (.i (.v 40) .nil))),true)
def frH:List SBlk:=[frB 1 (.v 41) (.v 42) (.v 43) (.v 44),rw67 (.v 2) (.v 40)]
def ct59:Ct where
 g:=59
 args:=[.int .i64 (.v 40),.func (.func 60) [] [.ptr 2 Off.z,.ptr 3 Off.z]]
 heap:=frH++[.cells [.int .i64 (.v 1)] 50,.cells [.ptr 0 Off.z] 60]
 pre:=bd (.v 40) 1 61++[rdF]
 alts:=[{ res:= .int .i64 (f3 9 (.v 2) (.v 40) (.v 1)),post:=frH++[.cells [.int .i64 (.v 1)] 50,.cells [.ptr 0 Off.z] 60] }]
def prm59 (P:Program):Prm:={ P,gm:=[],okf,mts:=[],dfr:=[],sl:=[(59,2)],ct:=[] }
def pts59 (P:Program):List Pt:=[
 { r:=2,b:=loopB P 59 2,K:=loopK P 59 2,n:=26,tmps:=[(1,.func (.func 60) [] [.ptr 2 Off.z,.ptr 3 Off.z]),(5,.int .i64 (.v 20)),(6,.int .i64 (.v 21))],ds:=[],heap:=ct59.heap,
   facts:=ct59.pre++bd (.v 20) 0 61++bd (.v 21) 0 61++[((.le (.v 20) (.v 21)),true),((.le (.v 21) (.v 40)),true)] }]
def ct53:Ct where
 g:=53
 args:=[.ptr 0 Off.z,.int .i64 (.v 1)]
 heap:=frH
 pre:=bd (.v 40) 1 61++bd (.v 1) 0 400++[rdF]
 alts:=[{ res:= .bool (b3 7 (.v 2) (.v 40) (.v 1)),post:=frH }]
def prm53 (P:Program):Prm:={ P,gm:=[],okf,mts:=[],dfr:=[],sl:=[],ct:=[ct59],hint:=[(53,4,bd (f3 9 (.v 2) (.v 40) (.v 1)) 0 60++[((.lt (f3 9 (.v 2) (.v 40) (.v 1)) (.v 40)),true)])] }
def inc (k:Int) (x:SE):SE:= .ite (.eq (.v 50) (.c k)) (.add x (.c 1)) x
def rcF:Fx:=bd (.v 0) 0 60++bd (.v 1) 0 400++[rgF (.v 0) (.v 0),((.lt (.v 1) (.v 6)),false),((memB (.v 0) (.v 0) (.v 1)),false)]++bd (.v 6) (-1) 1000++bd (.v 31) 0 1000++bd (.v 32) 0 1000++bd (.v 33) 0 1000++bd (.v 35) 0 1000++bd (.v 37) 0 1000++bd (.v 51) 0 1000000000000000
def tk (s:Bool) (q:SV) (c0 c1 ce:SE) (nw:SB):SBlk:=if s then .cells [.opq 1000,.opq 1001,.int .u64 c0,.int .u64 c1,.int .u64 ce,q,.int .i64 (.v 6),.opq 1007,.bool nw,.opq 1009,.opq 1010,.opq 1011,.opq 1012,.opq 1013,.opq 1014,.opq 1015] 88 else .cells [.int .u64 c0,.int .u64 c1,.int .u64 ce,q,.int .i64 (.v 6),.opq 1005,.bool nw] 82
def tr (s:Bool):SV:= .ptr 0 ⟨.c 0,0,if s then 2 else 0⟩
def ct30 (s:Bool):Ct where
 g:=30
 args:=[tr s,.int .i64 (.v 1),.int .u8 (.v 50),.bool (.v 2)]
 heap:=[tk s (.own 1) (.v 31) (.v 32) (.v 33) (.v 0),iv0]
 pre:=bd (.v 0) 0 60++bd (.v 1) 0 400++[rgF (.v 0) (.v 0),((.lt (.v 1) (.v 6)),false),((memB (.v 0) (.v 0) (.v 1)),false)]++bd (.v 31) 0 1000++bd (.v 32) 0 1000++bd (.v 33) 0 1000
 alts:=[{ res:= .nilif,post:=[tk s (.own 2) (inc 3 (.v 31)) (inc 2 (.v 32)) (inc 4 (.v 33)) (orB (.v 0) (.v 2)),.dead,iv (a3 3 (.v 0) (.v 0) (.v 1)) (f3 3 (.v 0) (.v 0) (.v 1))],facts:=adF }]
def prm30 (P:Program) (s:Bool):Prm:={ P,gm:=[],okf,mts:=[],dfr:=[],sl:=[],ct:=[ct40 s] }
def mp (a b:AE):SBlk:=mapS 7 a b
def mp0:SBlk:=mp (.v 0) (.v 1)
def qsO (gr be la:SE):SBlk:= .cells [.opq 1000,.map 1,.opq 1002,.int .i64 gr,.int .i64 be,.int .i64 la,.opq 1006,.opq 1007,.opq 1008,.opq 1009,.opq 1010,.opq 1011,.opq 1012,.opq 1013] 72
def hpO:List SBlk:=[qsO (.v 10) (.v 11) (.v 12),mp0]
def btM:List Bt:=[btGet 70 7 .i64 0,btArIx 36 0]
def gapE (a b:AE) (gr be la:SE):SB:= .ap 31 (.a a (.a b (.i gr (.i be (.i la .nil)))))
def ct37:Ct where
 g:=37
 args:=[.ptr 0 Off.z]
 heap:=hpO
 pre:=bd (.v 10) (-1) 100++bd (.v 11) 0 100++bd (.v 12) (-1) 100
 alts:=[{ res:= .bool (gapE (.v 0) (.v 1) (.v 10) (.v 11) (.v 12)),post:=hpO }]
def prm37 (P:Program):Prm:={ P,gm:=[],okf,mts:=[],dfr:=[],sl:=[(37,2)],ct:=[],bt:=btM }
def pts37 (P:Program):List Pt:=[
 { r:=2,b:=loopB P 37 2,K:=loopK P 37 2,n:=32,tmps:=[(0,.ptr 0 Off.z),(3,.int .i64 (.v 120))],ds:=[],heap:=hpO,facts:=ct37.pre++bd (.v 120) (-2) 100 }]
def rgNE (a b:AE) (la:SE):SE:= .ap 33 (.a a (.a b (.i la .nil)))
def rgBE (a b:AE) (la:SE):AE:= .ap 32 (.a a (.a b (.i la .nil)))
def rw2 (a:AE) (n:SE):SBlk:= .row a [.int .i64,.int .i64] n [] 36
def ct26:Ct where
 g:=26
 args:=[.ptr 0 Off.z]
 heap:=hpO
 pre:=bd (.v 12) (-1) 100
 alts:=[{ res:= .own 2,post:=hpO++[rw2 (rgBE (.v 0) (.v 1) (.v 12)) (rgNE (.v 0) (.v 1) (.v 12))] }]
def prm26 (P:Program):Prm:={ P,gm:=[],okf,mts:=[],dfr:=[],sl:=[(26,3)],ct:=[],bt:=btM }
def pts26 (P:Program):List Pt:=[
 { r:=3,b:=loopB P 26 3,K:=loopK P 26 3,n:=51,tmps:=[(0,.ptr 0 Off.z),(3,.own 2),(4,.int .i64 (.v 120))],ds:=[],heap:=hpO++[rw2 (.v 120) (.v 121)],facts:=ct26.pre++bd (.v 120) (-1) 100++bd (.v 121) 0 101 }]
def qsS (t:Bool) (sp gr be la at' nw ca:SE) (du:SB) (e0 e1 ce:SE):SBlk:=
 .cells [.int .i64 sp,.map 1,if t then .map 2 else .nilmap,.int .i64 gr,.int .i64 be,.int .i64 la,.int .i64 at',.int .i64 nw,.int .i64 ca,.bool du,.bool (.c t),.int .u64 e0,.int .u64 e1,.int .u64 ce] 72
def qsV (t:Bool):SBlk:=qsS t (.v 9) (.v 10) (.v 11) (.v 12) (.v 13) (.v 14) (.v 15) (.v 16) (.v 17) (.v 18) (.v 19)
def xV:SV:= .agg [.int .i64 (.v 20),.int .i64 (.v 21),.int .i64 (.v 22),.int .i64 (.v 23),.bool (.v 24),.bool (.v 25)]
def lastP (t:Bool):List SBlk:=if t then [mp (.v 2) (.v 3)] else []
def hvI (a b:AE) (x:SE):SB:= .and (.not (.eq (.rd a (.add x (.c 0))) (.c 0))) (.not (.eq (.rd b (.add x (.c 0))) (.c 0)))
def laE:SE:= .ite (.le (.v 12) (.v 22)) (.v 22) (.v 12)
def up1 (a:AE) (x:SE):AE:= .up a (.add x (.c 0)) (.c 1)
def orS (x y:SB):SB:= .not (.and (.not x) (.not y))
def duE (t:Bool):SB:=orS (.v 16) (.and (.v 24) (orS (.le (.c 1) (.v 14)) (orS (.eq (.v 21) (.c 3)) (.and (.c t) (orS (.and (.lt (.v 22) (.v 10)) (.not (hvI (.v 2) (.v 3) (.v 22)))) (gapE (up1 (.v 0) (.v 22)) (up1 (.v 1) (.v 22)) (.v 10) (.v 11) laE))))))
def qsR (t:Bool):SBlk:=qsS t (.v 9) (.v 10) (.v 11) laE (.ite (.le (.v 12) (.v 22)) (.v 23) (.v 13)) (.ite (.v 24) (.add (.v 14) (.c 1)) (.v 14)) (.ite (.v 24) (.v 23) (.v 15)) (duE t) (.ite (.eq (.v 21) (.c 2)) (.add (.v 17) (.c 1)) (.v 17)) (.ite (.eq (.v 21) (.c 1)) (.add (.v 18) (.c 1)) (.v 18)) (.ite (.eq (.v 21) (.c 3)) (.add (.v 19) (.c 1)) (.v 19))
def preS:Fx:=bd (.v 10) (-1) 100++bd (.v 11) 0 100++bd (.v 12) (-1) 100++bd (.v 14) 0 100++bd (.v 17) 0 100++bd (.v 18) 0 100++bd (.v 19) 0 100++bd (.v 21) 0 3++bd (.v 22) 0 99++bd (.v 23) 0 1000000000
def ct24 (t:Bool):Ct where
 g:=24
 args:=[.ptr 0 Off.z,xV]
 heap:=[qsV t,mp (.v 0) (.v 1)]++lastP t
 pre:=preS
 alts:=[{ res:= .tup [],post:=[qsR t,mp (up1 (.v 0) (.v 22)) (up1 (.v 1) (.v 22))]++lastP t }]
def btS:List Bt:=[btGet 70 7 .i64 0,btPut 70 7 .i64 0]
def prm24 (P:Program):Prm:={ P,gm:=[],okf,mts:=[],dfr:=[],sl:=[],ct:=[ct37],bt:=btS }
def k2 (t:Bool):Nat:=if t then 3 else 2
def zr (i w:SB) (sl:SV) (d a e0 e1 ce:SE):SV:= .agg [.bool i,.bool w,sl,.int .i64 d,.int .i64 a,.int .u64 e0,.int .u64 e1,.int .u64 ce]
def dueE:SB:=orS (.lt (.v 9) (.c 2)) (orS (.v 16) (.le (.add (.v 15) (.c 25000000)) (.v 23)))
def asE:SB:= .and (.eq (.v 20) (.c 1)) (.and (.not (.eq (.v 14) (.c 0))) (.not (.and (.v 25) (.not dueE))))
def cuE:SB:= .and (.eq (.v 20) (.c 2)) (.and (.eq (.v 9) (.c 2)) (.lt (.v 11) (.v 22)))
def hvq (a b:AE) (x:SE):SB:= .and (.not (.eq (.rd a x) (.c 0))) (.not (.eq (.rd b x) (.c 0)))
def oldE:SB:=orS (.lt (.v 22) (.v 11)) (hvq (.v 0) (.v 1) (.v 22))
def reE:SB:= .and (.eq (.v 20) (.c 0)) (.not oldE)
def one (a:AE):AE:= .ap 33 (.a a .nil)
def cutM (a:AE) (p:SE):AE:= .ap 34 (.a a (.i p .nil))
def qsF (k:Nat):SBlk:= .cells [.int .i64 (.v 9),.map 1,.map k,.int .i64 (.v 12),.int .i64 (.v 11),.int .i64 (.v 12),.int .i64 (.v 13),.int .i64 (.c 0),.int .i64 (.c 0),.bool (.c false),.bool (.c true),.int .u64 (.v 17),.int .u64 (.v 18),.int .u64 (.v 19)] 72
def qsB (t:Bool):SBlk:=qsS t (.v 9) (.v 10) (.v 22) (.v 12) (.v 13) (.v 14) (.v 15) (.v 16) (.v 17) (.v 18) (.v 19)
def dlE:SE:= .ite (.eq (.v 9) (.c 2)) (.mx (.c 0) (.sub (.v 23) (.v 13))) (.c 0)
def alE:SE:= .ite (.and (.eq (.v 20) (.c 4)) (.and (.eq (.v 9) (.c 2)) (.and (.lt (.c 0) (.v 14)) (.not (.v 16))))) (.add (.v 15) (.c 25000000)) (.c 0)
def dead1 (t:Bool):List SBlk:=if t then [.dead] else []
def c0:SE:= .c 0
def ct11 (t:Bool):Ct where
 g:=11
 args:=[.ptr 0 Off.z,xV]
 heap:=[qsV t,mp (.v 0) (.v 1)]++lastP t
 pre:=(.ap 32 (.a (.v 0) .nil),true)::preS++bd (.v 9) 0 2++bd (.v 13) 0 1000000000++bd (.v 15) 0 1000000000++bd (.v 20) 0 4
 alts:=[
  { c:=asE,res:=zr (.c true) (.c false) (.own (k2 t+1)) dlE c0 (.v 17) (.v 18) (.v 19),post:=[qsF (k2 t),mp (.v 0) (.v 1)]++dead1 t++[mp (one (.v 0)) (one (.v 0)),rw2 (rgBE (.v 0) (.v 1) (.v 12)) (rgNE (.v 0) (.v 1) (.v 12))] },
  { c:=cuE,res:=zr (.c false) (.c false) .nilslice c0 c0 c0 c0 c0,post:=[qsB t,mp (cutM (.v 0) (.v 22)) (.v 1)]++lastP t },
  { c:=reE,res:=zr (.c false) (.c false) .nilslice c0 c0 c0 c0 c0,post:=[qsR t,mp (up1 (.v 0) (.v 22)) (up1 (.v 1) (.v 22))]++lastP t },
  { res:=zr (.and (.eq (.v 20) (.c 3)) oldE) (.and (.eq (.v 20) (.c 0)) oldE) .nilslice c0 alE c0 c0 c0,post:=[qsV t,mp (.v 0) (.v 1)]++lastP t }]
def btG:List Bt:=[btGet 70 7 .i64 0,btPut 70 7 .i64 0,btMake 70 7,btRange 70 7 8 0,btNext 7 8 .i64 0 30,btEntry 8 .i64 0,btDelR 70 8 .i64 0]
def prm11 (P:Program) (t:Bool):Prm:={ P,gm:=[],okf,mts:=[],dfr:=[],sl:=[(11,15),(11,23)],ct:=[ct24 t,ct26],bt:=btG }
def xC:SBlk:= .cells [.int .i64 (.v 20),.int .i64 (.v 21),.int .i64 (.v 22),.int .i64 (.v 23),.bool (.v 24),.bool (.v 25)] 26
def oC (i:SB) (sl:SV) (d e0 e1 ce:SE):SBlk:= .cells [.bool i,.bool (.c false),sl,.int .i64 d,.int .i64 c0,.int .u64 e0,.int .u64 e1,.int .u64 ce] 35
def qsL (t:Bool):SBlk:= .cells [.int .i64 (.v 9),.map 1,.map (k2 t),.int .i64 (.v 10),.int .i64 (.v 11),.int .i64 (.v 12),.int .i64 (.v 13),.int .i64 (.v 14),.int .i64 (.v 15),.bool (.v 16),.bool (.c t),.int .u64 (.v 17),.int .u64 (.v 18),.int .u64 (.v 19)] 72
def z0:SBlk:=oC (.c false) .nilslice c0 c0 c0 c0
def rgV (a:AE) (l:AE):SBlk:=rngS 8 a (.v 1) l (.v 126) (.v 127)
def itF:Fx:=[(.le (.c 0) (.v 126),true),(.le (.c (-1)) (.v 127),true)]
def pts11 (P:Program) (t:Bool):List Pt:=[
 { r:=15,b:=loopB P 11 15,K:=loopK P 11 15,n:=180,tmps:=[(0,.ptr 0 Off.z),(3,.ptr (k2 t+2) Off.z),(4,.ptr (k2 t+3) Off.z),(5,.ptr (k2 t+4) Off.z),(10,.int .i64 (.v 20)),(77,.pa (.v 126) (.c 0))],ds:=[],
   heap:=[qsL t,rgV (.v 0) (.v 120)]++dead1 t++[mp (.v 121) (.v 121),rw2 (rgBE (.v 0) (.v 1) (.v 12)) (rgNE (.v 0) (.v 1) (.v 12)),xC,z0,oC (.c true) (.own (k2 t+1)) (.v 128) (.v 17) (.v 18) (.v 19)],
   facts:=(asE,true)::(ct11 t).pre++itF },
 { r:=23,b:=loopB P 11 23,K:=loopK P 11 23,n:=180,tmps:=[(0,.ptr 0 Off.z),(3,.ptr (k2 t) Off.z),(4,.ptr (k2 t+1) Off.z),(5,.ptr (k2 t+2) Off.z),(10,.int .i64 (.v 20)),(131,.pa (.v 126) (.c 0))],ds:=[],
   heap:=[qsB t,rgV (.v 120) (.v 121)]++lastP t++[xC,z0,z0],
   facts:=(.eq (.v 20) (.c 1),false)::(.eq (.v 20) (.c 2),true)::(.eq (.v 9) (.c 2),true)::(.lt (.v 11) (.v 22),true)::(ct11 t).pre++itF }]
def hpT:List SBlk:=[hdV (.own 1) laT,iv0,.any,.any,frB 5 (.v 41) (.v 42) (.v 43) (.v 44),rw67 (.v 2) (.v 40)]
def msE:SB:= .ap 21 (.i (.v 36) (.i (.v 1) (.a (.v 2) (.i (.v 40) .nil))))
def nmE:SB:= .ap 22 (.a (.v 0) (.i (.v 0) (.i (.v 35) (.i (.v 6) (.a (.v 2) .nil)))))
def ct41t:Ct where
 g:=41
 args:=[trk,.int .i64 (.v 1)]
 heap:=hpT
 pre:=bd (.v 1) 0 400++bd (.v 40) 1 61++[rdF]
 alts:=[{ res:= .bool msE,post:=hpT }]
def prm41t (P:Program):Prm:={ P,gm:=[],okf,mts:=[],dfr:=[],sl:=[],ct:=[ct53] }
def ct54t:Ct where
 g:=54
 args:=[trk]
 heap:=hpT
 pre:=bd (.v 0) 1 61++bd (.v 35) 0 401++bd (.v 6) (-1) 1000++bd (.v 40) 1 61++[rgF (.v 0) (.v 0),rdF]
 alts:=[{ res:= .bool nmE,post:=hpT }]
def prm54t (P:Program):Prm:={ P,gm:=[],okf,mts:=[],dfr:=[],sl:=[],ct:=[ct61 true],hint:=[(54,10,bd (.rd (.v 2) (.c 1)) 0 1000)] }
def loE:SE:= .ite (.le (.v 35) (.v 1)) (.v 1) (.v 35)
def two:SB:= .le (.c 2) (.add (.v 37) (.c 1))
def isCE:SB:= .eq (.v 50) (.c 4)
def nm2 (lo:SE):SB:= .ap 22 (.a (a3 3 (.v 0) (.v 0) (.v 1)) (.i (f3 3 (.v 0) (.v 0) (.v 1)) (.i lo (.i (.v 6) (.a (.v 2) .nil)))))
def sqE:SB:=orB (.v 1) (.and (.v 2) (orB msE (orB two (orB (nm2 loE) isCE))))
def sqN:SB:=orB (.v 1) (.and (.v 2) (orB two isCE))
def hd32 (r:Nat) (la:SV) (sq:SB):SBlk:=hd (.own r) la (inc 3 (.v 31)) (inc 2 (.v 32)) (inc 4 (.v 33)) (.v 6) (orB (.v 0) (.v 2)) (.ite (.le (.v 35) (.v 1)) (.v 51) (.v 34)) loE (.v 36) sq (.ite (.v 2) (.add (.v 37) (.c 1)) (.v 37)) (.ite (.v 2) (.ite sq (.ite (.v 1) (.v 38) (.c 0)) (.add (.v 51) (.c 25000000))) (.v 38)) (.v 39)
def rcG:Fx:=rcF++[((.le (.v 35) (.c 400)),true)]
def args32:List SV:=[trk,.int .i64 (.v 1),.int .u8 (.v 50),.int .i64 (.v 51),.bool (.v 2)]
def ct32x:Ct where
 g:=32
 args:=args32
 heap:=hpT
 pre:=rcG++bd (.v 40) 1 61++[rdF]
 alts:=[{ res:= .nilif,post:=[hd32 6 laT sqE,.dead,.any,.any,frB 5 (.v 41) (.v 42) (.v 43) (.v 44),rw67 (.v 2) (.v 40),iv (a3 3 (.v 0) (.v 0) (.v 1)) (f3 3 (.v 0) (.v 0) (.v 1))],facts:=adF }]
def prm32x (P:Program):Prm:={ P,gm:=[],okf,mts:=[],dfr:=[],sl:=[],ct:=[ct30 true,ct41t,ct54t] }
def ct32n:Ct where
 g:=32
 args:=args32
 heap:=[hdV (.own 1) laN,iv0]++an2
 pre:=rcG
 alts:=[{ res:= .nilif,post:=[hd32 4 laN sqN,.dead,.any,.any,iv (a3 3 (.v 0) (.v 0) (.v 1)) (f3 3 (.v 0) (.v 0) (.v 1))],facts:=adF }]
def prm32n (P:Program):Prm:={ P,gm:=[],okf,mts:=[],dfr:=[],sl:=[],ct:=[ct30 true] }
def sk8:List SK:=[.int .i64,.int .i64,.int .i64,.int .i64,.bool,.bool]
def scr:SBlk:= .row (.v 5) sk8 (.v 60) [] 26
def slS:SL:= .a (.v 5) .nil
def sokF:SB×Bool:=((.ap 10 (.a (.v 5) (.i (.v 60) .nil))),true)
def ct19:Ct where
 g:=19
 args:=[.int .i64 (.v 1)]
 heap:=[]
 pre:=bd (.v 1) 0 3
 alts:=[{ res:= .int .u8 (.ite (.eq (.v 1) (.c 1)) (.c 2) (.ite (.eq (.v 1) (.c 2)) (.c 3) (.ite (.eq (.v 1) (.c 3)) (.c 4) (.c 1)))),post:=[] }]
def prm19 (P:Program):Prm:={ P,gm:=[],okf,mts:=[],dfr:=[],sl:=[],ct:=[] }
def ct8:Ct where
 g:=8
 args:=[.int .i64 (.c 2),.own 0]
 heap:=[scr]
 pre:=bd (.v 60) 0 63++[sokF]
 alts:=[{ res:= .tup [.own 1,.bool (.c true)],post:=[scr,recB 1000 (.v 60) (.ap 20 slS) (.v 500) (.ap 21 slS) (.v 501) (.ap 22 slS)] }]
 nx:=2
def rs (c:Int):SE:= .rd (.v 5) (if c=0 then .mul (.v 110) (.c 6) else .add (.mul (.v 110) (.c 6)) (.c c))
def hs8:Fx:=bd (rs 1) 0 3++bd (rs 2) 0 400++bd (rs 3) 0 1000000000000000
def prm8 (P:Program):Prm:={ P,gm:=[],okf,mts:=[],dfr:=[13],sl:=[(8,7),(8,19)],ct:=[ct19,ct39 true,ct32n,ct32x,ct33n,ct33t,ct49 true],bt:=[btRecApp 29 1000 1 rq],hint:=[(8,8,hs8)],recs:=true }
def hd1 (la:SV):SBlk:= .cells [.ptr 2 Off.z,.ptr 3 Off.z,.int .u64 (.v 131),.int .u64 (.v 132),.int .u64 (.v 133),.own 5,.int .i64 (.v 106),la,.bool (.v 100),.int .i64 (.v 134),.int .i64 (.v 135),.int .i64 (.v 136),.bool (.v 101),.int .i64 (.v 137),.int .i64 (.v 138),.int .i64 (.v 139)] 88
def pf8:Fx:=ct8.pre++bd (.v 110) 0 63++bd (.v 100) 0 51++[rgF (.v 100) (.v 100),((.le (.v 106) (.v 136)),true),((orB (.not (.v 100)) (.le (.c 1) (.v 100))),true)]++bd (.v 106) (-1) 1000++bd (.v 131) 0 63++bd (.v 132) 0 63++bd (.v 133) 0 63++bd (.v 134) 0 1000000000000000++bd (.v 135) 0 400++bd (.v 136) 0 400++bd (.v 137) 0 63++bd (.v 138) 0 2000000000000000++bd (.v 139) (-1) 400
def rdF8:Fx:=bd (.v 140) 1 51++[((.ap 2 (.a (.v 102) (.i (.v 140) .nil))),true)]
def tm8:List (Nat×SV):=[(0,.int .i64 (.c 2)),(4,.own 6),(5,.ptr 1 Off.z),(6,.ptr 4 Off.z),(7,.int .u8 (.c 4)),(21,.own 0),(22,.int .i64 (.v 60)),(23,.int .i64 (.v 110))]
def hp8 (la:SV):List SBlk:=[scr,.cells [.bool (.c false)] 4,.any,.any,hd1 la,iv (.v 100) (.v 100),recB 1000 (.v 110) (.v 120) (.v 121) (.v 122) (.v 123) (.v 124)]
def fr8:List SBlk:=[.cells [.own 8,.int .i64 (.v 141),.int .u64 (.v 142),.int .u64 (.v 143),.int .u64 (.v 144)] 65,rw67 (.v 102) (.v 140)]
def ds8:List SD:=[{ fn:=13,args:=[.ptr 1 Off.z],cap:=[] }]
def x8:List SBlk:=[.cells [.bool (.c true),.bool (.c false),.own 10,.int .i64 (.v 151),.int .i64 (.c 0),.int .u64 (.v 131),.int .u64 (.v 132),.int .u64 (.v 133)] 35,.row (.v 103) [.int .i64,.int .i64] (.v 150) [] 36]
def pt19 (P:Program):Pt:=
 { r:=19,b:=loopB P 8 19,K:=loopK P 8 19,n:=129,tmps:=tm8++[(10,.ptr 9 Off.z),(88,.own 8),(89,.int .i64 (.v 140)),(90,.int .i64 (.v 150))],ds:=ds8,heap:=hp8 (.ptr 7 Off.z)++fr8++x8,facts:=pf8++rdF8++bd (.v 150) 0 51++[((.le (.v 150) (.v 140)),true),((.lt (.v 110) (.v 60)),true)] }
def pts8 (P:Program):List Pt:=[
 { r:=7,b:=loopB P 8 7,K:=loopK P 8 7,n:=129,tmps:=tm8,ds:=ds8,heap:=hp8 .nilptr,facts:=pf8 },
 { r:=7,b:=loopB P 8 7,K:=loopK P 8 7,n:=129,tmps:=tm8,ds:=ds8,heap:=hp8 (.ptr 7 Off.z)++fr8,facts:=pf8++rdF8 },
 pt19 P]
def kd (q la:SV) (c0 c1 ce db:SE) (nw:SB):SBlk:= .cells [.int .u64 c0,.int .u64 c1,.int .u64 ce,q,.int .i64 db,la,.bool nw] 82
def kdV (q la:SV):SBlk:=kd q la (.v 31) (.v 32) (.v 33) (.v 6) (.v 0)
def kdG (la:SV):SBlk:=kd (.own 1) la (.v 31) (.v 32) (.v 33) (.v 6) (.c false)
def laK:SV:= .ptr 2 Off.z
def ct33kn:Ct where
 g:=33
 args:=[.ptr 0 Off.z]
 heap:=[kdV (.own 1) .nilptr,iv0]
 pre:=newF
 alts:=[{ c:= .not (.v 0),res:= .nilptr,post:=[kdV (.own 1) .nilptr,iv0] },{ res:= .ptr 3 Off.z,post:=[kdG (.ptr 3 Off.z),iv0,rw67 rvE (.v 0),frB 2 (.c 0) (.v 31) (.v 32) (.v 33)] }]
def ct33kt:Ct where
 g:=33
 args:=[.ptr 0 Off.z]
 heap:=[kdV (.own 1) laK,iv0,frB 3 (.v 41) (.v 42) (.v 43) (.v 44),rw67 (.v 2) (.v 40)]
 pre:=newF++bd (.v 40) 1 61
 alts:=[{ c:= .not (.v 0),res:= .nilptr,post:=[kdV (.own 1) laK,iv0,frB 3 (.v 41) (.v 42) (.v 43) (.v 44),rw67 (.v 2) (.v 40)] },{ res:= .ptr 2 Off.z,post:=[kdG laK,iv0,frB 4 (.c 0) (.v 31) (.v 32) (.v 33),.dead,rw67 rvE (.v 0)] }]
def ix1:SE:=idxE 1 0
def btN:List Bt:=[btNsLen 32 1000 ix1 idxP,btNpIx 32 1000 ix1 idxP,btNpIn 36 1000 ix1 idxP,btNpLd 2 1000 ix1 idxP 128 .i64,btNpAll 36 1000 ix1 idxP 128 .i64]
def rw36:SBlk:= .row (.v 50) [.int .i64,.int .i64] (.v 50) [] 36
def ct12:Ct where
 g:=12
 args:=[nsV ix1,.own 1]
 heap:=[recV 1000,rw36]
 pre:=idxP++bd (.v 50) 0 64++bd (.rd (.v 2) ix1) 0 64
 alts:=[{ res:= .bool (.ap 12 (.a (.v 4) (.i (SE.mkMul ix1 (.c 128)) (.i (.rd (.v 2) ix1) (.a (.v 50) (.i (.v 50) .nil)))))),post:=[recV 1000,rw36] }]
def prm12 (P:Program):Prm:={ P,gm:=[],okf,mts:=[],dfr:=[],sl:=[(12,4)],ct:=[],bt:=btN }
def pts12 (P:Program):List Pt:=[
 { r:=4,b:=loopB P 12 4,K:=loopK P 12 4,n:=26,tmps:=[(0,nsV ix1),(1,.own 1),(12,.int .i64 (.rd (.v 2) ix1)),(13,.int .i64 (.v 130))],ds:=[],heap:=ct12.heap,facts:=ct12.pre++bd (.v 130) 0 64++[((.eq (.rd (.v 2) ix1) (.v 50)),true)] }]
def btR:List Bt:=[btRecApp 29 1000 1 rq,btRecLen 29 1000,btRecIx 29 1000 rq,btRecLd 4 1000 rq 0,btRecLd 32 1000 rq 2]
def ct9:Ct where
 g:=9
 args:=[]
 heap:=[]
 alts:=[{ res:= .bool (.c true),post:=[] }]
def prm9 (P:Program):Prm:={ P,gm:=[],okf,mts:=[],dfr:=[13],sl:=[],ct:=[ct33kn,ct12],bt:=btR,recs:=true }
end Go.Proofs.Ytgianhjmjiiadaa
end
