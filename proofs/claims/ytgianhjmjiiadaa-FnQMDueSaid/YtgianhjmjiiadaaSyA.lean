/- The symbolic words of a small executor over the model's code: whole numbers and truth values as terms over an environment, values, blocks, and what they denote. -/
import Derived.WalkKit
import Derived.Laws.AppendOwn
import GoSem.Core.Float
import Derived.Laws.StructEq
import Derived.ChangeKeysEq
section
section
set_option autoImplicit true
set_option relaxedAutoImplicit true
set_option linter.unusedVariables false
set_option linter.unusedSimpArgs false
namespace Go.Sy
open Go
inductive Arg where
 |i (n:Int)
 |a (f:Nat→Int)
def kcode:FloatKind→Int
 | .f32=>0
 | .f64=>1
def kof (n:Int):FloatKind:=if n=0 then .f32 else .f64
theorem kof_kcode (k:FloatKind):kof (kcode k)=k:=by cases k<;>rfl
def fopt (op:Int) (k:FloatKind) (x y:Nat):Option Nat:=if op=0 then k.format.add x y else if op=1 then k.format.sub x y else if op=2 then k.format.mul x y else k.format.div x y
def fbase (k:Nat) (l:List Arg):Int:=match k,l with
 |1000,[.i kc,.i e,.i j]=>((kof kc).format.nearest false e.toNat (-(j.toNat:Int)):Nat)
 |1001,[.i op,.i kc,.i x,.i y]=>((fopt op (kof kc) x.toNat y.toNat).getD 0:Nat)
 |1002,[.i kc,.i x]=>(((kof kc).decode x.toNat).toInt .zero).getD 0
 |_,_=>0
def gbase (k:Nat) (l:List Arg):Bool:=match k,l with
 |1001,[.i op,.i kc,.i x,.i y]=>(fopt op (kof kc) x.toNat y.toNat).isSome
 |1002,[.i kc,.i x]=>match ((kof kc).decode x.toNat).toInt .zero with
  |some n=>decide (IntKind.i64.min≤n∧n≤IntKind.i64.max)
  |none=>false
 |_,_=>false
structure Bk where
 a:Nat
 z:Bool:=true
 n:Nat:=0
 c:Nat:=0
 o:Nat:=0
 q:Nat→Value:=fun _=> .nilIface
def Bk.v (k:Bk):Value:=if k.z then .slice none 0 0 else .slice (some ⟨k.a,k.o,none⟩) k.n k.c
structure Fns where
 f:Nat→List Arg→Int
 g:Nat→List Arg→Bool
 a:Nat→List Arg→Nat→Int
 fb: ∀k l,1000≤k→f k l=fbase k l
 gb: ∀k l,1000≤k→g k l=gbase k l
 p:Nat→List Arg→Nat→Value→World→Prop:=fun k l _ v _=>1000≤k∧v= .slice none 0 0∧ ∃r,l= .i 0::r
 ft:Nat→List Arg→Nat→Value→Nat→Prop:=fun _ _ _ _ _=>False
 pf: ∀k l a v (w w':World),p k l a v w→(∀x,ft k l a v x→w'.heap[x]?=w.heap[x]?)→p k l a v w':=by intros;assumption
 pn: ∀k r a w,1000≤k→p k (.i 0::r) a (.slice none 0 0) w:=by intro k r a w h;exact ⟨h,rfl,_,rfl⟩
 fn: ∀k r a x,1000≤k→ ¬ft k (.i 0::r) a (.slice none 0 0) x:=by intros;exact id
structure Env where
 i:Nat→Int
 b:Nat→Bool
 a:Nat→Nat→Int
 o:Nat→Value
 fn:Fns
mutual
inductive SE where
 |c (n:Int)
 |v (i:Nat)
 |add (x y:SE)
 |sub (x y:SE)
 |mul (x y:SE)
 |wrap (k:IntKind) (x:SE)
 |tdiv (x y:SE)
 |tmod (x y:SE)
 |bits (op:BinOp) (k:IntKind) (x y:SE)
 |shl (k:IntKind) (x y:SE)
 |shr (k:IntKind) (x y:SE)
 |rd (a:AE) (o:SE)
 |mn (x y:SE)
 |mx (x y:SE)
 |ni (x y:SE)
 |ite (b:SB) (x y:SE)
 |ap (f:Nat) (l:SL)
 deriving DecidableEq
inductive SB where
 |c (b:Bool)
 |v (i:Nat)
 |lt (x y:SE)
 |le (x y:SE)
 |eq (x y:SE)
 |not (x:SB)
 |beq (x y:SB)
 |and (x y:SB)
 |ap (f:Nat) (l:SL)
 deriving DecidableEq
inductive AE where
 |v (i:Nat)
 |ap (f:Nat) (l:SL)
 |tl (a:AE) (n:SE) (l:SL)
 |ct (a:AE) (n:SE) (b:AE)
 |up (a:AE) (i:SE) (x:SE)
 |dr (a:AE) (n:SE)
 deriving DecidableEq
inductive SL where
 |nil
 |i (x:SE) (r:SL)
 |b (x:SB) (r:SL)
 |a (x:AE) (r:SL)
 deriving DecidableEq
end
def imn (a b:Int):Int:=if b<a then b else a
def imx (a b:Int):Int:=if a<b then b else a
def ini (a b:Int):Int:=if a=b then 0 else b
def b2i (b:Bool):Int:=if b then 1 else 0
mutual
def SE.den (E:Env):SE→Int
 | .c n=>n
 | .v i=>E.i i
 | .add x y=>x.den E+y.den E
 | .sub x y=>x.den E - y.den E
 | .mul x y=>x.den E*y.den E
 | .wrap k x=>k.wrap (x.den E)
 | .tdiv x y=>(x.den E).tdiv (y.den E)
 | .tmod x y=>(x.den E).tmod (y.den E)
 | .bits op k x y=>Go.bits op k (x.den E) (y.den E)
 | .shl k x y=>k.wrap (x.den E*2^min (y.den E).toNat k.bits)
 | .shr k x y=>(x.den E).fdiv (2^min (y.den E).toNat k.bits)
 | .rd a o=>a.den E (o.den E).toNat
 | .mn x y=>imn (x.den E) (y.den E)
 | .mx x y=>imx (x.den E) (y.den E)
 | .ni x y=>ini (x.den E) (y.den E)
 | .ite b x y=>if b.den E then x.den E else y.den E
 | .ap f l=>E.fn.f f (l.den E)
def SB.den (E:Env):SB→Bool
 | .c b=>b
 | .v i=>E.b i
 | .lt x y=>decide (x.den E<y.den E)
 | .le x y=>decide (x.den E≤y.den E)
 | .eq x y=>x.den E==y.den E
 | .not x=>!x.den E
 | .beq x y=>x.den E==y.den E
 | .and x y=>x.den E&&y.den E
 | .ap f l=>E.fn.g f (l.den E)
def AE.den (E:Env):AE→Nat→Int
 | .v i,j=>E.a i j
 | .ap f l,j=>E.fn.a f (l.den E) j
 | .tl a n l,j=>if j<(n.den E).toNat then a.den E j else l.nth E (j - (n.den E).toNat)
 | .ct a n b,j=>if j<(n.den E).toNat then a.den E j else b.den E (j - (n.den E).toNat)
 | .up a i x,j=>if j=(i.den E).toNat then x.den E else a.den E j
 | .dr a n,j=>a.den E (j+(n.den E).toNat)
def SL.den (E:Env):SL→List Arg
 | .nil=>[]
 | .i x r=> .i (x.den E)::r.den E
 | .b x r=> .i (b2i (x.den E))::r.den E
 | .a x r=> .a (x.den E)::r.den E
def SL.nth (E:Env):SL→Nat→Int
 | .nil,_=>0
 | .i x r,j=>if j=0 then x.den E else r.nth E (j - 1)
 | .b x r,j=>if j=0 then b2i (x.den E) else r.nth E (j - 1)
 | .a _ r,j=>if j=0 then 0 else r.nth E (j - 1)
end
def SE.isC:SE→Option Int
 | .c n=>some n
 |_=>none
def SE.mkAdd (x y:SE):SE:=
 match x,y with
 | .c a,.c b=> .c (a+b)
 |x,.c b=>if b=0 then x else .add x (.c b)
 | .c a,y=>if a=0 then y else .add (.c a) y
 |x,y=> .add x y
def SE.mkSub (x y:SE):SE:=
 match x,y with
 | .c a,.c b=> .c (a - b)
 |x,.c b=>if b=0 then x else .sub x (.c b)
 |x,y=>if x=y then .c 0 else .sub x y
def SE.mkMul (x y:SE):SE:=
 match x,y with
 | .c a,.c b=> .c (a*b)
 |x,.c b=>if b=1 then x else .mul x (.c b)
 | .c a,y=>if a=1 then y else .mul (.c a) y
 |x,y=> .mul x y
def SE.mkWrap (k:IntKind) (x:SE):SE:=
 match x with
 | .c a=> .c (k.wrap a)
 | .wrap j y=>if j=k then .wrap k y else .wrap k (.wrap j y)
 |x=> .wrap k x
def SE.mkNi (x y:SE):SE:=
 match x,y with
 | .c a,.c b=> .c (ini a b)
 |x,y=> .ni x y
theorem wrap_wrap (k:IntKind) (n:Int):k.wrap (k.wrap n)=k.wrap n:=by
 cases k<;>simp [IntKind.wrap,IntKind.bits,IntKind.signed]<;>(repeat' split)<;>omega
def SE.mkTdiv (x y:SE):SE:=
 match x,y with
 | .c a,.c b=> .c (a.tdiv b)
 |x,y=> .tdiv x y
def SE.mkTmod (x y:SE):SE:=
 match x,y with
 | .c a,.c b=> .c (a.tmod b)
 |x,y=> .tmod x y
def SE.mkBits (op:BinOp) (k:IntKind) (x y:SE):SE:=
 match x,y with
 | .c a,.c b=> .c (Go.bits op k a b)
 |x,y=> .bits op k x y
def SE.mkShl (k:IntKind) (x y:SE):SE:=
 match x,y with
 | .c a,.c b=> .c (k.wrap (a*2^min b.toNat k.bits))
 |x,y=> .shl k x y
def SE.mkShr (k:IntKind) (x y:SE):SE:=
 match x,y with
 | .c a,.c b=> .c (a.fdiv (2^min b.toNat k.bits))
 |x,y=> .shr k x y
def SE.mkMn (x y:SE):SE:=
 match x,y with
 | .c a,.c b=> .c (imn a b)
 |x,y=> .mn x y
def SE.mkMx (x y:SE):SE:=
 match x,y with
 | .c a,.c b=> .c (imx a b)
 |x,y=> .mx x y
def SB.mkLt (x y:SE):SB:=
 match x,y with
 | .c a,.c b=> .c (decide (a<b))
 |x,y=> .lt x y
def SB.mkLe (x y:SE):SB:=
 match x,y with
 | .c a,.c b=> .c (decide (a≤b))
 |x,y=> .le x y
def SB.mkEq (x y:SE):SB:=
 match x,y with
 | .c a,.c b=> .c (decide (a=b))
 |x,y=>if x=y then .c true else .eq x y
def SB.mkNot (x:SB):SB:=
 match x with
 | .c b=> .c (!b)
 | .not x=>x
 |x=> .not x
def SB.mkBeq (x y:SB):SB:=
 match x,y with
 | .c a,.c b=> .c (a==b)
 |x,.c b=>if b then x else SB.mkNot x
 | .c a,y=>if a then y else SB.mkNot y
 |x,y=> .beq x y
variable {E:Env}
theorem SE.den_mkAdd (x y:SE):(SE.mkAdd x y).den E=x.den E+y.den E:=by
 unfold SE.mkAdd;split<;>(try split)<;>simp_all [SE.den]
theorem SE.den_mkSub (x y:SE):(SE.mkSub x y).den E=x.den E - y.den E:=by
 unfold SE.mkSub;split<;>(try split)<;>simp_all [SE.den]
theorem SE.den_mkMul (x y:SE):(SE.mkMul x y).den E=x.den E*y.den E:=by
 unfold SE.mkMul;split<;>(try split)<;>simp_all [SE.den]
theorem SE.den_mkWrap (k:IntKind) (x:SE):(SE.mkWrap k x).den E=k.wrap (x.den E):=by
 unfold SE.mkWrap
 split
 ·rfl
 ·split
  ·rename_i h;subst h;simp only [SE.den,wrap_wrap]
  ·rfl
 ·rfl
theorem SE.den_mkNi (x y:SE):(SE.mkNi x y).den E=ini (x.den E) (y.den E):=by
 unfold SE.mkNi;split<;>simp only [SE.den]<;>rfl
theorem SE.den_mkTdiv (x y:SE):(SE.mkTdiv x y).den E=(x.den E).tdiv (y.den E):=by
 unfold SE.mkTdiv;split<;>simp [SE.den]
theorem SE.den_mkTmod (x y:SE):(SE.mkTmod x y).den E=(x.den E).tmod (y.den E):=by
 unfold SE.mkTmod;split<;>simp [SE.den]
theorem SE.den_mkBits (op:BinOp) (k:IntKind) (x y:SE):(SE.mkBits op k x y).den E=Go.bits op k (x.den E) (y.den E):=by
 unfold SE.mkBits;split<;>simp [SE.den]
theorem SE.den_mkShl (k:IntKind) (x y:SE):(SE.mkShl k x y).den E=k.wrap (x.den E*2^min (y.den E).toNat k.bits):=by
 unfold SE.mkShl;split<;>simp [SE.den]
theorem SE.den_mkShr (k:IntKind) (x y:SE):(SE.mkShr k x y).den E=(x.den E).fdiv (2^min (y.den E).toNat k.bits):=by
 unfold SE.mkShr;split<;>simp [SE.den]
theorem SE.den_mkMn (x y:SE):(SE.mkMn x y).den E=imn (x.den E) (y.den E):=by
 unfold SE.mkMn;split<;>simp only [SE.den]<;>rfl
theorem SE.den_mkMx (x y:SE):(SE.mkMx x y).den E=imx (x.den E) (y.den E):=by
 unfold SE.mkMx;split<;>simp only [SE.den]<;>rfl
theorem SB.den_mkLt (x y:SE):(SB.mkLt x y).den E=decide (x.den E<y.den E):=by
 unfold SB.mkLt;split<;>simp only [SE.den,SB.den]<;>rfl
theorem SB.den_mkLe (x y:SE):(SB.mkLe x y).den E=decide (x.den E≤y.den E):=by
 unfold SB.mkLe;split<;>simp only [SE.den,SB.den]<;>rfl
theorem SB.den_mkEq (x y:SE):(SB.mkEq x y).den E=(x.den E==y.den E):=by
 unfold SB.mkEq;split
 ·simp [SE.den,SB.den];rfl
 ·split
  ·rename_i h;subst h;simp [SB.den]
  ·rfl
theorem SB.den_mkNot (x:SB):(SB.mkNot x).den E=!x.den E:=by
 unfold SB.mkNot;split<;>simp [SB.den]
theorem SB.den_mkBeq (x y:SB):(SB.mkBeq x y).den E=(x.den E==y.den E):=by
 unfold SB.mkBeq
 split
 ·simp [SB.den]
 ·split<;>simp_all [SB.den,SB.den_mkNot]
 ·split<;>simp_all [SB.den,SB.den_mkNot]<;>exact Bool.beq_comm
 ·simp [SB.den]
structure Off where
 row:SE
 stride:Nat
 col:Nat
 deriving DecidableEq
def Off.den (E:Env) (o:Off):Nat:=(o.row.den E).toNat*o.stride+o.col
def Off.z:Off:=⟨.c 0,0,0⟩
inductive SV where
 |int (k:IntKind) (e:SE)
 |bool (b:SB)
 |flt (k:FloatKind) (bits:Nat)
 |str (l:List UInt8)
 |nilptr
 |ptr (b:Nat) (o:Off)
 |nilslice
 |slice (b:Nat) (o:Off) (len cap:SE)
 |nilmap
 |map (b:Nat)
 |nilfunc
 |func (fn:Fn) (first captured:List SV)
 |nilif
 |ifc (t:TypeId) (v:SV)
 |agg (l:List SV)
 |tup (l:List SV)
 |opq (i:Nat)
 |own (b:Nat)
 |fx (k:FloatKind) (e:SE) (j:Nat)
 |fw (k:FloatKind) (e:SE)
 |pa (e o:SE)
 |sa (e o l c:SE)
 |q (b:Nat) (ix:SE)
mutual
def SV.den (E:Env) (β:Nat→Bk):SV→Value
 | .int k e=> .int k (e.den E)
 | .bool b=> .bool (b.den E)
 | .flt k n=> .float k n
 | .str l=> .string ⟨l.toArray⟩
 | .nilptr=> .pointer none
 | .ptr b o=> .pointer (some ⟨(β b).a,(β b).o+o.den E,none⟩)
 | .nilslice=> .slice none 0 0
 | .slice b o len cap=> .slice (some ⟨(β b).a,(β b).o+o.den E,none⟩) (len.den E).toNat (cap.den E).toNat
 | .nilmap=> .map none
 | .map b=> .map (some (β b).a)
 | .nilfunc=> .nilFunc
 | .func fn first captured=> .func fn (SV.denL E β first).toArray (SV.denL E β captured).toArray
 | .nilif=> .nilIface
 | .ifc t v=> .iface t (v.den E β)
 | .agg l=> .agg (SV.denL E β l).toArray
 | .tup l=> .tuple (SV.denL E β l).toArray
 | .opq i=>E.o i
 | .own b=>(β b).v
 | .fx k e j=> .float k (k.format.nearest false (e.den E).toNat (-(j:Int)))
 | .fw k e=> .float k (e.den E).toNat
 | .pa e o=>if 0≤e.den E then .pointer (some ⟨(e.den E).toNat,(o.den E).toNat,none⟩) else .pointer none
 | .sa e o l c=>if 0≤e.den E then .slice (some ⟨(e.den E).toNat,(o.den E).toNat,none⟩) (l.den E).toNat (c.den E).toNat else .slice none 0 0
 | .q b ix=>(β b).q (ix.den E).toNat
def SV.denL (E:Env) (β:Nat→Bk):List SV→List Value
 |[]=>[]
 |v::r=>v.den E β::SV.denL E β r
end
theorem SV.denL_map (β:Nat→Bk) (l:List SV):SV.denL E β l=l.map (SV.den E β):=by
 induction l with
 |nil=>rfl
 |cons v r ih=>simp [SV.denL,ih]
mutual
def SE.vb (n:Nat):SE→Bool
 | .c _=>true
 | .v i=>decide (i<n)
 | .add x y| .sub x y| .mul x y| .tdiv x y| .tmod x y| .mn x y| .mx x y| .ni x y=>x.vb n&&y.vb n
 | .wrap _ x=>x.vb n
 | .bits _ _ x y| .shl _ x y| .shr _ x y=>x.vb n&&y.vb n
 | .rd a o=>a.vb n&&o.vb n
 | .ite b x y=>b.vb n&&(x.vb n&&y.vb n)
 | .ap _ l=>l.vb n
def SB.vb (n:Nat):SB→Bool
 | .c _=>true
 | .v i=>decide (i<n)
 | .lt x y| .le x y| .eq x y=>x.vb n&&y.vb n
 | .not x=>x.vb n
 | .beq x y| .and x y=>x.vb n&&y.vb n
 | .ap _ l=>l.vb n
def AE.vb (n:Nat):AE→Bool
 | .v i=>decide (i<n)
 | .ap _ l=>l.vb n
 | .tl a m l=>a.vb n&&(m.vb n&&l.vb n)
 | .ct a m b=>a.vb n&&(m.vb n&&b.vb n)
 | .up a i x=>a.vb n&&(i.vb n&&x.vb n)
 | .dr a m=>a.vb n&&m.vb n
def SL.vb (n:Nat):SL→Bool
 | .nil=>true
 | .i x r=>x.vb n&&r.vb n
 | .b x r=>x.vb n&&r.vb n
 | .a x r=>x.vb n&&r.vb n
end
structure AgE (n:Nat) (E E':Env):Prop where
 i: ∀j,j<n→E'.i j=E.i j
 b: ∀j,j<n→E'.b j=E.b j
 a: ∀j,j<n→E'.a j=E.a j
 o:E'.o=E.o
 fn:E'.fn=E.fn
theorem AgE.refl (n:Nat) (E:Env):AgE n E E:=⟨fun _ _=>rfl,fun _ _=>rfl,fun _ _=>rfl,rfl,rfl⟩
theorem AgE.trans {m n:Nat} {E1 E2 E3:Env} (h:m≤n) (x:AgE m E1 E2) (y:AgE n E2 E3):AgE m E1 E3:=
 ⟨fun j hj=>(y.i j (by omega)).trans (x.i j hj),fun j hj=>(y.b j (by omega)).trans (x.b j hj),fun j hj=>(y.a j (by omega)).trans (x.a j hj),y.o.trans x.o,y.fn.trans x.fn⟩
section
variable {n:Nat} {E':Env}
mutual
theorem SE.den_ag (H:AgE n E E'): ∀(x:SE),x.vb n=true→x.den E'=x.den E
 | .c n,_=>rfl
 | .v i,h=>by simp only [SE.vb,decide_eq_true_eq] at h;exact H.i i h
 | .add x y,h| .sub x y,h| .mul x y,h| .tdiv x y,h| .tmod x y,h| .mn x y,h| .mx x y,h| .ni x y,h| .bits _ _ x y,h| .shl _ x y,h| .shr _ x y,h=>by
   simp only [SE.vb,Bool.and_eq_true] at h;simp only [SE.den,SE.den_ag H x h.1,SE.den_ag H y h.2]
 | .wrap _ x,h=>by simp only [SE.vb] at h;simp only [SE.den,SE.den_ag H x h]
 | .rd a o,h=>by simp only [SE.vb,Bool.and_eq_true] at h;simp only [SE.den,AE.den_ag H a h.1,SE.den_ag H o h.2]
 | .ite b x y,h=>by simp only [SE.vb,Bool.and_eq_true] at h;simp only [SE.den,SB.den_ag H b h.1,SE.den_ag H x h.2.1,SE.den_ag H y h.2.2]
 | .ap _ l,h=>by simp only [SE.vb] at h;simp only [SE.den,SL.den_ag H l h,H.fn]
theorem SB.den_ag (H:AgE n E E'): ∀(x:SB),x.vb n=true→x.den E'=x.den E
 | .c b,_=>rfl
 | .v i,h=>by simp only [SB.vb,decide_eq_true_eq] at h;exact H.b i h
 | .lt x y,h| .le x y,h| .eq x y,h=>by simp only [SB.vb,Bool.and_eq_true] at h;simp only [SB.den,SE.den_ag H x h.1,SE.den_ag H y h.2]
 | .not x,h=>by simp only [SB.vb] at h;simp only [SB.den,SB.den_ag H x h]
 | .beq x y,h| .and x y,h=>by simp only [SB.vb,Bool.and_eq_true] at h;simp only [SB.den,SB.den_ag H x h.1,SB.den_ag H y h.2]
 | .ap _ l,h=>by simp only [SB.vb] at h;simp only [SB.den,SL.den_ag H l h,H.fn]
theorem AE.den_ag (H:AgE n E E'): ∀(x:AE),x.vb n=true→x.den E'=x.den E
 | .v i,h=>by simp only [AE.vb,decide_eq_true_eq] at h;funext j;simp only [AE.den,H.a i h]
 | .ap _ l,h=>by simp only [AE.vb] at h;funext j;simp only [AE.den,SL.den_ag H l h,H.fn]
 | .tl a m l,h=>by simp only [AE.vb,Bool.and_eq_true] at h;funext j;simp only [AE.den,AE.den_ag H a h.1,SE.den_ag H m h.2.1,SL.nth_ag H l h.2.2]
 | .ct a m b,h=>by simp only [AE.vb,Bool.and_eq_true] at h;funext j;simp only [AE.den,AE.den_ag H a h.1,SE.den_ag H m h.2.1,AE.den_ag H b h.2.2]
 | .up a i x,h=>by simp only [AE.vb,Bool.and_eq_true] at h;funext j;simp only [AE.den,AE.den_ag H a h.1,SE.den_ag H i h.2.1,SE.den_ag H x h.2.2]
 | .dr a m,h=>by simp only [AE.vb,Bool.and_eq_true] at h;funext j;simp only [AE.den,AE.den_ag H a h.1,SE.den_ag H m h.2]
theorem SL.den_ag (H:AgE n E E'): ∀(x:SL),x.vb n=true→x.den E'=x.den E
 | .nil,_=>rfl
 | .i x r,h=>by simp only [SL.vb,Bool.and_eq_true] at h;simp only [SL.den,SE.den_ag H x h.1,SL.den_ag H r h.2]
 | .b x r,h=>by simp only [SL.vb,Bool.and_eq_true] at h;simp only [SL.den,SB.den_ag H x h.1,SL.den_ag H r h.2]
 | .a x r,h=>by simp only [SL.vb,Bool.and_eq_true] at h;simp only [SL.den,AE.den_ag H x h.1,SL.den_ag H r h.2]
theorem SL.nth_ag (H:AgE n E E'): ∀(x:SL),x.vb n=true→ ∀j,x.nth E' j=x.nth E j
 | .nil,_,_=>rfl
 | .i x r,h,j=>by simp only [SL.vb,Bool.and_eq_true] at h;simp only [SL.nth,SE.den_ag H x h.1,SL.nth_ag H r h.2]
 | .b x r,h,j=>by simp only [SL.vb,Bool.and_eq_true] at h;simp only [SL.nth,SB.den_ag H x h.1,SL.nth_ag H r h.2]
 | .a x r,h,j=>by simp only [SL.vb,Bool.and_eq_true] at h;simp only [SL.nth,SL.nth_ag H r h.2]
end
end
mutual
def SV.vb (n:Nat):SV→Bool
 | .int _ e=>e.vb n
 | .bool b=>b.vb n
 | .ptr _ o=>o.row.vb n
 | .slice _ o l c=>o.row.vb n&&(l.vb n&&c.vb n)
 | .func _ f c=>SV.vbL n f&&SV.vbL n c
 | .ifc _ v=>v.vb n
 | .agg l=>SV.vbL n l
 | .tup l=>SV.vbL n l
 | .fx _ e _=>e.vb n
 | .fw _ e=>e.vb n
 | .pa e o=>e.vb n&&o.vb n
 | .sa e o l c=>(e.vb n&&o.vb n)&&(l.vb n&&c.vb n)
 | .q _ ix=>ix.vb n
 |_=>true
def SV.vbL (n:Nat):List SV→Bool
 |[]=>true
 |v::r=>v.vb n&&SV.vbL n r
end
section
variable {n:Nat} {E':Env}
mutual
theorem SV.den_ag (H:AgE n E E') (β:Nat→Bk): ∀(v:SV),v.vb n=true→v.den E' β=v.den E β
 | .flt ..,_| .str _,_| .nilptr,_| .nilslice,_| .nilmap,_| .map _,_| .nilfunc,_| .nilif,_| .own _,_=>by simp [SV.den]
 | .opq _,_=>by simp [SV.den,H.o]
 | .pa e o,h=>by simp only [SV.vb,Bool.and_eq_true] at h;simp only [SV.den,SE.den_ag H e h.1,SE.den_ag H o h.2]
 | .int _ e,h| .fx _ e _,h| .fw _ e,h| .q _ e,h=>by simp only [SV.vb] at h;simp only [SV.den,SE.den_ag H e h]
 | .bool b,h=>by simp only [SV.vb] at h;simp only [SV.den,SB.den_ag H b h]
 | .ptr _ o,h=>by simp only [SV.vb] at h;simp only [SV.den,Off.den,SE.den_ag H o.row h]
 | .slice _ o l c,h=>by simp only [SV.vb,Bool.and_eq_true] at h;simp only [SV.den,Off.den,SE.den_ag H o.row h.1,SE.den_ag H l h.2.1,SE.den_ag H c h.2.2]
 | .sa e o l c,h=>by simp only [SV.vb,Bool.and_eq_true] at h;simp only [SV.den,SE.den_ag H e h.1.1,SE.den_ag H o h.1.2,SE.den_ag H l h.2.1,SE.den_ag H c h.2.2]
 | .func _ f c,h=>by simp only [SV.vb,Bool.and_eq_true] at h;simp only [SV.den,SV.denL_ag H β f h.1,SV.denL_ag H β c h.2]
 | .ifc _ v,h=>by simp only [SV.vb] at h;simp only [SV.den,SV.den_ag H β v h]
 | .agg l,h=>by simp only [SV.vb] at h;simp only [SV.den,SV.denL_ag H β l h]
 | .tup l,h=>by simp only [SV.vb] at h;simp only [SV.den,SV.denL_ag H β l h]
theorem SV.denL_ag (H:AgE n E E') (β:Nat→Bk): ∀(l:List SV),SV.vbL n l=true→SV.denL E' β l=SV.denL E β l
 |[],_=>rfl
 |v::r,h=>by simp only [SV.vbL,Bool.and_eq_true] at h;simp only [SV.denL,SV.den_ag H β v h.1,SV.denL_ag H β r h.2]
end
end
mutual
def SV.bnd (n:Nat):SV→Bool
 | .ptr b _=>decide (b<n)
 | .slice b _ _ _=>decide (b<n)
 | .map b=>decide (b<n)
 | .own b=>decide (b<n)
 | .q b _=>decide (b<n)
 | .func _ f c=>SV.bndL n f&&SV.bndL n c
 | .ifc _ v=>v.bnd n
 | .agg l=>SV.bndL n l
 | .tup l=>SV.bndL n l
 |_=>true
def SV.bndL (n:Nat):List SV→Bool
 |[]=>true
 |v::r=>v.bnd n&&SV.bndL n r
end
mutual
theorem SV.den_agree {β β':Nat→Bk} {n:Nat} (h: ∀i,i<n→β' i=β i): ∀(v:SV),v.bnd n=true→v.den E β'=v.den E β
 | .int ..,_| .bool _,_| .flt ..,_| .str _,_| .nilptr,_| .nilslice,_| .nilmap,_| .nilfunc,_| .nilif,_| .opq _,_| .fx ..,_| .fw ..,_| .pa ..,_| .sa ..,_=>by simp [SV.den]
 | .ptr b o,hb=>by simp only [SV.bnd,decide_eq_true_eq] at hb;simp [SV.den,h b hb]
 | .slice b o l c,hb=>by simp only [SV.bnd,decide_eq_true_eq] at hb;simp [SV.den,h b hb]
 | .map b,hb=>by simp only [SV.bnd,decide_eq_true_eq] at hb;simp [SV.den,h b hb]
 | .own b,hb=>by simp only [SV.bnd,decide_eq_true_eq] at hb;simp [SV.den,h b hb]
 | .q b _,hb=>by simp only [SV.bnd,decide_eq_true_eq] at hb;simp [SV.den,h b hb]
 | .func fn f c,hb=>by
   simp only [SV.bnd,Bool.and_eq_true] at hb
   simp only [SV.den,SV.denL_agree h f hb.1,SV.denL_agree h c hb.2]
 | .ifc t v,hb=>by simp only [SV.bnd] at hb;simp only [SV.den,SV.den_agree h v hb]
 | .agg l,hb=>by simp only [SV.bnd] at hb;simp only [SV.den,SV.denL_agree h l hb]
 | .tup l,hb=>by simp only [SV.bnd] at hb;simp only [SV.den,SV.denL_agree h l hb]
theorem SV.denL_agree {β β':Nat→Bk} {n:Nat} (h: ∀i,i<n→β' i=β i): ∀(l:List SV),SV.bndL n l=true→SV.denL E β' l=SV.denL E β l
 |[],_=>by simp [SV.denL]
 |v::r,hb=>by
  simp only [SV.bndL,Bool.and_eq_true] at hb
  simp only [SV.denL,SV.den_agree h v hb.1,SV.denL_agree h r hb.2]
end
inductive SK where
 |int (k:IntKind)
 |bool
 |opq
 deriving DecidableEq,Inhabited
def SK.val:SK→Int→Value→Value
 | .int k,n,_=> .int k n
 | .bool,n,_=> .bool (n !=0)
 | .opq,_,v=>v
inductive SBlk where
 |cells (l:List SV) (T:TypeId)
 |arr (a:AE) (ks:List SK) (rows:SE)
 |any
 |row (a:AE) (ks:List SK) (rows:SE) (tail:List SV) (T:TypeId)
 |dead
 |pr (k:Nat) (l:SL)
def rowCells (E:Env) (β:Nat→Bk) (q:Nat→Value) (a:AE) (ks:List SK) (n:Nat) (tail:List SV):List Value:=
 (List.range (n*ks.length)).map (fun j=>(ks.getD (j % ks.length) default).val (a.den E j) (q j))++SV.denL E β tail
def SBlk.ok (E:Env) (β:Nat→Bk) (bk:Bk) (w:World):SBlk→Prop
 | .cells l T=>bk.o=0∧w.heap[bk.a]?=some (.cells (SV.denL E β l).toArray T (0,0))
 | .arr a ks n=> ∃cs T fz,w.heap[bk.a]?=some (.cells cs T fz)∧ ∀j,j<(n.den E).toNat*ks.length→cs[bk.o+j]?=some ((ks.getD (j % ks.length) default).val (a.den E j) (bk.q j))
 | .any=>True
 | .row a ks n tail T=>bk.o=0∧ ∃m,tail.length=m*ks.length∧w.ownsRow 0 T ks.length bk.v ((n.den E).toNat+m) (rowCells E β bk.q a ks (n.den E).toNat tail)
 | .dead=>True
 | .pr k l=>E.fn.p k (l.den E) bk.a bk.v w
def SBlk.bnd (n:Nat):SBlk→Bool
 | .cells l _=>SV.bndL n l
 | .row _ _ _ l _=>SV.bndL n l
 |_=>true
def SBlk.real (bk:Bk):SBlk→Prop
 | .row .. =>bk.z=false
 | .dead=>False
 |_=>True
def SBlk.wr (bk:Bk):SBlk→Prop
 | .row .. =>bk.z=false
 | .cells .. =>True
 | .pr .. =>True
 |_=>False
theorem SBlk.wr_real {s:SBlk} {bk:Bk} (h:s.wr bk):s.real bk:=by cases s<;>simp_all [SBlk.wr,SBlk.real]
def SBlk.at (E:Env) (bk:Bk) (x:Nat):SBlk→Prop
 | .pr k l=>E.fn.ft k (l.den E) bk.a bk.v x
 |s=>s.real bk∧x=bk.a
theorem SBlk.at_real {s:SBlk} {bk:Bk} {x:Nat} (h:s.at E bk x):s.real bk:=by cases s<;>simp_all [SBlk.at,SBlk.real]
def SBlk.isPr:SBlk→Bool
 | .pr .. =>true
 |_=>false
theorem SBlk.at_of {s:SBlk} {bk:Bk} (h:s.real bk) (hp:s.isPr=false):s.at E bk bk.a:=by cases s<;>simp_all [SBlk.at,SBlk.isPr]
theorem SBlk.at_eq {s:SBlk} {bk:Bk} {x:Nat} (h:s.at E bk x) (hp:s.isPr=false):x=bk.a:=by cases s<;>simp_all [SBlk.at,SBlk.isPr]
theorem SBlk.ok_agree {β β':Nat→Bk} {n:Nat} (h: ∀i,i<n→β' i=β i) (s:SBlk) (hb:s.bnd n=true) (bk:Bk) (w:World):s.ok E β' bk w↔s.ok E β bk w:=by
 cases s with
 |cells l T=>simp only [SBlk.bnd] at hb;simp only [SBlk.ok,SV.denL_agree h l hb]
 |arr a ks n=>simp only [SBlk.ok]
 |any=>simp only [SBlk.ok]
 |row a ks n l T=>simp only [SBlk.bnd] at hb;simp only [SBlk.ok,rowCells,SV.denL_agree h l hb]
 |dead=>simp only [SBlk.ok]
 |pr k l=>simp only [SBlk.ok]
def SBlk.vb (n:Nat):SBlk→Bool
 | .cells l _=>SV.vbL n l
 | .arr a _ m=>a.vb n&&m.vb n
 | .row a _ m l _=>(a.vb n&&m.vb n)&&SV.vbL n l
 | .pr _ l=>l.vb n
 |_=>true
theorem SBlk.ok_ag {E':Env} {n:Nat} (H:AgE n E E') {β:Nat→Bk} (s:SBlk) (hs:s.vb n=true) (bk:Bk) (w:World):s.ok E' β bk w↔s.ok E β bk w:=by
 cases s with
 |cells l T=>simp only [SBlk.vb] at hs;simp only [SBlk.ok,SV.denL_ag H β l hs]
 |arr a ks m=>simp only [SBlk.vb,Bool.and_eq_true] at hs;simp only [SBlk.ok,AE.den_ag H a hs.1,SE.den_ag H m hs.2]
 |any=>simp only [SBlk.ok]
 |row a ks m l T=>simp only [SBlk.vb,Bool.and_eq_true] at hs;simp only [SBlk.ok,rowCells,SV.denL_ag H β l hs.2,AE.den_ag H a hs.1.1,SE.den_ag H m hs.1.2]
 |dead=>simp only [SBlk.ok]
 |pr k l=>simp only [SBlk.vb] at hs;simp only [SBlk.ok,SL.den_ag H l hs,H.fn]
theorem SBlk.at_ag {E':Env} {n:Nat} (H:AgE n E E') (s:SBlk) (hs:s.vb n=true) (bk:Bk) (x:Nat):s.at E' bk x↔s.at E bk x:=by
 cases s with
 |pr k l=>simp only [SBlk.vb] at hs;simp only [SBlk.at,SL.den_ag H l hs,H.fn]
 |_=>simp only [SBlk.at]
theorem ownsRow_frame {w w':World} {base:Nat} {e:TypeId} {size:Nat} {v:Value} {n:Nat} {xs:List Value} (h:w.ownsRow base e size v n xs) (hb: ∀g,v.ownBlock=some g→w'.heap[g]?=w.heap[g]?):w'.ownsRow base e size v n xs:=by
 refine ⟨h.1,?_⟩
 rcases h.2 with hn|⟨g,cap,cur,rfl,h1,h2,h3⟩
 ·exact .inl hn
 ·exact .inr ⟨g,cap,cur,rfl,h1,by rw [hb g rfl];exact h2,h3⟩
theorem SBlk.ok_frame {β:Nat→Bk} {bk:Bk} {w w':World} {s:SBlk} (hs: ∀x,s.at E bk x→w'.heap[x]?=w.heap[x]?) (h:s.ok E β bk w):s.ok E β bk w':=by
 cases s with
 |cells l T=>simp only [SBlk.ok] at h⊢;exact ⟨h.1,by rw [hs _ ⟨trivial,rfl⟩];exact h.2⟩
 |arr a ks n=>simp only [SBlk.ok] at h⊢;rw [hs _ ⟨trivial,rfl⟩];exact h
 |pr k l=>simp only [SBlk.ok] at h⊢;exact E.fn.pf _ _ _ _ _ _ h fun x hx=>hs x hx
 |any=>trivial
 |row a ks n l T=>
  obtain ⟨h0,m,h1,h2⟩:=h
  refine ⟨h0,m,h1,ownsRow_frame h2 fun g hg=>?_⟩
  unfold Bk.v at hg
  cases hz:bk.z with
  |true=>rw [hz] at hg;cases hg
  |false=>
   rw [hz] at hg
   simp [Value.ownBlock] at hg
   subst hg
   exact hs _ ⟨hz,rfl⟩
 |dead=>trivial
structure HOk (E:Env) (β:Nat→Bk) (h:List SBlk) (w:World):Prop where
 dis: ∀(i j:Nat) (s t:SBlk) (x:Nat),h[i]?=some s→h[j]?=some t→s.at E (β i) x→t.at E (β j) x→i=j
 lt: ∀(i:Nat) (s:SBlk) (x:Nat),h[i]?=some s→s.at E (β i) x→x<w.heap.size
 ok: ∀(i:Nat) (s:SBlk),h[i]?=some s→SBlk.ok E β (β i) w s
theorem HOk.inj {β:Nat→Bk} {h:List SBlk} {w:World} (hw:HOk E β h w) {i j:Nat} {s t:SBlk} (hi:h[i]?=some s) (hj:h[j]?=some t) (hri:s.real (β i)) (hrj:t.real (β j)) (hps:s.isPr=false) (hpt:t.isPr=false) (he:(β i).a=(β j).a):i=j:=
 hw.dis i j s t (β i).a hi hj (SBlk.at_of hri hps) (by rw [he];exact SBlk.at_of hrj hpt)
theorem HOk.lta {β:Nat→Bk} {h:List SBlk} {w:World} (hw:HOk E β h w) {i:Nat} {s:SBlk} (hi:h[i]?=some s) (hr:s.real (β i)) (hp:s.isPr=false):(β i).a<w.heap.size:=
 hw.lt i s _ hi (SBlk.at_of hr hp)
def Facts (E:Env) (F:List (SB×Bool)):Prop:= ∀p∈F,p.1.den E=p.2
def look (b:SB):List (SB×Bool)→Option Bool
 |[]=>none
 |(c,t)::r=>if c=b then some t else look b r
theorem look_ok {b:SB} {t:Bool}: ∀{F:List (SB×Bool)},Facts E F→look b F=some t→b.den E=t
 |[],_,h=>by simp [look] at h
 |(c,u)::r,hF,h=>by
  simp only [look] at h
  split at h
  ·rename_i hc;subst hc;simp at h;subst h;exact hF (c,u) (by simp)
  ·exact look_ok (fun p hp=>hF p (by simp [hp])) h
def omx (a b:Option Int):Option Int:=match a,b with
 |some x,some y=>some (if x<y then y else x)
 |some x,none=>some x
 |none,y=>y
def omn (a b:Option Int):Option Int:=match a,b with
 |some x,some y=>some (if y<x then y else x)
 |some x,none=>some x
 |none,y=>y
def oadd (a b:Option Int):Option Int:=match a,b with
 |some x,some y=>some (x+y)
 |_,_=>none
def oneg (a:Option Int):Option Int:=a.map (fun x=> -x)
def omulc (n:Int) (a:Option Int):Option Int:=a.map (·*n)
def fR (p:SE→Bool):List (SB×Bool)→Option Int×Option Int
 |[]=>(none,none)
 |(b,t)::r=>
  match b,t with
  | .le (.c n) y,true=>if p y then (omx (some n) (fR p r).1,(fR p r).2) else fR p r
  | .le y (.c n),true=>if p y then ((fR p r).1,omn (some n) (fR p r).2) else fR p r
  | .lt (.c n) y,true=>if p y then (omx (some (n+1)) (fR p r).1,(fR p r).2) else fR p r
  | .lt y (.c n),true=>if p y then ((fR p r).1,omn (some (n - 1)) (fR p r).2) else fR p r
  | .lt y (.c n),false=>if p y then (omx (some n) (fR p r).1,(fR p r).2) else fR p r
  | .lt (.c n) y,false=>if p y then ((fR p r).1,omn (some n) (fR p r).2) else fR p r
  | .le y (.c n),false=>if p y then (omx (some (n+1)) (fR p r).1,(fR p r).2) else fR p r
  | .le (.c n) y,false=>if p y then ((fR p r).1,omn (some (n - 1)) (fR p r).2) else fR p r
  | .eq y (.c n),true=>if p y then (omx (some n) (fR p r).1,omn (some n) (fR p r).2) else fR p r
  |_,_=>fR p r
def isV (i:Nat) (y:SE):Bool:=match y with| .v j=>Nat.beq j i|_=>false
def isE (x y:SE):Bool:=decide (y=x)
def isLo (a:Option Int) (n:Int):Prop:= ∀x,a=some x→x≤n
def isHi (a:Option Int) (n:Int):Prop:= ∀x,a=some x→n≤x
theorem isLo_omx {a b:Option Int} {n:Int} (h:isLo a n) (k:isLo b n):isLo (omx a b) n:=by
 intro x hx;unfold omx at hx;split at hx
 ·cases hx;have:=h _ rfl;have:=k _ rfl;split<;>assumption
 ·cases hx;exact h _ rfl
 ·exact k _ hx
theorem isHi_omn {a b:Option Int} {n:Int} (h:isHi a n) (k:isHi b n):isHi (omn a b) n:=by
 intro x hx;unfold omn at hx;split at hx
 ·cases hx;have:=h _ rfl;have:=k _ rfl;split<;>assumption
 ·cases hx;exact h _ rfl
 ·exact k _ hx
theorem isLo_none (n:Int):isLo none n:=fun x hx=>by cases hx
theorem isHi_none (n:Int):isHi none n:=fun x hx=>by cases hx
theorem isLo_some {m n:Int} (h:m≤n):isLo (some m) n:=fun x hx=>by cases hx;exact h
theorem isHi_some {m n:Int} (h:n≤m):isHi (some m) n:=fun x hx=>by cases hx;exact h
theorem fR_ok {p:SE→Bool} {z:Int} (hp: ∀y,p y=true→y.den E=z): ∀{F:List (SB×Bool)},Facts E F→isLo (fR p F).1 z∧isHi (fR p F).2 z
 |[],_=>⟨isLo_none _,isHi_none _⟩
 |(b,t)::r,hF=>by
  have ih:=fR_ok hp (F:=r) fun q hq=>hF q (by simp [hq])
  have h:b.den E=t:=hF (b,t) (by simp)
  unfold fR
  split
  all_goals first
   |exact ih
   |(split
     ·rename_i hy
      have hz:=hp _ hy
      simp only [SB.den,decide_eq_true_eq,decide_eq_false_iff_not,beq_iff_eq,hz] at h
      simp only [SE.den] at h
      first
       |exact ⟨isLo_omx (isLo_some (by omega)) ih.1,ih.2⟩
       |exact ⟨ih.1,isHi_omn (isHi_some (by omega)) ih.2⟩
       |exact ⟨isLo_omx (isLo_some (by omega)) ih.1,isHi_omn (isHi_some (by omega)) ih.2⟩
     ·exact ih)
theorem isV_ok {i:Nat} {y:SE} (h:isV i y=true):y.den E=E.i i:=by
 unfold isV at h;split at h
 ·rw [Nat.eq_of_beq_eq_true h];rfl
 ·cases h
theorem isE_ok {x y:SE} (h:isE x y=true):y.den E=x.den E:=by
 unfold isE at h;rw [of_decide_eq_true h]
def fitsR (k:IntKind) (r:Option Int×Option Int):Bool:=
 match r with
 |(some a,some b)=>decide (k.min≤a)&&decide (b≤k.max)
 |_=>false
def nnLo (a:Option Int):Bool:=match a with|some x=>decide (0≤x)|none=>false
def rng0 (F:List (SB×Bool)):SE→Option Int×Option Int
 | .c n=>(some n,some n)
 | .add x y=>let a:=rng0 F x;let b:=rng0 F y;(oadd a.1 b.1,oadd a.2 b.2)
 | .sub x y=>let a:=rng0 F x;let b:=rng0 F y;(oadd a.1 (oneg b.2),oadd a.2 (oneg b.1))
 | .mul x (.c n)=>if 0≤n then let a:=rng0 F x;(omulc n a.1,omulc n a.2) else (none,none)
 | .mul (.c n) y=>if 0≤n then let a:=rng0 F y;(omulc n a.1,omulc n a.2) else (none,none)
 | .mul _ _=>(none,none)
 | .wrap k x=>let a:=rng0 F x;if fitsR k a then a else (some k.min,some k.max)
 | .tdiv x (.c n)=>if 0<n then let a:=rng0 F x;(a.1.map (·.tdiv n),a.2.map (·.tdiv n)) else (none,none)
 | .tmod x (.c n)=>if 0<n then let a:=rng0 F x;if nnLo a.1 then (some 0,omn a.2 (some (n - 1))) else (some (-(n - 1)),some (n - 1)) else (none,none)
 | .mn x y=>let a:=rng0 F x;let b:=rng0 F y;(match a.1,b.1 with|some p,some q=>some (if p<q then p else q)|_,_=>none,omn a.2 b.2)
 | .mx x y=>let a:=rng0 F x;let b:=rng0 F y;(omx a.1 b.1,match a.2,b.2 with|some p,some q=>some (if p<q then q else p)|_,_=>none)
 | .ite _ x y=>let a:=rng0 F x;let b:=rng0 F y;(match a.1,b.1 with|some p,some q=>some (if p<q then p else q)|_,_=>none,match a.2,b.2 with|some p,some q=>some (if p<q then q else p)|_,_=>none)
 | .v i=>fR (isV i) F
 |e=>fR (isE e) F
theorem wrap_range (k:IntKind) (n:Int):k.min≤k.wrap n∧k.wrap n≤k.max:=by
 cases k<;>simp [IntKind.wrap,IntKind.bits,IntKind.signed,IntKind.min,IntKind.max]<;>(repeat' split)<;>omega
theorem wrap_id {k:IntKind} {n:Int} (h:k.min≤n∧n≤k.max):k.wrap n=n:=by
 cases k<;>simp [IntKind.wrap,IntKind.bits,IntKind.signed,IntKind.min,IntKind.max] at h⊢ <;>(repeat' split)<;>omega
theorem isLo_add {a b:Option Int} {m n:Int} (h:isLo a m) (k:isLo b n):isLo (oadd a b) (m+n):=by
 intro x hx;unfold oadd at hx;split at hx
 ·cases hx;have:=h _ rfl;have:=k _ rfl;omega
 ·cases hx
theorem isHi_add {a b:Option Int} {m n:Int} (h:isHi a m) (k:isHi b n):isHi (oadd a b) (m+n):=by
 intro x hx;unfold oadd at hx;split at hx
 ·cases hx;have:=h _ rfl;have:=k _ rfl;omega
 ·cases hx
theorem isLo_neg {a:Option Int} {m:Int} (h:isHi a m):isLo (oneg a) (-m):=by
 intro x hx;cases a with
 |none=>cases hx
 |some y=>simp [oneg] at hx;have:=h y rfl;omega
theorem isHi_neg {a:Option Int} {m:Int} (h:isLo a m):isHi (oneg a) (-m):=by
 intro x hx;cases a with
 |none=>cases hx
 |some y=>simp [oneg] at hx;have:=h y rfl;omega
theorem isLo_mulc {a:Option Int} {m n:Int} (hn:0≤n) (h:isLo a m):isLo (omulc n a) (m*n):=by
 intro x hx;cases a with
 |none=>cases hx
 |some y=>simp [omulc] at hx;subst hx;exact Int.mul_le_mul_of_nonneg_right (h y rfl) hn
theorem isHi_mulc {a:Option Int} {m n:Int} (hn:0≤n) (h:isHi a m):isHi (omulc n a) (m*n):=by
 intro x hx;cases a with
 |none=>cases hx
 |some y=>simp [omulc] at hx;subst hx;exact Int.mul_le_mul_of_nonneg_right (h y rfl) hn
theorem fitsR_ok {k:IntKind} {r:Option Int×Option Int} {n:Int} (h:fitsR k r=true) (h1:isLo r.1 n) (h2:isHi r.2 n):k.min≤n∧n≤k.max:=by
 obtain ⟨a,b⟩:=r
 unfold fitsR at h
 split at h
 ·rename_i x y he
  cases he
  simp only [Bool.and_eq_true,decide_eq_true_eq] at h
  have:=h1 _ rfl;have:=h2 _ rfl;omega
 ·cases h
theorem rng0_ok {F:List (SB×Bool)} (hF:Facts E F): ∀(e:SE),isLo (rng0 F e).1 (e.den E)∧isHi (rng0 F e).2 (e.den E)
 | .c n=>⟨isLo_some (Int.le_refl _),isHi_some (Int.le_refl _)⟩
 | .add x y=>by have ix:=rng0_ok hF x;have iy:=rng0_ok hF y;exact ⟨isLo_add ix.1 iy.1,isHi_add ix.2 iy.2⟩
 | .sub x y=>by
   have ix:=rng0_ok hF x
   have iy:=rng0_ok hF y
   have e:(SE.sub x y).den E=x.den E+ -(y.den E):=by simp only [SE.den];omega
   rw [e];exact ⟨isLo_add ix.1 (isLo_neg iy.2),isHi_add ix.2 (isHi_neg iy.1)⟩
 | .mul x y=>by
   have ix:=rng0_ok hF x
   have iy:=rng0_ok hF y
   unfold rng0
   split
   all_goals first|(rename_i h;cases h;done)|skip
   ·rename_i x' n he
    cases he
    split
    ·rename_i hn;exact ⟨isLo_mulc hn ix.1,isHi_mulc hn ix.2⟩
    ·exact ⟨isLo_none _,isHi_none _⟩
   ·rename_i n y' _ he
    cases he
    have e:(SE.mul (.c n) y).den E=y.den E*n:=by simp only [SE.den];exact Int.mul_comm _ _
    split
    ·rename_i hn;rw [e];exact ⟨isLo_mulc hn iy.1,isHi_mulc hn iy.2⟩
    ·exact ⟨isLo_none _,isHi_none _⟩
   all_goals first|exact ⟨isLo_none _,isHi_none _⟩|exact fR_ok (fun y hy=>isE_ok hy) hF
 | .wrap k x=>by
   have ix:=rng0_ok hF x
   unfold rng0
   simp only
   split
   ·rename_i hf
    have:=wrap_id (fitsR_ok hf ix.1 ix.2)
    simp only [SE.den,this];exact ix
   ·exact ⟨isLo_some (wrap_range _ _).1,isHi_some (wrap_range _ _).2⟩
 | .tdiv x y=>by
   have ix:=rng0_ok hF x
   have iy:=rng0_ok hF y
   unfold rng0
   split
   all_goals first|(rename_i h;cases h;done)|skip
   ·rename_i x' n he
    cases he
    split
    ·rename_i hn
     simp only [SE.den]
     constructor
     ·intro q hq
      cases hr:(rng0 F x).1 with
      |none=>rw [hr] at hq;cases hq
      |some u=>rw [hr] at hq;simp at hq;subst hq;exact Int.tdiv_le_tdiv hn (ix.1 u hr)
     ·intro q hq
      cases hr:(rng0 F x).2 with
      |none=>rw [hr] at hq;cases hq
      |some u=>rw [hr] at hq;simp at hq;subst hq;exact Int.tdiv_le_tdiv hn (ix.2 u hr)
    ·exact ⟨isLo_none _,isHi_none _⟩
   all_goals first|exact ⟨isLo_none _,isHi_none _⟩|exact fR_ok (fun y hy=>isE_ok hy) hF
 | .tmod x y=>by
   have ix:=rng0_ok hF x
   have iy:=rng0_ok hF y
   unfold rng0
   split
   all_goals first|(rename_i h;cases h;done)|skip
   ·rename_i x' n he
    cases he
    split
    ·rename_i hn
     simp only
     split
     ·rename_i h0
      have h0':0≤x.den E:=by
       unfold nnLo at h0
       split at h0
       ·rename_i q hq;have:=ix.1 q hq;simp at h0;omega
       ·cases h0
      have e:(SE.tmod x (.c n)).den E=x.den E % n:=by simp only [SE.den];exact Int.tmod_eq_emod_of_nonneg h0'
      rw [e]
      have e1:=Int.emod_nonneg (x.den E) (show n≠0 by omega)
      have e2:=Int.emod_lt_of_pos (x.den E) hn
      refine ⟨isLo_some e1,isHi_omn (fun q hq=>?_) (isHi_some (by omega))⟩
      have:=ix.2 q hq
      have h3:=Int.mul_ediv_add_emod (x.den E) n
      have h4:=Int.mul_nonneg (Int.le_of_lt hn) (Int.ediv_nonneg h0' (Int.le_of_lt hn))
      omega
     ·have e3:=Int.tmod_lt_of_pos (x.den E) hn
      have e4:=Int.lt_tmod_of_pos (x.den E) hn
      exact ⟨isLo_some (by simp only [SE.den];omega),isHi_some (by simp only [SE.den];omega)⟩
    ·exact ⟨isLo_none _,isHi_none _⟩
   all_goals first|exact ⟨isLo_none _,isHi_none _⟩|exact fR_ok (fun y hy=>isE_ok hy) hF
 | .mn x y=>by
   have ix:=rng0_ok hF x
   have iy:=rng0_ok hF y
   unfold rng0
   simp only [SE.den,imn]
   constructor
   ·intro q hq
    split at hq
    ·rename_i p r hp hr
     cases hq
     have:=ix.1 _ hp;have:=iy.1 _ hr
     split<;>split<;>omega
    ·cases hq
   ·split
    ·rename_i hlt
     refine isHi_omn (fun q hq=>?_) iy.2
     have:=ix.2 q hq;omega
    ·rename_i hlt
     refine isHi_omn ix.2 (fun q hq=>?_)
     have:=iy.2 q hq;omega
 | .mx x y=>by
   have ix:=rng0_ok hF x
   have iy:=rng0_ok hF y
   unfold rng0
   simp only [SE.den,imx]
   constructor
   ·split
    ·rename_i hlt
     refine isLo_omx (fun q hq=>?_) iy.1
     have:=ix.1 q hq;omega
    ·rename_i hlt
     refine isLo_omx ix.1 (fun q hq=>?_)
     have:=iy.1 q hq;omega
   ·intro q hq
    split at hq
    ·rename_i p r hp hr
     cases hq
     have:=ix.2 _ hp;have:=iy.2 _ hr
     split<;>split<;>omega
    ·cases hq
 | .ite b x y=>by
   have ix:=rng0_ok hF x
   have iy:=rng0_ok hF y
   unfold rng0
   simp only [SE.den]
   constructor
   ·intro q hq
    split at hq
    ·rename_i p r hp hr
     cases hq
     have:=ix.1 _ hp;have:=iy.1 _ hr
     split<;>split<;>omega
    ·cases hq
   ·intro q hq
    split at hq
    ·rename_i p r hp hr
     cases hq
     have:=ix.2 _ hp;have:=iy.2 _ hr
     split<;>split<;>omega
    ·cases hq
 | .v i=>by unfold rng0;exact fR_ok (fun y hy=>isV_ok hy) hF
 | .rd a o=>by unfold rng0;exact fR_ok (fun y hy=>isE_ok hy) hF
 | .bits o k x y=>by unfold rng0;exact fR_ok (fun y hy=>isE_ok hy) hF
 | .shl k x y=>by unfold rng0;exact fR_ok (fun y hy=>isE_ok hy) hF
 | .shr k x y=>by unfold rng0;exact fR_ok (fun y hy=>isE_ok hy) hF
 | .ni x y=>by unfold rng0;exact fR_ok (fun y hy=>isE_ok hy) hF
 | .ap f l=>by unfold rng0;exact fR_ok (fun y hy=>isE_ok hy) hF
def rdec (F:List (SB×Bool)):SB→Option Bool
 | .lt x y=>let a:=rng0 F x;let b:=rng0 F y
   match a.2,b.1 with
   |some p,some q=>if p<q then some true else match a.1,b.2 with
    |some r,some s=>if s≤r then some false else none
    |_,_=>none
   |_,_=>match a.1,b.2 with
    |some r,some s=>if s≤r then some false else none
    |_,_=>none
 | .le x y=>let a:=rng0 F x;let b:=rng0 F y
   match a.2,b.1 with
   |some p,some q=>if p≤q then some true else match a.1,b.2 with
    |some r,some s=>if s<r then some false else none
    |_,_=>none
   |_,_=>match a.1,b.2 with
    |some r,some s=>if s<r then some false else none
    |_,_=>none
 | .eq x y=>let a:=rng0 F x;let b:=rng0 F y
   match a.2,b.1 with
   |some p,some q=>if p<q then some false else match a.1,b.2 with
    |some r,some s=>if s<r then some false else none
    |_,_=>none
   |_,_=>match a.1,b.2 with
    |some r,some s=>if s<r then some false else none
    |_,_=>none
 |_=>none
theorem rdec_ok {F:List (SB×Bool)} (hF:Facts E F) {b:SB} {t:Bool} (h:rdec F b=some t):b.den E=t:=by
 unfold rdec at h
 split at h
 ·rename_i x y
  obtain ⟨x1,x2⟩:=rng0_ok hF x
  obtain ⟨y1,y2⟩:=rng0_ok hF y
  simp only at h
  have lo: ∀{r s:Int},(rng0 F x).1=some r→(rng0 F y).2=some s→s≤r→(SB.lt x y).den E=false:=fun hr hs hle=>by
   have:=x1 _ hr;have:=y2 _ hs
   simp only [SB.den,decide_eq_false_iff_not];omega
  split at h
  ·rename_i p q hp hq
   split at h
   ·rename_i hlt;cases h
    have:=x2 _ hp;have:=y1 _ hq
    simp only [SB.den,decide_eq_true_eq];omega
   ·split at h
    ·rename_i r s hr hs
     split at h
     ·rename_i hle;cases h;exact lo hr hs hle
     ·cases h
    ·cases h
  ·split at h
   ·rename_i r s hr hs
    split at h
    ·rename_i hle;cases h;exact lo hr hs hle
    ·cases h
   ·cases h
 ·rename_i x y
  obtain ⟨x1,x2⟩:=rng0_ok hF x
  obtain ⟨y1,y2⟩:=rng0_ok hF y
  simp only at h
  have lo: ∀{r s:Int},(rng0 F x).1=some r→(rng0 F y).2=some s→s<r→(SB.le x y).den E=false:=fun hr hs hle=>by
   have:=x1 _ hr;have:=y2 _ hs
   simp only [SB.den,decide_eq_false_iff_not];omega
  split at h
  ·rename_i p q hp hq
   split at h
   ·rename_i hlt;cases h
    have:=x2 _ hp;have:=y1 _ hq
    simp only [SB.den,decide_eq_true_eq];omega
   ·split at h
    ·rename_i r s hr hs
     split at h
     ·rename_i hle;cases h;exact lo hr hs hle
     ·cases h
    ·cases h
  ·split at h
   ·rename_i r s hr hs
    split at h
    ·rename_i hle;cases h;exact lo hr hs hle
    ·cases h
   ·cases h
 ·rename_i x y
  obtain ⟨x1,x2⟩:=rng0_ok hF x
  obtain ⟨y1,y2⟩:=rng0_ok hF y
  simp only at h
  have lo: ∀{r s:Int},(rng0 F x).1=some r→(rng0 F y).2=some s→s<r→(SB.eq x y).den E=false:=fun hr hs hle=>by
   have:=x1 _ hr;have:=y2 _ hs
   simp only [SB.den,beq_eq_false_iff_ne];omega
  split at h
  ·rename_i p q hp hq
   split at h
   ·rename_i hlt;cases h
    have:=x2 _ hp;have:=y1 _ hq
    simp only [SB.den,beq_eq_false_iff_ne];omega
   ·split at h
    ·rename_i r s hr hs
     split at h
     ·rename_i hle;cases h;exact lo hr hs hle
     ·cases h
    ·cases h
  ·split at h
   ·rename_i r s hr hs
    split at h
    ·rename_i hle;cases h;exact lo hr hs hle
    ·cases h
   ·cases h
 ·cases h
def dec1 (F:List (SB×Bool)):SB→Option Bool
 | .c b=>some b
 | .not x=>(dec1 F x).map (!·)
 |b=>match look b F with
  |some t=>some t
  |none=>rdec F b
def dec (F:List (SB×Bool)) (b:SB):Option Bool:=dec1 F b
theorem dec1_base {F:List (SB×Bool)} (hF:Facts E F) {b:SB} {t:Bool} (h:(match look b F with|some t=>some t|none=>rdec F b)=some t):b.den E=t:=by
 split at h
 ·rename_i u hu;cases h;exact look_ok hF hu
 ·exact rdec_ok hF h
theorem dec1_ok {F:List (SB×Bool)} (hF:Facts E F): ∀{b:SB} {t:Bool},dec1 F b=some t→b.den E=t
 | .c b,t,h=>by simp [dec1] at h;simp [SB.den,h]
 | .not x,t,h=>by
   simp only [dec1,Option.map_eq_some_iff] at h
   obtain ⟨u,hu,rfl⟩:=h
   simp [SB.den,dec1_ok hF hu]
 | .v ..,t,h=>dec1_base hF h
 | .lt ..,t,h=>dec1_base hF h
 | .le ..,t,h=>dec1_base hF h
 | .eq ..,t,h=>dec1_base hF h
 | .beq ..,t,h=>dec1_base hF h
 | .and ..,t,h=>dec1_base hF h
 | .ap ..,t,h=>dec1_base hF h
theorem dec_ok {F:List (SB×Bool)} (hF:Facts E F) {b:SB} {t:Bool} (h:dec F b=some t):b.den E=t:=dec1_ok hF h
def wrapR (F:List (SB×Bool)) (k:IntKind) (x:SE):SE:=if fitsR k (rng0 F x) then x else .mkWrap k x
theorem wrapR_ok {F:List (SB×Bool)} (hF:Facts E F) (k:IntKind) (x:SE):(wrapR F k x).den E=k.wrap (x.den E):=by
 unfold wrapR
 split
 ·rename_i h
  obtain ⟨h1,h2⟩:=rng0_ok hF x
  exact (wrap_id (fitsR_ok h h1 h2)).symm
 ·exact SE.den_mkWrap k x
def cstR (F:List (SB×Bool)) (e:SE):SE:=
 match rng0 F e with
 |(some a,some b)=>if a=b then .c a else e
 |_=>e
theorem cstR_ok {F:List (SB×Bool)} (hF:Facts E F) (e:SE):(cstR F e).den E=e.den E:=by
 unfold cstR
 split
 ·rename_i a b h
  obtain ⟨h1,h2⟩:=rng0_ok hF e
  rw [h] at h1 h2
  split
  ·rename_i hab
   subst hab
   have:=h1 _ rfl;have:=h2 _ rfl
   simp only [SE.den];omega
  ·rfl
 ·rfl
def nonneg0 (F:List (SB×Bool)):SE→Bool
 | .c n=>decide (0≤n)
 | .add x y=>nonneg0 F x&&nonneg0 F y
 | .mul x y=>nonneg0 F x&&nonneg0 F y
 | .mx x y=>nonneg0 F x||nonneg0 F y
 | .mn x y=>nonneg0 F x&&nonneg0 F y
 | .ni _ y=>nonneg0 F y
 | .sub x y=>look (.le y x) F==some true||look (.lt x y) F==some false||look (.le (.c 0) (.sub x y)) F==some true||look (.lt (.sub x y) (.c 0)) F==some false
 |e=>look (.le (.c 0) e) F==some true||look (.lt e (.c 0)) F==some false
theorem le0_of {F:List (SB×Bool)} (hF:Facts E F) {e:SE} (h:(look (.le (.c 0) e) F==some true||look (.lt e (.c 0)) F==some false)=true):0≤e.den E:=by
 rw [Bool.or_eq_true,beq_iff_eq,beq_iff_eq] at h
 rcases h with h|h
 ·have h':=look_ok hF h
  exact of_decide_eq_true h'
 ·have h':=look_ok hF h
  have:=of_decide_eq_false h'
  exact Int.not_lt.1 this
theorem nonneg0_ok {F:List (SB×Bool)} (hF:Facts E F): ∀{e:SE},nonneg0 F e=true→0≤e.den E
 | .c n,h=>by simpa [nonneg0,SE.den] using h
 | .add x y,h=>by
   simp only [nonneg0,Bool.and_eq_true] at h
   have:=nonneg0_ok hF h.1;have:=nonneg0_ok hF h.2;simp only [SE.den];omega
 | .mul x y,h=>by
   simp only [nonneg0,Bool.and_eq_true] at h
   have h1:=nonneg0_ok hF h.1;have h2:=nonneg0_ok hF h.2;simp only [SE.den];exact Int.mul_nonneg h1 h2
 | .mx x y,h=>by
   simp only [nonneg0,Bool.or_eq_true] at h
   simp only [SE.den,imx]
   rcases h with h|h<;>have:=nonneg0_ok hF h<;>split<;>omega
 | .mn x y,h=>by
   simp only [nonneg0,Bool.and_eq_true] at h
   have:=nonneg0_ok hF h.1;have:=nonneg0_ok hF h.2;simp only [SE.den,imn];split<;>omega
 | .ni x y,h=>by
   simp only [nonneg0] at h
   have:=nonneg0_ok hF h;simp only [SE.den,ini];split<;>omega
 | .sub x y,h=>by
   simp only [nonneg0] at h
   rw [Bool.or_eq_true,Bool.or_eq_true,Bool.or_eq_true,beq_iff_eq,beq_iff_eq,beq_iff_eq,beq_iff_eq] at h
   rcases h with ((h|h)|h)|h
   ·have h1:y.den E≤x.den E:=of_decide_eq_true (look_ok hF h)
    simp only [SE.den];omega
   ·have h1: ¬x.den E<y.den E:=of_decide_eq_false (look_ok hF h)
    simp only [SE.den];omega
   ·exact le0_of hF (by rw [h];rfl)
   ·exact le0_of hF (by rw [h];simp)
 | .v i,h=>le0_of hF h
 | .wrap k x,h=>le0_of hF h
 | .tdiv x y,h=>le0_of hF h
 | .tmod x y,h=>le0_of hF h
 | .bits ..,h=>le0_of hF h
 | .shl ..,h=>le0_of hF h
 | .shr ..,h=>le0_of hF h
 | .rd ..,h=>le0_of hF h
 | .ap ..,h=>le0_of hF h
 | .ite ..,h=>le0_of hF h
def nonneg (F:List (SB×Bool)) (e:SE):Bool:=nonneg0 F e||nnLo (rng0 F e).1
theorem nonneg_ok {F:List (SB×Bool)} (hF:Facts E F) {e:SE} (h:nonneg F e=true):0≤e.den E:=by
 unfold nonneg at h
 rw [Bool.or_eq_true] at h
 rcases h with h|h
 ·exact nonneg0_ok hF h
 ·unfold nnLo at h
  split at h
  ·rename_i x hx
   have:=(rng0_ok hF e).1 x hx
   simp only [decide_eq_true_eq] at h
   omega
  ·cases h
def nn (F:List (SB×Bool)) (e:SE):SE:=if nonneg F e then e else .mx (.c 0) e
theorem nn_ok {F:List (SB×Bool)} (hF:Facts E F) (e:SE):(nn F e).den E=((e.den E).toNat:Int):=by
 unfold nn
 split
 ·rename_i h;have:=nonneg_ok hF h;omega
 ·simp only [SE.den]
  unfold imx;split<;>omega
end Go.Sy
end
section
set_option autoImplicit true
set_option relaxedAutoImplicit true
set_option linter.unusedVariables false
set_option linter.unusedSimpArgs false
namespace Go.Sy
open Go
abbrev Fx:=List (SB×Bool)
def lift0:Value→Option SV
 | .bool b=>some (.bool (.c b))
 | .int k n=>some (.int k (.c n))
 | .float k b=>some (.flt k b)
 | .string s=>some (.str s.data.toList)
 | .pointer none=>some .nilptr
 | .slice none 0 0=>some .nilslice
 | .map none=>some .nilmap
 | .nilFunc=>some .nilfunc
 | .nilIface=>some .nilif
 |_=>none
def liftL:List Value→Option (List SV)
 |[]=>some []
 |v::r=>match lift0 v,liftL r with
  |some s,some t=>some (s::t)
  |_,_=>none
def lift:Value→Option SV
 | .agg cs=>(liftL cs.toList).map .agg
 | .tuple cs=>(liftL cs.toList).map .tup
 | .iface t v=>(lift0 v).map (.ifc t)
 |v=>lift0 v
variable {E:Env} {β:Nat→Bk}
theorem lift0_ok {v:Value} {s:SV} (h:lift0 v=some s):s.den E β=v:=by
 unfold lift0 at h
 split at h<;>simp at h<;>subst h<;>simp [SV.den,SB.den,SE.den]
theorem liftL_ok: ∀{l:List Value} {t:List SV},liftL l=some t→SV.denL E β t=l
 |[],t,h=>by simp [liftL] at h;subst h;rfl
 |v::r,t,h=>by
  simp only [liftL] at h
  split at h
  ·rename_i s u hs hu
   simp at h;subst h
   simp only [SV.denL,lift0_ok hs,liftL_ok hu]
  ·cases h
theorem lift_ok {v:Value} {s:SV} (h:lift v=some s):s.den E β=v:=by
 unfold lift at h
 split at h
 ·rename_i cs
  simp only [Option.map_eq_some_iff] at h
  obtain ⟨l,hl,rfl⟩:=h
  simp only [SV.den,liftL_ok hl]
 ·rename_i cs
  simp only [Option.map_eq_some_iff] at h
  obtain ⟨l,hl,rfl⟩:=h
  simp only [SV.den,liftL_ok hl]
 ·rename_i t v
  simp only [Option.map_eq_some_iff] at h
  obtain ⟨l,hl,rfl⟩:=h
  simp only [SV.den,lift0_ok hl]
 ·exact lift0_ok h
abbrev Gm:=List (Nat×Nat)
def Gm.ok (gm:Gm) (β:Nat→Bk):Prop:= ∀p∈gm,(β p.2).a=p.1∧(β p.2).o=0
def Gm.get (g:Nat):Gm→Option Nat
 |[]=>none
 |(a,b)::r=>if a=g then some b else Gm.get g r
theorem Gm.get_ok {g b:Nat}: ∀{gm:Gm},gm.ok β→Gm.get g gm=some b→(β b).a=g∧(β b).o=0
 |[],_,h=>by simp [Gm.get] at h
 |(a,c)::r,hg,h=>by
  simp only [Gm.get] at h
  split at h
  ·rename_i ha;simp at h;subst h;subst ha;exact hg (a,c) (by simp)
  ·exact Gm.get_ok (fun p hp=>hg p (by simp [hp])) h
inductive Tr where
 |nil
 |node (v:Option SV) (l r:Tr)
def Tr.get:Tr→Nat→Option SV
 | .nil,_=>none
 | .node v l r,i=>bif Nat.beq i 0 then v else bif Nat.beq (i % 2) 1 then l.get (i/2) else r.get (i/2 - 1)
def Tr.set:Nat→Tr→Nat→SV→Tr
 |0,t,_,_=>t
 |f+1,t,i,v=>match t with
  | .nil=>bif Nat.beq i 0 then .node (some v) .nil .nil else bif Nat.beq (i % 2) 1 then .node none (Tr.set f .nil (i/2) v) .nil else .node none .nil (Tr.set f .nil (i/2 - 1) v)
  | .node u l r=>bif Nat.beq i 0 then .node (some v) l r else bif Nat.beq (i % 2) 1 then .node u (Tr.set f l (i/2) v) r else .node u l (Tr.set f r (i/2 - 1) v)
theorem beq_t {a b:Nat} (h:a=b):Nat.beq a b=true:=by subst h;exact Nat.beq_refl a
theorem beq_f {a b:Nat} (h:a≠b):Nat.beq a b=false:=by
 cases hh:Nat.beq a b with
 |true=>exact (h (Nat.eq_of_beq_eq_true hh)).elim
 |false=>rfl
theorem Tr.get_set: ∀(f:Nat) (t:Tr) (i j:Nat) (v:SV),i<f→(Tr.set f t i v).get j=if j=i then some v else t.get j
 |0,t,i,j,v,h=>by omega
 |f+1,t,i,j,v,h=>by
  have step: ∀(u:Option SV) (l r:Tr),(bif Nat.beq i 0 then Tr.node (some v) l r else bif Nat.beq (i % 2) 1 then .node u (Tr.set f l (i/2) v) r else .node u l (Tr.set f r (i/2 - 1) v)).get j=if j=i then some v else (Tr.node u l r).get j:=by
   intro u l r
   by_cases hi:i=0
   ·subst hi
    simp only [Nat.beq_refl,cond_true,Tr.get]
    by_cases hj:j=0
    ·subst hj;simp
    ·simp [beq_f hj,hj]
   ·rw [beq_f hi]
    by_cases h1:i % 2=1
    ·rw [beq_t h1]
     simp only [cond_false,cond_true,Tr.get]
     by_cases hj:j=0
     ·subst hj
      have:(0:Nat)≠i:=fun hh=>hi hh.symm
      simp [this]
     ·rw [beq_f hj]
      by_cases hj1:j % 2=1
      ·rw [beq_t hj1]
       simp only [cond_false,cond_true]
       rw [Tr.get_set f l (i/2) (j/2) v (by omega)]
       by_cases hij:j=i
       ·subst hij;simp
       ·rw [if_neg (by omega),if_neg hij]
      ·rw [beq_f hj1]
       simp only [cond_false]
       rw [if_neg (by intro hh;subst hh;exact hj1 h1)]
    ·rw [beq_f h1]
     simp only [cond_false,Tr.get]
     by_cases hj:j=0
     ·subst hj
      have:(0:Nat)≠i:=fun hh=>hi hh.symm
      simp [this]
     ·rw [beq_f hj]
      by_cases hj1:j % 2=1
      ·rw [beq_t hj1]
       simp only [cond_false,cond_true]
       rw [if_neg (by intro hh;subst hh;exact h1 hj1)]
      ·rw [beq_f hj1]
       simp only [cond_false]
       rw [Tr.get_set f r (i/2 - 1) (j/2 - 1) v (by omega)]
       by_cases hij:j=i
       ·subst hij;simp
       ·rw [if_neg (by omega),if_neg hij]
  cases t with
  |nil=>
   have:=step none .nil .nil
   have e:(Tr.node none .nil .nil).get j=(Tr.nil).get j:=by
    simp only [Tr.get]
    cases Nat.beq j 0<;>cases Nat.beq (j % 2) 1<;>rfl
   rw [e] at this
   exact this
  |node u l r=>exact step u l r
mutual
def SV.ub:SV→Nat
 | .ptr b _=>b+1
 | .slice b _ _ _=>b+1
 | .map b=>b+1
 | .own b=>b+1
 | .q b _=>b+1
 | .func _ f c=>Nat.max (SV.ubL f) (SV.ubL c)
 | .ifc _ v=>v.ub
 | .agg l=>SV.ubL l
 | .tup l=>SV.ubL l
 |_=>0
def SV.ubL:List SV→Nat
 |[]=>0
 |v::r=>Nat.max v.ub (SV.ubL r)
end
theorem max_le {a b n:Nat} (h:Nat.max a b≤n):a≤n∧b≤n:=⟨Nat.le_trans (Nat.le_max_left a b) h,Nat.le_trans (Nat.le_max_right a b) h⟩
mutual
theorem SV.ub_ok {n:Nat}: ∀(v:SV),v.ub≤n→v.bnd n=true
 | .ptr b o,h| .slice b o _ _,h| .map b,h| .own b,h| .q b _,h=>by simp only [SV.ub] at h;simp only [SV.bnd,decide_eq_true_eq];omega
 | .func _ f c,h=>by simp only [SV.ub] at h;simp only [SV.bnd,Bool.and_eq_true];exact ⟨SV.ubL_ok f (max_le h).1,SV.ubL_ok c (max_le h).2⟩
 | .ifc _ v,h=>by simp only [SV.ub] at h;simp only [SV.bnd];exact SV.ub_ok v h
 | .agg l,h=>by simp only [SV.ub] at h;simp only [SV.bnd];exact SV.ubL_ok l h
 | .tup l,h=>by simp only [SV.ub] at h;simp only [SV.bnd];exact SV.ubL_ok l h
 | .int ..,_| .bool _,_| .flt ..,_| .str _,_| .nilptr,_| .nilslice,_| .nilmap,_| .nilfunc,_| .nilif,_| .opq _,_| .fx ..,_| .fw ..,_| .pa ..,_| .sa ..,_=>by simp [SV.bnd]
theorem SV.ubL_ok {n:Nat}: ∀(l:List SV),SV.ubL l≤n→SV.bndL n l=true
 |[],_=>rfl
 |v::r,h=>by simp only [SV.ubL] at h;simp only [SV.bndL,Bool.and_eq_true];exact ⟨SV.ub_ok v (max_le h).1,SV.ubL_ok r (max_le h).2⟩
end
structure Tm where
 n:Nat
 o:Bool
 t:Tr
 ub:Nat
 ok: ∀i v,t.get i=some v→v.ub≤ub
def Tm.get (x:Tm) (i:Nat):SV:=bif Nat.ble x.n i then .tup [] else match x.t.get i with
 |some v=>v
 |none=>bif x.o then .opq i else .tup []
def Tm.get? (x:Tm) (i:Nat):Option SV:=bif Nat.ble x.n i then none else some (x.get i)
def Tm.empty (n:Nat) (o:Bool):Tm:=⟨n,o,.nil,0,fun i v h=>by cases h⟩
def Tm.put (x:Tm) (i:Nat) (v:SV):Tm:=⟨x.n,x.o,Tr.set (i+1) x.t i v,Nat.max x.ub v.ub,fun j u h=>by
 rw [Tr.get_set (i+1) x.t i j v (by omega)] at h
 split at h
 ·cases h;exact Nat.le_max_right _ _
 ·exact Nat.le_trans (x.ok j u h) (Nat.le_max_left _ _)⟩
def Tm.den (E:Env) (β:Nat→Bk) (x:Tm):Array Value:=((List.range x.n).map fun i=>(x.get i).den E β).toArray
def Tm.bnd (n:Nat) (x:Tm):Bool:=Nat.ble x.ub n
def Tr.vb (n:Nat):Tr→Bool
 | .nil=>true
 | .node v l r=>(match v with|some u=>u.vb n|none=>true)&&(l.vb n&&r.vb n)
theorem Tr.vb_get {n:Nat}: ∀(t:Tr) (i:Nat) (v:SV),t.vb n=true→t.get i=some v→v.vb n=true
 | .nil,i,v,_,h=>by cases h
 | .node u l r,i,v,h,hg=>by
   simp only [Tr.vb,Bool.and_eq_true] at h
   simp only [Tr.get] at hg
   cases h0:Nat.beq i 0 with
   |true=>rw [h0] at hg;simp only [cond_true] at hg;subst hg;exact h.1
   |false=>
    rw [h0] at hg
    cases h1:Nat.beq (i % 2) 1 with
    |true=>rw [h1] at hg;simp only [cond_false,cond_true] at hg;exact Tr.vb_get l _ v h.2.1 hg
    |false=>rw [h1] at hg;simp only [cond_false] at hg;exact Tr.vb_get r _ v h.2.2 hg
def Tm.vb (n:Nat) (x:Tm):Bool:=x.t.vb n
theorem Tm.get_vb {n:Nat} {x:Tm} (h:x.vb n=true) (i:Nat):(x.get i).vb n=true:=by
 unfold Tm.get
 cases Nat.ble x.n i with
 |true=>rfl
 |false=>
  simp only [cond_false]
  cases hg:x.t.get i with
  |some v=>exact Tr.vb_get _ _ _ h hg
  |none=>cases x.o<;>rfl
theorem Tm.den_ag {n:Nat} {E':Env} (H:AgE n E E') {x:Tm} (h:x.vb n=true):x.den E' β=x.den E β:=by
 unfold Tm.den
 congr 1
 apply List.map_congr_left
 intro i _
 exact SV.den_ag H β _ (Tm.get_vb h i)
theorem Tm.get_bnd {n:Nat} {x:Tm} (h:x.bnd n=true) (i:Nat):(x.get i).bnd n=true:=by
 have h:=Nat.le_of_ble_eq_true h
 unfold Tm.get
 cases Nat.ble x.n i with
 |true=>rfl
 |false=>
  simp only [cond_false]
  cases hh:x.t.get i with
  |none=>simp only;cases x.o<;>rfl
  |some v=>exact SV.ub_ok v (Nat.le_trans (x.ok i v hh) h)
theorem Tm.den_agree {β β':Nat→Bk} {n:Nat} (h: ∀i,i<n→β' i=β i) {x:Tm} (hx:x.bnd n=true):x.den E β'=x.den E β:=by
 unfold Tm.den
 congr 1
 apply List.map_congr_left
 intro i _
 exact SV.den_agree h (x.get i) (Tm.get_bnd hx i)
theorem Tm.get_put (x:Tm) (i j:Nat) (v:SV):(x.put i v).get j=if j=i∧j<x.n then v else x.get j:=by
 unfold Tm.get Tm.put
 simp only
 by_cases hj:x.n≤j
 ·rw [show Nat.ble x.n j=true from Nat.ble_eq_true_of_le hj]
  rw [if_neg (by omega)];rfl
 ·have hb:Nat.ble x.n j=false:=by
   cases hh:Nat.ble x.n j with
   |true=>exact (hj (Nat.le_of_ble_eq_true hh)).elim
   |false=>rfl
  rw [hb,Tr.get_set (i+1) x.t i j v (by omega)]
  by_cases hij:j=i
  ·rw [if_pos hij,if_pos ⟨hij,by omega⟩];rfl
  ·rw [if_neg hij,if_neg (by omega)]
theorem Tm.den_put (x:Tm) (i:Nat) (v:SV):(x.put i v).den E β=(x.den E β).setIfInBounds i (v.den E β):=by
 apply Array.ext'
 have hn:(x.put i v).n=x.n:=rfl
 simp only [Tm.den,hn,Array.toList_setIfInBounds]
 apply List.ext_getElem?
 intro j
 simp only [List.getElem?_map,List.getElem?_set,List.length_map,List.length_range]
 by_cases hj:j<x.n
 ·rw [List.getElem?_range hj]
  simp only [Option.map_some,Tm.get_put]
  by_cases hij:i=j
  ·subst hij;simp [hj]
  ·rw [if_neg (by omega),if_neg hij]
 ·rw [List.getElem?_eq_none (by simpa using hj)]
  simp only [Option.map_none]
  split
  ·split
   ·omega
   ·rfl
  ·rfl
theorem Tm.den_getD (x:Tm) (t:Nat):(x.den E β).getD t undef=(x.get t).den E β:=by
 simp only [Tm.den,Array.getD_eq_getD_getElem?,List.getElem?_toArray,List.getElem?_map]
 by_cases ht:t<x.n
 ·rw [List.getElem?_range ht];rfl
 ·rw [List.getElem?_eq_none (by simpa using ht)]
  have:Nat.ble x.n t=true:=Nat.ble_eq_true_of_le (by omega)
  simp [Tm.get,this,SV.den,SV.denL,undef]
theorem Tm.den_get? (x:Tm) (t:Nat):(x.den E β)[t]?=(x.get? t).map (SV.den E β):=by
 simp only [Tm.den,List.getElem?_toArray,List.getElem?_map,Tm.get?]
 by_cases ht:t<x.n
 ·rw [List.getElem?_range ht]
  have:Nat.ble x.n t=false:=by
   cases hh:Nat.ble x.n t with
   |true=>have:=Nat.le_of_ble_eq_true hh;omega
   |false=>rfl
  rw [this];rfl
 ·rw [List.getElem?_eq_none (by simpa using ht)]
  have:Nat.ble x.n t=true:=Nat.ble_eq_true_of_le (by omega)
  rw [this];rfl
def Tm.puts (x:Tm):Nat→List SV→Tm
 |_,[]=>x
 |j,v::r=>Tm.puts (x.put j v) (j+1) r
def Tm.entry (args:List SV) (n:Nat):Tm:=(Tm.empty (args.length+(n - args.length)) false).puts 0 args
theorem Tm.puts_n: ∀(l:List SV) (x:Tm) (j:Nat),(x.puts j l).n=x.n
 |[],x,j=>rfl
 |v::r,x,j=>by simp only [Tm.puts,Tm.puts_n r];rfl
theorem Tm.puts_get: ∀(l:List SV) (x:Tm) (j i:Nat),j+l.length≤x.n→(x.puts j l).get i=if j≤i∧i<j+l.length then l.getD (i - j) (.tup []) else x.get i
 |[],x,j,i,_=>by simp only [Tm.puts,List.length_nil];rw [if_neg (by omega)]
 |v::r,x,j,i,h=>by
  simp only [List.length_cons] at h
  simp only [Tm.puts]
  rw [Tm.puts_get r (x.put j v) (j+1) i (by show _≤x.n;omega),Tm.get_put]
  simp only [List.length_cons]
  by_cases h1:j+1≤i∧i<j+1+r.length
  ·rw [if_pos h1,if_pos (by omega)]
   have:i - j=(i - (j+1))+1:=by omega
   rw [this];rfl
  ·rw [if_neg h1]
   by_cases h2:i=j
   ·subst h2;rw [if_pos ⟨rfl,by omega⟩,if_pos (by omega)];simp
   ·rw [if_neg (by omega),if_neg (by omega)]
theorem Tm.entry_den (args:List SV) (n:Nat):(Tm.entry args n).den E β=(SV.denL E β args).toArray++Array.replicate (n - (SV.denL E β args).toArray.size) undef:=by
 have hl:(SV.denL E β args).length=args.length:=by rw [SV.denL_map];simp
 apply Array.ext'
 simp only [Array.toList_append,Array.toList_replicate,List.size_toArray,hl]
 unfold Tm.den Tm.entry
 rw [Tm.puts_n]
 apply List.ext_getElem?
 intro i
 simp only [List.getElem?_map,Tm.empty]
 rw [SV.denL_map]
 by_cases hi:i<args.length+(n - args.length)
 ·rw [List.getElem?_range hi]
  simp only [Option.map_some]
  rw [show (Tm.puts { n:=args.length+(n - args.length),o:=false,t:=Tr.nil,ub:=0,ok:=_ } 0 args).get i=_ from Tm.puts_get args _ 0 i (by show 0+args.length≤args.length+(n - args.length);omega)]
  by_cases ha:i<args.length
  ·rw [if_pos ⟨by omega,by omega⟩,List.getElem?_append_left (by simpa using ha)]
   simp [List.getD_eq_getElem?_getD,ha]
  ·rw [if_neg (by omega),List.getElem?_append_right (by simpa using ha)]
   have hb:Nat.ble (args.length+(n - args.length)) i=false:=by
    cases hh:Nat.ble (args.length+(n - args.length)) i with
    |true=>have:=Nat.le_of_ble_eq_true hh;omega
    |false=>rfl
   simp only [List.length_map,Tm.get,hb,cond_false,Tr.get]
   rw [List.getElem?_replicate,if_pos (by omega)]
   simp [SV.den,SV.denL,undef]
 ·rw [List.getElem?_eq_none (by simpa using hi),List.getElem?_eq_none (by simp;omega)]
  rfl
def ev (gm:Gm) (tmps:Tm):Operand→Option SV
 | .tmp t=>some (tmps.get t)
 | .const v=>lift v
 | .global g=>(Gm.get g gm).map fun b=> .ptr b Off.z
 | .func f=>some (.func (.func f) [] [])
def actD (E:Env) (β:Nat→Bk) (tmps:Tm) (ds:List Deferred):Act:=⟨tmps.den E β,ds⟩
theorem ev_ok {gm:Gm} (hg:gm.ok β) {tmps:Tm} {ds:List Deferred} {x:Operand} {s:SV} (h:ev gm tmps x=some s):
 (actD E β tmps ds).eval x=s.den E β:=by
 cases x with
 |tmp t=>simp [ev] at h;subst h;exact Tm.den_getD tmps t
 |const v=>simp only [ev] at h;simp only [Act.eval,lift_ok h]
 |global g=>
  simp only [ev,Option.map_eq_some_iff] at h
  obtain ⟨b,hb,rfl⟩:=h
  simp [Act.eval,SV.den,Off.den,Off.z,SE.den,(Gm.get_ok hg hb).1,(Gm.get_ok hg hb).2]
 |func f=>simp [ev] at h;subst h;simp [Act.eval,SV.den,SV.denL]
inductive RP where
 |val (v:SV)
 |fork (b:SB)
 |dead
 |no
def onB (F:Fx) (b:SB) (t f:RP):RP:=
 match dec F b with
 |some true=>t
 |some false=>f
 |none=> .fork b
def binInt (F:Fx) (op:BinOp) (k:IntKind) (a b:SE):RP:=
 match op with
 | .add=> .val (.int k (wrapR F k (.mkAdd a b)))
 | .sub=> .val (.int k (wrapR F k (.mkSub a b)))
 | .mul=> .val (.int k (wrapR F k (.mkMul a b)))
 | .quo=>onB F (.mkEq b (.c 0)) .dead (.val (.int k (wrapR F k (.mkTdiv a b))))
 | .rem=>onB F (.mkEq b (.c 0)) .dead (.val (.int k (.mkTmod a b)))
 | .and=> .val (.int k (.mkBits .and k a b))
 | .or=> .val (.int k (.mkBits .or k a b))
 | .xor=> .val (.int k (.mkBits .xor k a b))
 | .andNot=> .val (.int k (.mkBits .andNot k a b))
 | .eql=> .val (.bool (.mkEq a b))
 | .neq=> .val (.bool (.mkNot (.mkEq a b)))
 | .lss=> .val (.bool (.mkLt a b))
 | .leq=> .val (.bool (.mkLe a b))
 | .gtr=> .val (.bool (.mkLt b a))
 | .geq=> .val (.bool (.mkLe b a))
 |_=> .no
theorem onB_val {F:Fx} (hF:Facts E F) {b:SB} {t f:RP} {v:SV} (h:onB F b t f= .val v):(b.den E=true∧t= .val v)∨(b.den E=false∧f= .val v):=by
 unfold onB at h
 split at h
 ·rename_i hd;exact .inl ⟨dec_ok hF hd,h⟩
 ·rename_i hd;exact .inr ⟨dec_ok hF hd,h⟩
 ·cases h
variable {P:Program} {w:World}
theorem binInt_ok {F:Fx} (hF:Facts E F) {op:BinOp} {k:IntKind} {a b:SE} {v:SV} (T:TypeId) (h:binInt F op k a b= .val v):
 (binOp op T (.int k (a.den E)) (.int k (b.den E))).run P w= .ok (v.den E β) w:=by
 have key: ∀{x:SV},RP.val x=RP.val v→x=v:=fun h=>by cases h;rfl
 cases op<;>simp only [binInt] at h
 case quo=>
  rcases onB_val hF h with ⟨_,h⟩|⟨h0,h⟩
  ·cases h
  ·cases h
   rw [SB.den_mkEq] at h0
   have h0':b.den E≠0:=by simpa [SE.den] using h0
   simp [binOp,Op.intDiv,h0',SV.den,wrapR_ok hF,SE.den_mkTdiv]
 case rem=>
  rcases onB_val hF h with ⟨_,h⟩|⟨h0,h⟩
  ·cases h
  ·cases h
   rw [SB.den_mkEq] at h0
   have h0':b.den E≠0:=by simpa [SE.den] using h0
   simp [binOp,Op.intDiv,h0',SV.den,SE.den_mkTmod]
 all_goals first
  |cases h;done
  |(cases h;simp [binOp,Op.intArith,Op.intBits,Op.intCmp,SV.den,wrapR_ok hF,SE.den_mkAdd,SE.den_mkSub,SE.den_mkMul,SE.den_mkBits,Go.bits,SB.den_mkEq,SB.den_mkNot,SB.den_mkLt,SB.den_mkLe];done)
  |(cases h;simp [binOp,Op.intArith,Op.intBits,Op.intCmp,SV.den,wrapR_ok hF,SE.den_mkAdd,SE.den_mkSub,SE.den_mkMul,SE.den_mkBits,Go.bits,SB.den_mkEq,SB.den_mkNot,SB.den_mkLt,SB.den_mkLe];rfl)
def shiftS (F:Fx) (op:BinOp) (k:IntKind) (a b:SE):RP:=
 match op with
 | .shl=>onB F (.mkLt b (.c 0)) .dead (.val (.int k (.mkShl k a b)))
 | .shr=>onB F (.mkLt b (.c 0)) .dead (.val (.int k (.mkShr k a b)))
 |_=> .no
theorem shiftS_ok {F:Fx} (hF:Facts E F) {op:BinOp} {k j:IntKind} {a b:SE} {v:SV} (T:TypeId) (h:shiftS F op k a b= .val v):
 (binOp op T (.int k (a.den E)) (.int j (b.den E))).run P w= .ok (v.den E β) w:=by
 cases op<;>simp only [shiftS] at h<;>first|cases h;done|skip
 all_goals
  rcases onB_val hF h with ⟨_,h⟩|⟨h0,h⟩
  ·cases h
  ·cases h
   rw [SB.den_mkLt] at h0
   have h0': ¬b.den E<0:=of_decide_eq_false h0
   simp [binOp,Op.shift,h0',SV.den,SE.den_mkShl,SE.den_mkShr]
end Go.Sy
end
section
set_option autoImplicit true
set_option relaxedAutoImplicit true
set_option linter.unusedVariables false
set_option linter.unusedSimpArgs false
namespace Go.Sy
open Go
variable {E:Env} {β:Nat→Bk} {P:Program} {w:World}
def descIs (P:Program) (T:TypeId) (p:TypeDesc→Bool):Bool:=
 match P.underlying T with
 |some d=>p d
 |none=>false
def isPtrTo (P:Program) (T:TypeId):Bool:=
 match P.underlying T with
 |some (.pointer e)=>match P.info? e with
  |some i=>decide (i.size≠0)
  |none=>false
 |_=>false
def isCells (h:List SBlk) (b:Nat):Bool:=
 match h[b]? with
 |some (.cells _ _)=>true
 |_=>false
def ptrEq (P:Program) (h:List SBlk) (x y:SV):Option Bool:=
 match x,y with
 | .nilptr,.nilptr=>some true
 | .nilptr,.ptr _ _=>some false
 | .ptr _ _,.nilptr=>some false
 | .ptr b o,.ptr c q=>
   if b=c then
    if o=q then some true
    else match o.row,q.row with
     | .c m,.c n=>some (m.toNat*o.stride+o.col==n.toNat*q.stride+q.col)
     |_,_=>none
   else if isCells h b&&isCells h c then some false else none
 |_,_=>none
def eqv (P:Program) (h:List SBlk) (T:TypeId) (x y:SV):Option SB:=
 match x,y with
 | .bool a,.bool b=>if descIs P T (fun| .bool=>true|_=>false) then some (.mkBeq a b) else none
 | .str a,.str b=>if descIs P T (fun| .string=>true|_=>false) then some (.c (a==b)) else none
 | .nilif,.nilif=>if descIs P T (fun| .interface _=>true|_=>false) then some (.c true) else none
 | .nilif,.ifc _ _=>if descIs P T (fun| .interface _=>true|_=>false) then some (.c false) else none
 | .ifc _ _,.nilif=>if descIs P T (fun| .interface _=>true|_=>false) then some (.c false) else none
 | .ifc t u,.ifc s v=>
   if descIs P T (fun| .interface _=>true|_=>false) then
    if t=s then
     match P.info? t with
     |some i=>if i.comparable&&isPtrTo P t then (ptrEq P h u v).map .c else none
     |none=>none
    else some (.c false)
   else none
 | .nilfunc,.nilfunc=>if descIs P T (fun| .func _ _ _=>true|_=>false) then some (.c true) else none
 | .nilfunc,.func _ _ _=>if descIs P T (fun| .func _ _ _=>true|_=>false) then some (.c false) else none
 | .func _ _ _,.nilfunc=>if descIs P T (fun| .func _ _ _=>true|_=>false) then some (.c false) else none
 | .nilslice,.nilslice=>if descIs P T (fun| .slice _=>true|_=>false) then some (.c true) else none
 | .nilslice,.slice _ _ _ _=>if descIs P T (fun| .slice _=>true|_=>false) then some (.c false) else none
 | .slice _ _ _ _,.nilslice=>if descIs P T (fun| .slice _=>true|_=>false) then some (.c false) else none
 | .nilmap,.nilmap=>if descIs P T (fun| .map _ _=>true|_=>false) then some (.c true) else none
 | .nilmap,.map _=>if descIs P T (fun| .map _ _=>true|_=>false) then some (.c false) else none
 | .map _,.nilmap=>if descIs P T (fun| .map _ _=>true|_=>false) then some (.c false) else none
 |x,y=>if isPtrTo P T then (ptrEq P h x y).map .c else none
theorem isCells_ok {h:List SBlk} (hw:HOk E β h w) {b:Nat} (hb:isCells h b=true): ∃l S,h[b]?=some (.cells l S)∧ ∃cs T,w.heap[(β b).a]?=some (.cells cs T (0,0)):=by
 unfold isCells at hb
 split at hb
 ·rename_i l T hl
  have:=hw.ok b _ hl
  exact ⟨_,_,hl,_,_,this.2⟩
 ·cases hb
theorem sameAddr_ne {a b:Addr} (hne:a.block≠b.block) {cs ds:Array Value} {S T:TypeId} (ha:w.heap[a.block]?=some (.cells cs S (0,0))) (hb:w.heap[b.block]?=some (.cells ds T (0,0))):
 (sameAddr a b).run P w= .ok false w:=by
 have hbeq:(a.block==b.block)=false:=by simpa using hne
 have fz: ∀(x:Addr) (cs:Array Value) (S:TypeId),w.heap[x.block]?=some (.cells cs S (0,0))→ ∀o s,w.frozen? ⟨x.block,o,s⟩=false:=by
  intro x cs S hx o s;simp [World.frozen?,hx]
 have fa:w.frozen? a=false:=by have:=fz a cs S ha a.off a.spot;exact this
 have sa:w.shape? a.block=some (S,cs.size):=by simp [World.shape?,ha]
 have sb:w.shape? b.block=some (T,ds.size):=by simp [World.shape?,hb]
 have fb:w.frozen? b=false:=by have:=fz b ds T hb b.off b.spot;exact this
 simp [sameAddr,hbeq,fa,noView,viewAt,sa,sb,mayBeOne,stringish,fz a cs S ha,fb,fz b ds T hb]
theorem ptrEq_ok {h:List SBlk} (hw:HOk E β h w) {T:TypeId} (hT:isPtrTo P T=true) {x y:SV} {r:Bool} (hr:ptrEq P h x y=some r) (d:Nat):
 (Op.equalIn (d+1) T (x.den E β) (y.den E β)).run P w= .ok r w:=by
 unfold isPtrTo at hT
 split at hT
 ·rename_i e he
  split at hT
  ·rename_i i hi
   have hs:i.size≠0:=by simpa using hT
   unfold ptrEq at hr
   split at hr
   ·simp at hr;subst hr;simp [SV.den,Op.equalIn,underlying,he]
   ·simp at hr;subst hr;simp [SV.den,Op.equalIn,underlying,he]
   ·simp at hr;subst hr;simp [SV.den,Op.equalIn,underlying,he]
   ·rename_i b o c q
    have hz:(sizeOf e).run P w= .ok i.size w:=by simp [sizeOf,typeInfo,hi]
    have hgo:(Op.equalIn (d+1) T ((SV.ptr b o).den E β) ((SV.ptr c q).den E β)).run P w=(sameAddr ⟨(β b).a,(β b).o+o.den E,none⟩ ⟨(β c).a,(β c).o+q.den E,none⟩).run P w:=by
     simp [SV.den,Op.equalIn,underlying,he,hz,hs]
    rw [hgo]
    split at hr
    ·rename_i hbc
     subst hbc
     have h1:(sameAddr ⟨(β b).a,(β b).o+o.den E,none⟩ ⟨(β b).a,(β b).o+q.den E,none⟩).run P w= .ok (decide (o.den E=q.den E)) w:=by
      simp [sameAddr]
      by_cases hh:o.den E=q.den E<;>simp [hh]
     rw [h1]
     split at hr
     ·rename_i hoq;subst hoq;simp at hr;subst hr;simp
     ·split at hr
      ·rename_i m n hm hn
       simp at hr;subst hr
       simp only [Off.den,hm,hn,SE.den]
       rfl
      ·cases hr
    ·rename_i hbc
     split at hr
     ·rename_i hcc
      simp at hr;subst hr
      simp only [Bool.and_eq_true] at hcc
      obtain ⟨_,_,hb,cs,S,hcs⟩:=isCells_ok hw hcc.1
      obtain ⟨_,_,hc,ds,U,hds⟩:=isCells_ok hw hcc.2
      exact sameAddr_ne (a:=⟨(β b).a,(β b).o+o.den E,none⟩) (b:=⟨(β c).a,(β c).o+q.den E,none⟩) (fun hh=>hbc (hw.inj hb hc trivial trivial rfl rfl hh)) hcs hds
     ·cases hr
   ·cases hr
  ·cases hT
 ·cases hT
theorem descIs_some {T:TypeId} {p:TypeDesc→Bool} (h:descIs P T p=true): ∃d,P.underlying T=some d∧p d=true:=by
 unfold descIs at h
 split at h
 ·rename_i d hd;exact ⟨d,hd,h⟩
 ·cases h
theorem bytes_beq (a b:List UInt8):((⟨a.toArray⟩:ByteArray)==⟨b.toArray⟩)=(a==b):=by
 show (a.toArray==b.toArray)=_
 simp
theorem eqvIn_ok {h:List SBlk} (hw:HOk E β h w) {T:TypeId} {x y:SV} {r:SB} (hr:eqv P h T x y=some r) (n:Nat):
 (Op.equalIn (n+1+1) T (x.den E β) (y.den E β)).run P w= .ok (r.den E) w:=by
 unfold eqv at hr
 split at hr
 case h_1 a b=>
  split at hr
  ·rename_i hd;obtain ⟨d,hd,hp⟩:=descIs_some hd
   simp at hr;subst hr
   split at hp<;>simp at hp
   rw [Op.equalIn];simp [SV.den,underlying,hd,SB.den_mkBeq]
  ·cases hr
 case h_2 a b=>
  split at hr
  ·rename_i hd;obtain ⟨d,hd,hp⟩:=descIs_some hd
   simp at hr;subst hr
   split at hp<;>simp at hp
   rw [Op.equalIn];simp only [SV.den,underlying,hd]
   simp [SB.den,hd,bytes_beq]
  ·cases hr
 case h_6 t u s v=>
  split at hr
  ·rename_i hd;obtain ⟨d,hd,hp⟩:=descIs_some hd
   split at hp<;>simp at hp
   split at hr
   ·rename_i hts
    subst hts
    split at hr
    ·rename_i i hi
     split at hr
     ·rename_i hc
      simp only [Bool.and_eq_true] at hc
      simp only [Option.map_eq_some_iff] at hr
      obtain ⟨rb,hrb,rfl⟩:=hr
      have:=ptrEq_ok (w:=w) hw hc.2 hrb n
      rw [Op.equalIn]
      simp [SV.den,underlying,hd,typeInfo,hi,hc.1,this,SB.den]
     ·cases hr
    ·cases hr
   ·rename_i hts
    simp at hr;subst hr
    rw [Op.equalIn];simp [SV.den,underlying,hd,hts,SB.den]
  ·cases hr
 case h_16 x y _ _ _ _ _ _ _ _ _ _ _ _ _ _ _=>
  split at hr
  ·rename_i hp
   simp only [Option.map_eq_some_iff] at hr
   obtain ⟨rb,hrb,rfl⟩:=hr
   exact ptrEq_ok hw hp hrb (n+1)
  ·cases hr
 all_goals
  split at hr
  ·rename_i hd;obtain ⟨d,hd,hp⟩:=descIs_some hd
   simp at hr;subst hr
   split at hp<;>simp at hp
   rw [Op.equalIn];simp [SV.den,underlying,hd,SB.den]
  ·cases hr
theorem eqv_ok {h:List SBlk} (hw:HOk E β h w) {T:TypeId} {x y:SV} {r:SB} (hr:eqv P h T x y=some r):
 (Op.equal T (x.den E β) (y.den E β)).run P w= .ok (r.den E) w:=eqvIn_ok hw hr 9998
def SB.mkAnd0 (x y:SB):SB:=
 match x with
 | .c true=>y
 | .c false=> .c false
 |x=>match y with
  | .c true=>x
  |y=> .and x y
theorem SB.den_mkAnd0 (x y:SB):(SB.mkAnd0 x y).den E=(x.den E&&y.den E):=by
 unfold SB.mkAnd0;split
 ·simp [SB.den]
 ·simp [SB.den]
 ·split<;>simp [SB.den]
def eq1 (P:Program) (T:TypeId) (x y:SV):Option SB:=
 match x,y with
 | .int k a,.int j b=>if k=j∧descIs P T (fun| .int _=>true|_=>false)=true then some (.mkEq a b) else none
 | .bool a,.bool b=>if descIs P T (fun| .bool=>true|_=>false) then some (.mkBeq a b) else none
 |_,_=>none
theorem eq1_ok {T:TypeId} {x y:SV} {r:SB} (hr:eq1 P T x y=some r) (d:Nat):(Op.equalIn (d+1) T (x.den E β) (y.den E β)).run P w= .ok (r.den E) w∧(isAgg T).run P w= .ok false w:=by
 unfold eq1 at hr
 split at hr
 ·split at hr
  ·rename_i hc
   obtain ⟨rfl,hd⟩:=hc
   obtain ⟨de,hd,hp⟩:=descIs_some hd
   cases hr
   split at hp
   ·exact ⟨by simp only [SV.den,SB.den_mkEq];exact run_equalIn_int w d T _ _ _ _ hd,by simp [isAgg,underlying,hd]⟩
   ·cases hp
  ·cases hr
 ·split at hr
  ·rename_i hd
   obtain ⟨de,hd,hp⟩:=descIs_some hd
   cases hr
   split at hp
   ·exact ⟨by simp only [SV.den,SB.den_mkBeq];exact run_equalIn_bool w d T _ _ hd,by simp [isAgg,underlying,hd]⟩
   ·cases hp
  ·cases hr
 ·cases hr
theorem part1 {T:TypeId} (h:(isAgg T).run P w= .ok false w) {cs:Array Value} {i:Nat} {v:Value} (hv:cs[i]?=some v):(part T cs i).run P w= .ok v w:=by
 simp only [part,Sem.run_bind,h,Result.andThen_ok,Bool.false_eq_true,if_false,hv,Sem.run_pure]
def eqIs (P:Program) (e:TypeId):List SV→List SV→Option SB
 |[],[]=>some (.c true)
 |x::xs,y::ys=>match eq1 P e x y,eqIs P e xs ys with
  |some a,some b=>some (.mkAnd0 a b)
  |_,_=>none
 |_,_=>none
theorem eqIs_ok (d:Nat) {e:TypeId} (hsz:P.cellsOf e=1) {L M:List SV}: ∀{i:Nat} {xs ys:List SV} {r:SB},eqIs P e xs ys=some r→L.drop i=xs→M.drop i=ys→
 (Op.eqItems (d+1) e (P.cellsOf e) (SV.denL E β L).toArray (SV.denL E β M).toArray (List.range' i xs.length)).run P w= .ok (r.den E) w
 |i,[],[],r,h,_,_=>by simp only [eqIs,Option.some.injEq] at h;subst h;rfl
 |i,x::xs,y::ys,r,h,h1,h2=>by
  simp only [eqIs] at h
  split at h
  ·rename_i a b ha hb
   cases h
   have n1:(SV.denL E β L).toArray[i]?=some (x.den E β):=by
    have:L[i]?=some x:=by rw [←List.head?_drop,h1];rfl
    simp [SV.denL_map,this]
   have n2:(SV.denL E β M).toArray[i]?=some (y.den E β):=by
    have:M[i]?=some y:=by rw [←List.head?_drop,h2];rfl
    simp [SV.denL_map,this]
   obtain ⟨e1,e2⟩:=eq1_ok (E:=E) (β:=β) (w:=w) ha d
   have hrec:=eqIs_ok d hsz (L:=L) (M:=M) (i:=i+1) hb (by rw [←List.tail_drop,h1];rfl) (by rw [←List.tail_drop,h2];rfl)
   rw [hsz] at hrec
   simp only [List.length_cons,List.range'_succ,Op.eqItems,Sem.run_bind,hsz,Nat.mul_one,part1 e2 n1,part1 e2 n2,Result.andThen_ok,e1,SB.den_mkAnd0]
   cases a.den E with
   |true=>simpa using hrec
   |false=>simp
  ·cases h
 |_,[],_::_,_,h,_,_=>by simp [eqIs] at h
 |_,_::_,[],_,h,_,_=>by simp [eqIs] at h
def arrTy (P:Program) (T:TypeId):Option (Nat×TypeId):=
 match P.underlying T with
 |some (.array n e)=>if P.cellsOf e=1∧(P.info? e).isSome=true∧(P.info? T).map (·.size)=some n then some (n,e) else none
 |_=>none
def eqFs (P:Program):List Field→Nat→List SV→List SV→Option SB
 |[],_,xs,ys=>if xs.isEmpty&&ys.isEmpty then some (.c true) else none
 |f::fs,i,xs,ys=>if f.offset=i∧f.name≠ "_" then match arrTy P f.type with
  |some (n,e)=>if n≤xs.length∧n≤ys.length then match eqIs P e (xs.take n) (ys.take n),eqFs P fs (i+n) (xs.drop n) (ys.drop n) with
   |some a,some b=>some (.mkAnd0 a b)
   |_,_=>none
   else none
  |none=>match xs,ys with
   |x::xs,y::ys=>match eq1 P f.type x y,eqFs P fs (i+1) xs ys with
    |some a,some b=>some (.mkAnd0 a b)
    |_,_=>none
   |_,_=>none
  else none
theorem partN {T:TypeId} {n:Nat} {e:TypeId} (h:arrTy P T=some (n,e)) (cs:Array Value) (i:Nat):(part T cs i).run P w= .ok (.agg (cs.extract i (i+n))) w∧P.underlying T=some (.array n e)∧P.cellsOf e=1∧ ∃j,P.info? e=some j:=by
 unfold arrTy at h
 split at h
 ·rename_i n' e' hu
  split at h
  ·rename_i hc
   cases h
   obtain ⟨h1,h2,h3⟩:=hc
   have ha:(isAgg T).run P w= .ok true w:=by simp [isAgg,underlying,hu]
   have hs:(sizeOf T).run P w= .ok n w:=by
    simp only [Option.map_eq_some_iff] at h3
    obtain ⟨j,hj,hj2⟩:=h3
    simp [sizeOf,typeInfo,hj,hj2]
   refine ⟨?_,hu,h1,Option.isSome_iff_exists.1 h2⟩
   simp only [part,Sem.run_bind,ha,Result.andThen_ok,if_true,hs,Sem.run_pure]
  ·cases h
 ·cases h
theorem eqFs_ok (d:Nat) {L M:List SV}: ∀{fs:List Field} {i:Nat} {xs ys:List SV} {r:SB},eqFs P fs i xs ys=some r→L.drop i=xs→M.drop i=ys→
 (Op.eqFields (d+2) (SV.denL E β L).toArray (SV.denL E β M).toArray fs).run P w= .ok (r.den E) w
 |[],i,xs,ys,r,h,_,_=>by
  simp only [eqFs] at h
  split at h
  ·cases h;rfl
  ·cases h
 |f::fs,i,xs,ys,r,h,h1,h2=>by
  simp only [eqFs] at h
  split at h
  ·rename_i hc
   split at h
   ·rename_i n e harr
    split at h
    ·rename_i hlen
     split at h
     ·rename_i a b ha hb
      cases h
      obtain ⟨p1,q1,q2,j,q3⟩:=partN (w:=w) harr (SV.denL E β L).toArray f.offset
      obtain ⟨p2,_⟩:=partN (w:=w) harr (SV.denL E β M).toArray f.offset
      have x1:(SV.denL E β L).toArray.extract f.offset (f.offset+n)=(SV.denL E β (xs.take n)).toArray:=by
       rw [hc.1,←h1,SV.denL_map,SV.denL_map]
       apply Array.ext'
       simp [List.map_take,List.map_drop]
      have x2:(SV.denL E β M).toArray.extract f.offset (f.offset+n)=(SV.denL E β (ys.take n)).toArray:=by
       rw [hc.1,←h2,SV.denL_map,SV.denL_map]
       apply Array.ext'
       simp [List.map_take,List.map_drop]
      have e1:(Op.equalIn (d+2) f.type (.agg (SV.denL E β (xs.take n)).toArray) (.agg (SV.denL E β (ys.take n)).toArray)).run P w= .ok (a.den E) w:=by
       rw [run_equalIn_array w (d+1) _ _ q1 q3,List.range_eq_range']
       have:=eqIs_ok (E:=E) (β:=β) (w:=w) d q2 (i:=0) ha rfl rfl
       rw [List.length_take,Nat.min_eq_left hlen.1] at this
       exact this
      have hrec:=eqFs_ok d (L:=L) (M:=M) (i:=i+n) hb (by rw [←List.drop_drop,h1]) (by rw [←List.drop_drop,h2])
      simp only [Op.eqFields,hc.2,if_true,Sem.run_bind,p1,p2,x1,x2,Result.andThen_ok,e1,ne_eq,not_false_eq_true,SB.den_mkAnd0]
      cases a.den E with
      |true=>simpa using hrec
      |false=>simp
     ·cases h
    ·cases h
   ·split at h
    ·rename_i x xs' y ys'
     split at h
     ·rename_i a b ha hb
      cases h
      have n1:(SV.denL E β L).toArray[i]?=some (x.den E β):=by
       have:L[i]?=some x:=by rw [←List.head?_drop,h1];rfl
       simp [SV.denL_map,this]
      have n2:(SV.denL E β M).toArray[i]?=some (y.den E β):=by
       have:M[i]?=some y:=by rw [←List.head?_drop,h2];rfl
       simp [SV.denL_map,this]
      obtain ⟨e1,e2⟩:=eq1_ok (E:=E) (β:=β) (w:=w) ha (d+1)
      have hrec:=eqFs_ok d (L:=L) (M:=M) (i:=i+1) hb (by rw [←List.tail_drop,h1];rfl) (by rw [←List.tail_drop,h2];rfl)
      simp only [Op.eqFields,hc.2,if_true,Sem.run_bind,hc.1,part1 e2 n1,part1 e2 n2,Result.andThen_ok,e1,ne_eq,not_false_eq_true,SB.den_mkAnd0]
      cases a.den E with
      |true=>simpa using hrec
      |false=>simp
     ·cases h
    ·cases h
  ·cases h
def aggEq (P:Program) (T:TypeId) (x y:SV):Option SB:=
 match x,y with
 | .agg l,.agg m=>if P.eqGuardType P.depth T=false then match P.underlying T with
   |some (.struct fs)=>if P.stoodInHeld T=false then eqFs P fs.toList 0 l m else none
   |some (.array n e)=>if P.cellsOf e=1∧n=l.length then match P.info? e with
    |some _=>eqIs P e l m
    |none=>none
    else none
   |_=>none
   else none
 |_,_=>none
theorem aggEq_ok {T:TypeId} {x y:SV} {r:SB} (hr:aggEq P T x y=some r): ∃xs ys,x.den E β= .agg xs∧y.den E β= .agg ys∧P.eqGuardType P.depth T=false∧(Op.equalIn 10000 T (.agg xs) (.agg ys)).run P w= .ok (r.den E) w:=by
 unfold aggEq at hr
 split at hr
 ·rename_i l m
  split at hr
  ·rename_i hg
   split at hr
   ·rename_i fs hfs
    split at hr
    ·rename_i hs
     refine ⟨_,_,rfl,rfl,hg,?_⟩
     have hf:P.fieldsOf T=fs:=by unfold Program.fieldsOf;rw [hfs]
     rw [run_equalIn_struct w 9999 T _ _ (by rw [hf];exact hfs) hs,hf]
     exact eqFs_ok 9997 hr rfl rfl
    ·cases hr
   ·rename_i n e hu
    split at hr
    ·rename_i hc
     split at hr
     ·rename_i i hi
      refine ⟨_,_,rfl,rfl,hg,?_⟩
      rw [run_equalIn_array w 9999 _ _ hu hi,List.range_eq_range',hc.2]
      exact eqIs_ok 9998 hc.1 hr rfl rfl
     ·cases hr
    ·cases hr
   ·cases hr
  ·cases hr
 ·cases hr
end Go.Sy
end
section
set_option autoImplicit true
set_option relaxedAutoImplicit true
set_option linter.unusedVariables false
set_option linter.unusedSimpArgs false
namespace Go.Sy
open Ieee
theorem log2_mul_pow (m k:Nat) (hm:m≠0):(m*2^k).log2=m.log2+k:=by
 induction k with
 |zero=>simp
 |succ k ih=>
  have h:m*2^k≠0:=Nat.mul_ne_zero hm (Nat.ne_of_gt (Nat.pow_pos (by omega)))
  rw [Nat.pow_succ,←Nat.mul_assoc,Nat.mul_comm _ 2,Nat.log2_two_mul h,ih];omega
theorem cut_exact (way:Toward) (n drop:Nat) (h:drop≤n.log2) (hn:n≠0) (hd:2^drop∣n):way.cut false n drop=n/2^drop:=by
 unfold Toward.cut
 have hm:min drop (n.log2+2)=drop:=by omega
 have hr:n % 2^drop=0:=Nat.mod_eq_zero_of_dvd hd
 have hp:0<2^drop:=Nat.pow_pos (by omega)
 have hp':(2^drop:Nat)≠0:=by omega
 simp only [hm,Nat.one_shiftLeft,hr]
 cases way<;>simp [hp,hp']
theorem cut_zero (way:Toward) (n:Nat):way.cut false n 0=n:=by
 unfold Toward.cut
 have hm:min 0 (n.log2+2)=0:=by omega
 simp only [hm]
 cases way<;>simp [Nat.mod_one]
theorem nearest_scale (f:Format) (m k:Nat) (place:Int) (hm:m<2^(f.fractionBits+1)) (hp:f.leastPlace≤place+k):
 f.nearest false (m*2^k) place=f.nearest false m (place+k):=by
 by_cases h0:m=0
 ·subst h0;simp [Format.nearest]
 ·have hpk:0<2^k:=Nat.pow_pos (by omega)
  have hne:m*2^k≠0:=Nat.mul_ne_zero h0 (by omega)
  have hL:m.log2≤f.fractionBits:=by
   have:=(Nat.log2_lt h0).2 hm;omega
  unfold Format.nearest
  rw [if_neg hne,if_neg h0]
  rw [log2_mul_pow m k h0]
  have hlast:max (place+((m.log2+k:Nat):Int) - f.fractionBits) f.leastPlace=max (place+k+(m.log2:Int) - f.fractionBits) f.leastPlace:=by
   congr 1;push_cast;omega
  simp only [hlast]
  obtain ⟨last,hl⟩: ∃last,last=max (place+k+(m.log2:Int) - f.fractionBits) f.leastPlace:=⟨_,rfl⟩
  rw [←hl]
  have hle:last≤place+k:=by rw [hl];omega
  have key:Toward.even.cut false ((m*2^k)<<<(place - last).toNat) (last - place).toNat=Toward.even.cut false (m<<<(place+k - last).toNat) (last - (place+k)).toNat:=by
   have e2:(last - (place+k)).toNat=0:=by omega
   rw [e2,cut_zero,Nat.shiftLeft_eq,Nat.shiftLeft_eq]
   rcases Int.le_total last place with h|h
   ·have e1:(last - place).toNat=0:=by omega
    rw [e1,cut_zero,Nat.mul_assoc,←Nat.pow_add]
    congr 2;omega
   ·have e1:(place - last).toNat=0:=by omega
    have e3:k=(place+k - last).toNat+(last - place).toNat:=by omega
    rw [e1,Nat.pow_zero,Nat.mul_one]
    have hdv:m*2^k=m*2^(place+k - last).toNat*2^(last - place).toNat:=by
     rw [Nat.mul_assoc,←Nat.pow_add,←e3]
    rw [cut_exact _ _ _ (by rw [log2_mul_pow m k h0];omega) hne (by rw [hdv];exact Nat.dvd_mul_left _ _)]
    rw [hdv]
    exact Nat.mul_div_cancel _ (Nat.pow_pos (by omega))
  rw [key]
theorem read_nearest (f:Format) (hE:2≤f.exponentBits) (hfb:f.fractionBits<2^(f.exponentBits - 1)) (n:Nat) (place:Int) (hn:n<2^(f.fractionBits+1)) (h1:f.leastPlace+f.fractionBits≤place) (h2:place≤0):
 ∃mag i,f.read (f.nearest false n place)= .number false mag i∧i≤place∧mag=n*2^(place - i).toNat∧f.leastPlace≤i:=by
 by_cases h0:n=0
 ·subst h0
  refine ⟨0,f.leastPlace,?_,by omega,by simp,Int.le_refl _⟩
  have hb:0<f.binade:=Nat.pow_pos (by omega)
  have hs:0<f.signWeight:=Nat.pow_pos (by omega)
  simp [Format.nearest,Format.word,Format.read,hb]
 ·have hL:n.log2≤f.fractionBits:=by
   have:=(Nat.log2_lt h0).2 hn;omega
  obtain ⟨d,hd⟩: ∃d,d=f.fractionBits - n.log2:=⟨_,rfl⟩
  have hlast:max (place+(n.log2:Int) - f.fractionBits) f.leastPlace=place - d:=by omega
  have hlo:2^f.fractionBits≤n*2^d:=by
   have:=Nat.log2_self_le h0
   calc 2^f.fractionBits=2^n.log2*2^d:=by rw [←Nat.pow_add];congr 1;omega
    _≤n*2^d:=Nat.mul_le_mul_right _ this
  have hhi:n*2^d<2^f.fractionBits*2:=by
   have:=Nat.lt_log2_self (n:=n)
   calc n*2^d<2^(n.log2+1)*2^d:=Nat.mul_lt_mul_of_pos_right this (Nat.pow_pos (by omega))
    _=2^f.fractionBits*2:=by rw [←Nat.pow_add,←Nat.pow_succ];congr 1;omega
  have hnear:f.nearest false n place=min ((place - d - f.leastPlace).toNat*f.binade+n*2^d) f.infRung:=by
   unfold Format.nearest
   rw [if_neg h0]
   simp only [hlast]
   have e1:(place - (place - d)).toNat=d:=by omega
   have e2:(place - (d:Int) - place).toNat=0:=by omega
   rw [e1,e2,cut_zero,Nat.shiftLeft_eq]
   rfl
  obtain ⟨q,hq⟩: ∃q,q=(place - d - f.leastPlace).toNat:=⟨_,rfl⟩
  obtain ⟨r,hr⟩: ∃r,n*2^d=2^f.fractionBits+r:=⟨n*2^d - 2^f.fractionBits,by omega⟩
  have hrlt:r<2^f.fractionBits:=by omega
  have hexp:(2:Nat)^f.exponentBits=2*2^(f.exponentBits - 1):=by rw [←Nat.pow_succ'];congr 1;omega
  have hhalf:2≤2^(f.exponentBits - 1):=by
   calc 2=2^1:=rfl
    _≤_:=Nat.pow_le_pow_right (by omega) (by omega)
  have hleast:f.leastPlace=2 - ((2^(f.exponentBits - 1):Nat):Int) - f.fractionBits:=by
   unfold Format.leastPlace;push_cast;rfl
  have hqlt:q+1<2^f.exponentBits - 1:=by
   rw [hq,hexp];omega
  have hb:f.binade=2^f.fractionBits:=rfl
  have hrung:q*f.binade+n*2^d=(q+1)*f.binade+r:=by rw [hr,Nat.add_mul,hb];omega
  have hinf:(q+1)*f.binade+r<f.infRung:=by
   unfold Format.infRung
   calc (q+1)*f.binade+r<(q+1)*f.binade+f.binade:=by rw [hb];omega
    _=(q+2)*f.binade:=by rw [←Nat.succ_mul]
    _≤(2^f.exponentBits - 1)*f.binade:=Nat.mul_le_mul_right _ (by omega)
  have hsw:f.signWeight=2^f.exponentBits*f.binade:=by unfold Format.signWeight Format.binade;rw [Nat.pow_add]
  have hlt:(q+1)*f.binade+r<f.signWeight:=by
   refine Nat.lt_of_lt_of_le hinf ?_
   rw [hsw];unfold Format.infRung;exact Nat.mul_le_mul_right _ (by omega)
  refine ⟨n*2^d,place - d,?_,by omega,by congr 2;omega,by omega⟩
  rw [hnear,←hq,hrung,Nat.min_eq_left (Nat.le_of_lt hinf)]
  unfold Format.read
  have hbp:0<f.binade:=Nat.pow_pos (by omega)
  have a1:((q+1)*f.binade+r)/f.signWeight=0:=Nat.div_eq_of_lt hlt
  have a2:((q+1)*f.binade+r) % f.signWeight=(q+1)*f.binade+r:=Nat.mod_eq_of_lt hlt
  have a3: ¬ ((q+1)*f.binade+r<f.binade):=by
   have:1*f.binade≤(q+1)*f.binade:=Nat.mul_le_mul_right _ (by omega)
   omega
  have a4:((q+1)*f.binade+r) % f.binade=r:=by
   rw [Nat.mul_comm,Nat.mul_add_mod];exact Nat.mod_eq_of_lt hrlt
  have a5:((q+1)*f.binade+r)/f.binade=q+1:=by
   rw [Nat.mul_comm,Nat.mul_add_div hbp,Nat.div_eq_of_lt (show r<f.binade from hrlt)]
  simp only [a1,a2,a3,hinf,if_false,if_true,a4,a5]
  congr 1
  ·rw [hr,hb]
  ·rw [hq];omega
variable (f:Format) (hE:2≤f.exponentBits) (hfb:f.fractionBits<2^(f.exponentBits - 1))
include hE hfb
theorem mul_exact (n m j j':Nat) (hn:n<2^(f.fractionBits+1)) (hm:m<2^(f.fractionBits+1)) (hnm:n*m<2^(f.fractionBits+1)) (hj:f.leastPlace+f.fractionBits≤ -((j+j':Nat):Int)):
 f.mul (f.nearest false n (-(j:Int))) (f.nearest false m (-(j':Int)))=some (f.nearest false (n*m) (-((j+j':Nat):Int))):=by
 obtain ⟨a,i,h1,h2,h3,h4⟩:=read_nearest f hE hfb n (-(j:Int)) hn (by omega) (by omega)
 obtain ⟨b,k,h5,h6,h7,h8⟩:=read_nearest f hE hfb m (-(j':Int)) hm (by omega) (by omega)
 unfold Format.mul
 rw [h1,h5]
 simp only [Datum.product,Option.map_some,Format.write,Bool.xor_self]
 have e:a*b=n*m*2^((-(j:Int) - i).toNat+(-(j':Int) - k).toNat):=by
  rw [h3,h7,Nat.pow_add];simp only [Nat.mul_assoc,Nat.mul_left_comm,Nat.mul_comm]
 rw [e,nearest_scale f (n*m) _ _ hnm (by omega)]
 congr 2
 omega
theorem add_exact (n m j j' J:Nat) (h:j≤J) (h':j'≤J) (hJ:J=max j j') (hn:n<2^(f.fractionBits+1)) (hm:m<2^(f.fractionBits+1)) (hnm:n*2^(J - j)+m*2^(J - j')<2^(f.fractionBits+1)) (hj:f.leastPlace+f.fractionBits≤ -(J:Int)):
 f.add (f.nearest false n (-(j:Int))) (f.nearest false m (-(j':Int)))=some (f.nearest false (n*2^(J - j)+m*2^(J - j')) (-(J:Int))):=by
 obtain ⟨a,i,h1,h2,h3,h4⟩:=read_nearest f hE hfb n (-(j:Int)) hn (by omega) (by omega)
 obtain ⟨b,k,h5,h6,h7,h8⟩:=read_nearest f hE hfb m (-(j':Int)) hm (by omega) (by omega)
 unfold Format.add
 rw [h1,h5]
 simp only [Datum.sum,Option.map_some,Format.write,signed,Bool.false_eq_true,if_false,Bool.and_self]
 obtain ⟨B,hB⟩: ∃B,B=min i k:=⟨_,rfl⟩
 rw [←hB]
 have hBJ:B≤ -(J:Int):=by omega
 have e1:a<<<(i - B).toNat=n*2^(J - j)*2^(-(J:Int) - B).toNat:=by
  rw [Nat.shiftLeft_eq,h3,Nat.mul_assoc,Nat.mul_assoc,←Nat.pow_add,←Nat.pow_add];congr 2;omega
 have e2:b<<<(k - B).toNat=m*2^(J - j')*2^(-(J:Int) - B).toNat:=by
  rw [Nat.shiftLeft_eq,h7,Nat.mul_assoc,Nat.mul_assoc,←Nat.pow_add,←Nat.pow_add];congr 2;omega
 have e3:((a<<<(i - B).toNat:Nat):Int)+((b<<<(k - B).toNat:Nat):Int)=(((n*2^(J - j)+m*2^(J - j'))*2^(-(J:Int) - B).toNat:Nat):Int):=by
  rw [e1,e2,Nat.add_mul];push_cast;rfl
 rw [e3]
 have e4:(if (((n*2^(J - j)+m*2^(J - j'))*2^(-(J:Int) - B).toNat:Nat):Int)=0 then false else decide ((((n*2^(J - j)+m*2^(J - j'))*2^(-(J:Int) - B).toNat:Nat):Int)<0))=false:=by
  split
  ·rfl
  ·exact decide_eq_false (by omega)
 rw [e4,Int.natAbs_natCast,nearest_scale f _ _ _ hnm (by omega)]
 congr 2
 omega
theorem toInt_exact (n j:Nat) (hn:n<2^(f.fractionBits+1)) (hj:f.leastPlace+f.fractionBits≤ -(j:Int)):
 (f.read (f.nearest false n (-(j:Int)))).toInt .zero=some ((n/2^j:Nat):Int):=by
 obtain ⟨a,i,h1,h2,h3,h4⟩:=read_nearest f hE hfb n (-(j:Int)) hn (by omega) (by omega)
 rw [h1]
 simp only [Datum.toInt,Datum.integral,signed,Bool.false_eq_true,if_false,Nat.shiftLeft_zero]
 congr 2
 have e0:i.toNat=0:=by omega
 rw [e0,Nat.shiftLeft_zero]
 unfold Toward.cut
 simp only [Nat.one_shiftLeft,Bool.toNat_false,Nat.add_zero]
 have e1:(-i).toNat=j+(-(j:Int) - i).toNat:=by omega
 have hdiv:a/2^(-i).toNat=n/2^j:=by
  rw [e1,h3,Nat.pow_add]
  exact Nat.mul_div_mul_right _ _ (Nat.pow_pos (by omega))
 rcases Nat.le_total (-i).toNat (a.log2+2) with h|h
 ·rw [Nat.min_eq_left h];exact hdiv
 ·rw [Nat.min_eq_right h,←hdiv]
  have h5:a<2^(a.log2+2):=Nat.lt_of_lt_of_le Nat.lt_log2_self (Nat.pow_le_pow_right (by omega) (by omega))
  rw [Nat.div_eq_of_lt h5,Nat.div_eq_of_lt (Nat.lt_of_lt_of_le h5 (Nat.pow_le_pow_right (by omega) h))]
theorem order_exact (n m:Nat) (hn:n<2^(f.fractionBits+1)) (hm:m<2^(f.fractionBits+1)) (hj:f.leastPlace+f.fractionBits≤0):
 f.order (f.nearest false n 0) (f.nearest false m 0)=some (compare n m):=by
 obtain ⟨a,i,h1,h2,h3,h4⟩:=read_nearest f hE hfb n 0 hn (by omega) (by omega)
 obtain ⟨b,k,h5,h6,h7,h8⟩:=read_nearest f hE hfb m 0 hm (by omega) (by omega)
 unfold Format.order
 rw [h1,h5]
 simp only [Datum.order,signed,Bool.false_eq_true,if_false,Option.some.injEq]
 have e1:a<<<(i - min i k).toNat=n*2^(-(min i k)).toNat:=by
  rw [Nat.shiftLeft_eq,h3,Nat.mul_assoc,←Nat.pow_add];congr 2;omega
 have e2:b<<<(k - min i k).toNat=m*2^(-(min i k)).toNat:=by
  rw [Nat.shiftLeft_eq,h7,Nat.mul_assoc,←Nat.pow_add];congr 2;omega
 rw [e1,e2]
 have hp:0<2^(-(min i k)).toNat:=Nat.pow_pos (by omega)
 generalize 2^(-(min i k)).toNat=q at hp
 have cmp: ∀A B:Int,compare A B=if A<B then .lt else if A=B then .eq else .gt:=fun _ _=>rfl
 rw [cmp]
 rcases Nat.lt_trichotomy n m with h|h|h
 ·rw [Nat.compare_eq_lt.2 h]
  have:n*q<m*q:=Nat.mul_lt_mul_of_pos_right h hp
  rw [if_pos (by omega)]
 ·subst h;rw [Nat.compare_eq_eq.2 rfl,if_neg (by omega),if_pos rfl]
 ·rw [Nat.compare_eq_gt.2 h]
  have:m*q<n*q:=Nat.mul_lt_mul_of_pos_right h hp
  rw [if_neg (by omega),if_neg (by omega)]
end Go.Sy
end
section
set_option autoImplicit true
set_option relaxedAutoImplicit true
set_option linter.unusedVariables false
set_option linter.unusedSimpArgs false
namespace Go.Sy
open Ieee
theorem cut_even_bd (n d:Nat) (hd:d≤n.log2):2*(Toward.even.cut false n d*2^d)≤2*n+2^d∧n/2^d≤Toward.even.cut false n d∧Toward.even.cut false n d≤n/2^d+1:=by
 unfold Toward.cut
 have hm:min d (n.log2+2)=d:=by omega
 simp only [hm,Nat.one_shiftLeft]
 have hp:0<2^d:=Nat.pow_pos (by omega)
 have h1:=Nat.div_add_mod n (2^d)
 have h2:=Nat.mod_lt n hp
 generalize 2^d=g at*
 generalize n/g=q at*
 generalize n % g=r at*
 by_cases hc:(decide (g<2*r)||g==2*r&&q % 2==1)=true
 ·have hr:g≤2*r:=by
   simp only [Bool.or_eq_true,decide_eq_true_eq,Bool.and_eq_true,beq_iff_eq] at hc
   omega
  rw [hc]
  simp only [Bool.toNat_true,Nat.add_mul,Nat.one_mul]
  have:q*g=g*q:=Nat.mul_comm _ _
  omega
 ·have hc':(decide (g<2*r)||g==2*r&&q % 2==1)=false:=by simpa using hc
  rw [hc']
  simp only [Bool.toNat_false,Nat.add_zero]
  have:q*g=g*q:=Nat.mul_comm _ _
  omega
end Go.Sy
end
section
set_option autoImplicit true
set_option relaxedAutoImplicit true
set_option linter.unusedVariables false
set_option linter.unusedSimpArgs false
namespace Go.Sy
open Ieee
def Bin (f:Format) (w:Nat) (e:Int):Prop:= ∃m i,f.read w= .number false m i∧2^f.fractionBits≤m∧m<2*2^f.fractionBits∧i=e - f.fractionBits
theorem read_rung2 (f:Format) (q kept:Nat) (h1:2^f.fractionBits≤kept) (h2:kept≤2*2^f.fractionBits) (hq:q+3<2^f.exponentBits - 1):
 ∃mag i,f.read (min (q*f.binade+kept) f.infRung)= .number false mag i∧2^f.fractionBits≤mag∧mag<2*2^f.fractionBits∧(i=f.leastPlace+q∨(kept=2*2^f.fractionBits∧i=f.leastPlace+(q+1:Nat))):=by
 have hb:f.binade=2^f.fractionBits:=rfl
 have hbp:0<f.binade:=Nat.pow_pos (by omega)
 have hsw:f.signWeight=2^f.exponentBits*f.binade:=by unfold Format.signWeight Format.binade;rw [Nat.pow_add]
 obtain ⟨t,r,hk,hr,ht⟩: ∃t r,q*f.binade+kept=(t+1)*f.binade+r∧r<f.binade∧((t=q∧kept=f.binade+r)∨(t=q+1∧r=0∧kept=2*f.binade)):=by
  by_cases h:kept=2*f.binade
  ·exact ⟨q+1,0,by rw [h,Nat.add_mul,Nat.add_mul];omega,hbp,.inr ⟨rfl,rfl,h⟩⟩
  ·exact ⟨q,kept - f.binade,by rw [Nat.add_mul];omega,by omega,.inl ⟨rfl,by omega⟩⟩
 have htq:t≤q+1:=by rcases ht with h|h<;>omega
 have hinf:(t+1)*f.binade+r<f.infRung:=by
  unfold Format.infRung
  calc (t+1)*f.binade+r<(t+1)*f.binade+f.binade:=by omega
   _=(t+2)*f.binade:=by rw [←Nat.succ_mul]
   _≤(2^f.exponentBits - 1)*f.binade:=Nat.mul_le_mul_right _ (by omega)
 have hlt:(t+1)*f.binade+r<f.signWeight:=by
  refine Nat.lt_of_lt_of_le hinf ?_
  rw [hsw];unfold Format.infRung;exact Nat.mul_le_mul_right _ (by omega)
 rw [hk,Nat.min_eq_left (Nat.le_of_lt hinf)]
 have a1:((t+1)*f.binade+r)/f.signWeight=0:=Nat.div_eq_of_lt hlt
 have a2:((t+1)*f.binade+r) % f.signWeight=(t+1)*f.binade+r:=Nat.mod_eq_of_lt hlt
 have a3: ¬ ((t+1)*f.binade+r<f.binade):=by
  have:1*f.binade≤(t+1)*f.binade:=Nat.mul_le_mul_right _ (by omega)
  omega
 have a4:((t+1)*f.binade+r) % f.binade=r:=by
  rw [Nat.mul_comm,Nat.mul_add_mod];exact Nat.mod_eq_of_lt hr
 have a5:((t+1)*f.binade+r)/f.binade=t+1:=by
  rw [Nat.mul_comm,Nat.mul_add_div hbp,Nat.div_eq_of_lt hr]
 refine ⟨f.binade+r,f.leastPlace+(t:Nat),?_,by omega,by omega,?_⟩
 ·unfold Format.read
  simp only [a1,a2,a3,hinf,if_false,if_true,a4,a5]
  rfl
 ·rcases ht with ⟨rfl,h⟩|⟨rfl,rfl,h⟩
  ·exact .inl rfl
  ·exact .inr ⟨h,rfl⟩
theorem nearest_bin (f:Format) (M:Nat) (p:Int) (hM:M≠0) (hlo:f.leastPlace+f.fractionBits≤p+M.log2) (hhi:(p+M.log2 - f.fractionBits - f.leastPlace).toNat+3<2^f.exponentBits - 1):
 ∃e,Bin f (f.nearest false M p) e∧p+M.log2≤e∧e≤p+M.log2+1∧(M.log2≤f.fractionBits→e=p+M.log2):=by
 obtain ⟨L,hL⟩: ∃L,L=M.log2:=⟨_,rfl⟩
 rw [←hL] at hlo hhi⊢
 have hl1:2^L≤M:=by rw [hL];exact Nat.log2_self_le hM
 have hl2:M<2^(L+1):=by rw [hL];exact Nat.lt_log2_self
 have hlast:max (p+(L:Int) - f.fractionBits) f.leastPlace=p+L - f.fractionBits:=by omega
 have hnear: ∀K,Toward.even.cut false (M<<<(p - (p+L - f.fractionBits)).toNat) ((p+L - f.fractionBits) - p).toNat=K→f.nearest false M p=min ((p+L - f.fractionBits - f.leastPlace).toNat*f.binade+K) f.infRung:=by
  intro K hK
  unfold Format.nearest
  rw [if_neg hM]
  simp only [←hL,hlast,hK]
  rfl
 have fin: ∀K,Toward.even.cut false (M<<<(p - (p+L - f.fractionBits)).toNat) ((p+L - f.fractionBits) - p).toNat=K→2^f.fractionBits≤K→K≤2*2^f.fractionBits→(L≤f.fractionBits→K<2*2^f.fractionBits)→
  ∃e,Bin f (f.nearest false M p) e∧p+L≤e∧e≤p+L+1∧(L≤f.fractionBits→e=p+L):=by
  intro K hK h1 h2 h3
  rw [hnear K hK]
  obtain ⟨mag,i,r1,r2,r3,r4⟩:=read_rung2 f (p+L - f.fractionBits - f.leastPlace).toNat K h1 h2 (by omega)
  rcases r4 with r4|⟨r4,r5⟩
  ·exact ⟨p+L,⟨mag,i,r1,r2,r3,by omega⟩,by omega,by omega,fun _=>rfl⟩
  ·exact ⟨p+L+1,⟨mag,i,r1,r2,r3,by omega⟩,by omega,by omega,fun h=>by have:=h3 h;omega⟩
 rcases Nat.lt_or_ge L f.fractionBits with h|h
 ·have e1:(p - (p+L - f.fractionBits)).toNat=f.fractionBits - L:=by omega
  have e2:((p+L - f.fractionBits) - p).toNat=0:=by omega
  have hK:M<<<(f.fractionBits - L)=M*2^(f.fractionBits - L):=Nat.shiftLeft_eq _ _
  have k1:2^f.fractionBits≤M*2^(f.fractionBits - L):=by
   calc 2^f.fractionBits=2^L*2^(f.fractionBits - L):=by rw [←Nat.pow_add];congr 1;omega
    _≤_:=Nat.mul_le_mul_right _ hl1
  have k2:M*2^(f.fractionBits - L)<2*2^f.fractionBits:=by
   calc M*2^(f.fractionBits - L)<2^(L+1)*2^(f.fractionBits - L):=Nat.mul_lt_mul_of_pos_right hl2 (Nat.pow_pos (by omega))
    _=2*2^f.fractionBits:=by rw [←Nat.pow_add,show L+1+(f.fractionBits - L)=f.fractionBits+1 by omega,Nat.pow_succ];omega
  refine fin (M*2^(f.fractionBits - L)) ?_ k1 (Nat.le_of_lt k2) (fun _=>k2)
  rw [e1,e2,hK]
  unfold Toward.cut
  simp [Nat.mod_one]
 ·have e1:(p - (p+L - f.fractionBits)).toNat=0:=by omega
  have e2:((p+L - f.fractionBits) - p).toNat=L - f.fractionBits:=by omega
  obtain ⟨D,hD⟩: ∃D,D=L - f.fractionBits:=⟨_,rfl⟩
  obtain ⟨c1,c2,c3⟩:=cut_even_bd M D (by omega)
  have hDp:0<2^D:=Nat.pow_pos (by omega)
  have hMD:2^f.fractionBits*2^D≤M:=by
   rw [←Nat.pow_add,show f.fractionBits+D=L by omega];exact hl1
  have hMD2:M<2*2^f.fractionBits*2^D:=by
   rw [show 2*2^f.fractionBits=2^(f.fractionBits+1) by rw [Nat.pow_succ];omega,←Nat.pow_add,show f.fractionBits+1+D=L+1 by omega]
   exact hl2
  have k1:=(Nat.le_div_iff_mul_le hDp).2 hMD
  have k2:=(Nat.div_lt_iff_lt_mul hDp).2 hMD2
  refine fin (Toward.even.cut false M D) ?_ (Nat.le_trans k1 c2) (by omega) (fun hh=>?_)
  ·rw [e1,e2,Nat.shiftLeft_zero,hD]
  ·have hD0:D=0:=by omega
   subst hD0
   have:Toward.even.cut false M 0=M:=by unfold Toward.cut;simp [Nat.mod_one]
   rw [this]
   have:L=f.fractionBits:=by omega
   rw [this] at hl2
   rw [Nat.pow_succ] at hl2;omega
theorem order_big (f:Format) (hE:2≤f.exponentBits) (hfb:f.fractionBits<2^(f.exponentBits - 1)) (hfb0:f.fractionBits<62) (n m:Nat) (hn:n<2^63) (hm:m<2^(f.fractionBits+1)) (hj:f.leastPlace+f.fractionBits≤0)
 (hhi:(62 - f.fractionBits - f.leastPlace).toNat+3<2^f.exponentBits - 1):
 f.order (f.nearest false n 0) (f.nearest false m 0)=some (compare n m):=by
 rcases Nat.lt_or_ge n (2^(f.fractionBits+1)) with h|h
 ·exact order_exact f hE hfb n m h hm hj
 ·have hn0:n≠0:=by have:=Nat.pow_pos (a:=2) (n:=f.fractionBits+1) (by omega);omega
  have l1:=(Nat.le_log2 hn0).2 h
  have l2:=(Nat.log2_lt hn0).2 hn
  obtain ⟨e,⟨a,i,h1,h2,_,h4⟩,r2,r3,_⟩:=nearest_bin f n 0 hn0 (by omega) (by omega)
  obtain ⟨b,k,g1,g2,g3,g4⟩:=read_nearest f hE hfb m 0 hm (by omega) (by omega)
  rw [Nat.compare_eq_gt.2 (show m<n by omega)]
  unfold Format.order
  rw [h1,g1]
  simp only [Datum.order,signed,Bool.false_eq_true,if_false,Option.some.injEq]
  have hmin:min i k=k:=by omega
  rw [hmin,Nat.shiftLeft_eq,Nat.shiftLeft_eq]
  have e2:(k - k).toNat=0:=by omega
  have e3:(0 - k).toNat=(-k).toNat:=by omega
  rw [e2,Nat.pow_zero,Nat.mul_one]
  rw [e3] at g3
  have hlt:b<a*2^(i - k).toNat:=by
   obtain ⟨d,hd⟩: ∃d,(i - k).toNat=d+1+(-k).toNat:=⟨(i - k).toNat - 1 - (-k).toNat,by omega⟩
   rw [hd,Nat.pow_add,←Nat.mul_assoc,g3]
   refine Nat.mul_lt_mul_of_pos_right ?_ (Nat.pow_pos (by omega))
   have:2^f.fractionBits*2≤a*2^(d+1):=Nat.mul_le_mul h2 (by rw [Nat.pow_succ];have:=Nat.pow_pos (a:=2) (n:=d) (by omega);omega)
   rw [Nat.pow_succ] at hm
   omega
  have cmp: ∀A B:Int,compare A B=if A<B then .lt else if A=B then .eq else .gt:=fun _ _=>rfl
  rw [cmp,if_neg (by omega),if_neg (by omega)]
end Go.Sy
end
section
set_option autoImplicit true
set_option relaxedAutoImplicit true
set_option linter.unusedVariables false
set_option linter.unusedSimpArgs false
namespace Go.Sy
open Go
variable {E:Env} {β:Nat→Bk} {P:Program} {w:World}
def SV.eqable:SV→Bool
 | .bool _| .nilptr| .ptr .. | .nilslice| .slice .. | .nilmap| .map _| .nilfunc| .func .. | .nilif| .ifc .. =>true
 |_=>false
def isConst:Operand→Bool
 | .const _=>true
 |_=>false
def guardOk (x y:SV) (xo yo:Operand):Bool:=
 match x,y with
 | .nilif,.nilif=>isConst xo||isConst yo
 | .nilif,.opq _=>false
 | .nilif,.own _=>false
 | .nilif,.q _ _=>false
 | .nilif,.pa .. =>false
 | .nilif,.sa .. =>false
 |_,_=>true
theorem eqGuard_nil {op:BinOp} {T:TypeId} {xo yo:Operand} (h:(isConst xo||isConst yo)=true):
 (eqGuard op T xo yo .nilIface .nilIface).run P w= .ok () w:=by
 unfold eqGuard
 cases op<;>cases xo<;>cases yo<;>simp_all [isConst]
theorem eqGuard_plain {op:BinOp} {T:TypeId} {xo yo:Operand} {a b:Value} (ha: ∀cs,a≠ .agg cs) (h:a= .nilIface→b≠ .nilIface):
 (eqGuard op T xo yo a b).run P w= .ok () w:=by
 unfold eqGuard
 cases op<;>simp<;>cases a<;>simp_all
theorem eqGuard_ok {op:BinOp} {T:TypeId} {xo yo:Operand} {x y:SV} (hx:x.eqable=true) (h:guardOk x y xo yo=true):
 (eqGuard op T xo yo (x.den E β) (y.den E β)).run P w= .ok () w:=by
 cases x
 case nilif=>
  cases y
  case nilif=>exact eqGuard_nil h
  case opq=>simp [guardOk] at h
  case own=>simp [guardOk] at h
  case q=>simp [guardOk] at h
  case pa=>simp [guardOk] at h
  case sa=>simp [guardOk] at h
  all_goals exact eqGuard_plain (by simp only [SV.den];intro cs hh;cases hh) (by simp only [SV.den];intro _ hh;cases hh)
 all_goals first
  |(simp [SV.eqable] at hx;done)
  |exact eqGuard_plain (by simp only [SV.den];intro cs hh;cases hh) (by simp only [SV.den];intro hh;cases hh)
theorem binOp_eql {T:TypeId} {x:SV} (hx:x.eqable=true) (b:Value):binOp .eql T (x.den E β) b=(do pure (.bool (←Op.equal T (x.den E β) b))):=by
 cases x<;>simp only [SV.eqable] at hx<;>first
  |(cases hx;done)
  |(simp only [SV.den,binOp])
theorem binOp_neq {T:TypeId} {x:SV} (hx:x.eqable=true) (b:Value):binOp .neq T (x.den E β) b=(do pure (.bool (!(←Op.equal T (x.den E β) b)))):=by
 cases x<;>simp only [SV.eqable] at hx<;>first
  |(cases hx;done)
  |(simp only [SV.den,binOp])
def stripF:Nat→Nat→Int→Nat×Int
 |0,m,p=>(m,p)
 |n+1,m,p=>if m % 2=0∧p<0 then stripF n (m/2) (p+1) else (m,p)
def fxOf (v:SV):Option (FloatKind×SE×Nat):=
 match v with
 | .fx k e j=>some (k,e,j)
 | .flt k bits=>match k.format.read bits with
   | .number false mag place=>
     let q:=stripF 100 mag place
     if k.format.nearest false q.1 (-((-q.2).toNat:Int))=bits then some (k,.c q.1,(-q.2).toNat) else none
   |_=>none
 |_=>none
theorem fxOf_ok {v:SV} {k:FloatKind} {e:SE} {j:Nat} (h:fxOf v=some (k,e,j)):v.den E β= .float k (k.format.nearest false (e.den E).toNat (-(j:Int))):=by
 unfold fxOf at h
 split at h
 ·cases h;rfl
 ·split at h
  ·simp only at h
   split at h
   ·rename_i hq;cases h;simp only [SV.den,SE.den,Int.toNat_natCast,hq]
   ·cases h
  ·cases h
 ·cases h
def onNN (F:Fx) (e:SE) (k:RP):RP:=if nonneg F e then k else onB F (.mkLe (.c 0) e) k .dead
theorem onNN_val {F:Fx} (hF:Facts E F) {e:SE} {k:RP} {v:SV} (h:onNN F e k= .val v):0≤e.den E∧k= .val v:=by
 unfold onNN at h
 split at h
 ·rename_i hn;exact ⟨nonneg_ok hF hn,h⟩
 ·rcases onB_val hF h with ⟨h0,h⟩|⟨_,h⟩
  ·rw [SB.den_mkLe] at h0;exact ⟨of_decide_eq_true h0,h⟩
  ·cases h
def onLt (F:Fx) (e:SE) (n:Nat) (k:RP):RP:=onB F (.mkLt e (.c n)) k .dead
theorem onLt_val {F:Fx} (hF:Facts E F) {e:SE} {n:Nat} {k:RP} {v:SV} (h:onLt F e n k= .val v):e.den E<n∧k= .val v:=by
 unfold onLt at h
 rcases onB_val hF h with ⟨h0,h⟩|⟨_,h⟩
 ·rw [SB.den_mkLt] at h0;exact ⟨of_decide_eq_true h0,h⟩
 ·cases h
def fBig (k:FloatKind):Nat:=2^(k.format.fractionBits+1)
def wordOf:SV→Option (FloatKind×SE)
 | .fw k e=>some (k,e)
 | .flt k n=>some (k,.c n)
 | .fx k e j=>match e with
   | .c m=>some (k,.c (k.format.nearest false m.toNat (-(j:Int)):Nat))
   |e=>some (k,.ap 1000 (.i (.c (kcode k)) (.i e (.i (.c j) .nil))))
 |_=>none
theorem wordOf_ok {v:SV} {k:FloatKind} {e:SE} (h:wordOf v=some (k,e)):v.den E β= .float k (e.den E).toNat:=by
 unfold wordOf at h
 split at h
 ·cases h;rfl
 ·cases h;simp only [SV.den,SE.den,Int.toNat_natCast]
 ·split at h
  ·cases h;simp only [SV.den,SE.den,Int.toNat_natCast]
  ·rename_i e' j _ _
   cases h
   simp only [SV.den]
   have:(SE.ap 1000 (.i (.c (kcode k)) (.i e' (.i (.c (j:Int)) .nil)))).den E=E.fn.f 1000 [.i (kcode k),.i (e'.den E),.i (j:Int)]:=rfl
   rw [this,E.fn.fb 1000 _ (Nat.le_refl _)]
   simp only [fbase,kof_kcode,Int.toNat_natCast]
 ·cases h
def opCode:BinOp→Option Int
 | .add=>some 0
 | .sub=>some 1
 | .mul=>some 2
 | .quo=>some 3
 |_=>none
def sFlw (F:Fx) (op:BinOp) (x y:SV):RP:=
 match opCode op,wordOf x,wordOf y with
 |some o,some (k,a),some (k',b)=>if k=k' then
   match a,b with
   | .c m,.c n=>match fopt o k m.toNat n.toNat with
     |some r=> .val (.flt k r)
     |none=> .no
   |a,b=>onB F (.ap 1001 (.i (.c o) (.i (.c (kcode k)) (.i a (.i b .nil))))) (.val (.fw k (.ap 1001 (.i (.c o) (.i (.c (kcode k)) (.i a (.i b .nil))))))) .dead
  else .no
 |_,_,_=> .no
theorem floatArith_run {op:BinOp} {o:Int} (ho:opCode op=some o) {k:FloatKind} {x y r:Nat} (h:fopt o k x y=some r) (T:TypeId):(binOp op T (.float k x) (.float k y)).run P w= .ok (.float k r) w:=by
 cases op<;>simp only [opCode,Option.some.injEq,reduceCtorEq] at ho<;>subst ho<;>simp only [fopt] at h<;>simp at h<;>
  simp [binOp,Op.floatArith,h]
theorem sFlw_ok {F:Fx} (hF:Facts E F) {op:BinOp} {T:TypeId} {x y:SV} {xo yo:Operand} {v:SV} (h:sFlw F op x y= .val v):
 ((do eqGuard op T xo yo (x.den E β) (y.den E β);binOp op T (x.den E β) (y.den E β)):Sem Value).run P w= .ok (v.den E β) w:=by
 unfold sFlw at h
 split at h
 ·rename_i o k a k' b ho hx hy
  split at h
  ·rename_i hk
   subst hk
   rw [wordOf_ok hx,wordOf_ok hy,Sem.run_bind,eqGuard_plain (by simp) (by simp),Result.andThen_ok]
   split at h
   ·split at h
    ·rename_i m n _ _ r hr
     cases h
     exact floatArith_run ho hr T
    ·cases h
   ·rcases onB_val hF h with ⟨h0,h⟩|⟨_,h⟩
    ·cases h
     have e1:(SB.ap 1001 (.i (.c o) (.i (.c (kcode k)) (.i a (.i b .nil))))).den E=E.fn.g 1001 [.i o,.i (kcode k),.i (a.den E),.i (b.den E)]:=rfl
     rw [e1,E.fn.gb 1001 _ (by decide)] at h0
     simp only [gbase,kof_kcode] at h0
     obtain ⟨r,hr⟩:=Option.isSome_iff_exists.1 h0
     rw [floatArith_run ho hr T]
     have e2:(SE.ap 1001 (.i (.c o) (.i (.c (kcode k)) (.i a (.i b .nil))))).den E=E.fn.f 1001 [.i o,.i (kcode k),.i (a.den E),.i (b.den E)]:=rfl
     simp only [SV.den]
     rw [e2,E.fn.fb 1001 _ (by decide)]
     simp only [fbase,kof_kcode,hr,Option.getD_some,Int.toNat_natCast]
    ·cases h
  ·cases h
 ·cases h
def bigF (v:SV):Bool:=match v with
 | .fw .. =>true
 | .flt .. =>match fxOf v with
   |some (_,.c m,_)=>decide (1048576≤m)
   |_=>true
 |_=>false
def constF:SV→Bool
 | .flt .. =>true
 | .fx _ (.c _) _=>true
 |_=>false
def sFloat (F:Fx) (op:BinOp) (x y:SV):RP:=
 if bigF x||bigF y||(constF x&&constF y) then sFlw F op x y else
 match fxOf x,fxOf y with
 |some (k,a,j),some (k',b,j')=>if k=k'∧j+j'≤60 then
   match op with
   | .mul=>onNN F a (onNN F b (onLt F a (fBig k) (onLt F b (fBig k) (onLt F (.mkMul a b) (fBig k) (.val (.fx k (.mkMul a b) (j+j')))))))
   | .add=>onNN F a (onNN F b (onLt F a (fBig k) (onLt F b (fBig k) (onLt F (.mkAdd (.mkMul a (.c ((2^(max j j' - j):Nat):Int))) (.mkMul b (.c ((2^(max j j' - j'):Nat):Int)))) (fBig k)
      (.val (.fx k (.mkAdd (.mkMul a (.c ((2^(max j j' - j):Nat):Int))) (.mkMul b (.c ((2^(max j j' - j'):Nat):Int)))) (max j j')))))))
   | .quo=>sFlw F op x y
   | .lss=>if j=0∧j'=0 then onNN F a (onNN F b (onLt F a (2^63) (onLt F b (fBig k) (.val (.bool (.mkLt a b)))))) else .no
   |_=> .no
  else .no
 |_,_=> .no
theorem fmt_ok (k:FloatKind):2≤k.format.exponentBits∧k.format.fractionBits<2^(k.format.exponentBits - 1)∧ ∀j:Nat,j≤60→k.format.leastPlace+k.format.fractionBits≤ -(j:Int):=by
 cases k
 ·refine ⟨by decide,by decide,fun j hj=>?_⟩
  have:(FloatKind.f32).format.leastPlace+(FloatKind.f32).format.fractionBits= -126:=by decide
  omega
 ·refine ⟨by decide,by decide,fun j hj=>?_⟩
  have:(FloatKind.f64).format.leastPlace+(FloatKind.f64).format.fractionBits= -1022:=by decide
  omega
theorem sFloat_ok {F:Fx} (hF:Facts E F) {op:BinOp} {T:TypeId} {x y:SV} {xo yo:Operand} {v:SV} (h:sFloat F op x y= .val v):
 ((do eqGuard op T xo yo (x.den E β) (y.den E β);binOp op T (x.den E β) (y.den E β)):Sem Value).run P w= .ok (v.den E β) w:=by
 unfold sFloat at h
 split at h
 ·exact sFlw_ok hF h
 split at h
 ·rename_i k a j k' b j' hx hy
  split at h
  ·rename_i hc
   obtain ⟨rfl,hj⟩:=hc
   rw [fxOf_ok hx,fxOf_ok hy,Sem.run_bind,eqGuard_plain (by simp) (by simp),Result.andThen_ok]
   obtain ⟨f1,f2,f3⟩:=fmt_ok k
   split at h
   ·obtain ⟨a0,h⟩:=onNN_val hF h
    obtain ⟨b0,h⟩:=onNN_val hF h
    obtain ⟨a1,h⟩:=onLt_val hF h
    obtain ⟨b1,h⟩:=onLt_val hF h
    obtain ⟨c1,h⟩:=onLt_val hF h
    cases h
    rw [SE.den_mkMul] at c1
    obtain ⟨n,hn⟩:=Int.eq_ofNat_of_zero_le a0
    obtain ⟨m,hm⟩:=Int.eq_ofNat_of_zero_le b0
    rw [hn] at a1 c1;rw [hm] at b1 c1
    have c2:n*m<fBig k:=by have:((n*m:Nat):Int)<(fBig k:Nat):=by push_cast;exact c1
                           omega
    have:=mul_exact k.format f1 f2 n m j j' (by unfold fBig at a1;omega) (by unfold fBig at b1;omega) c2 (f3 _ hj)
    simp only [binOp,ne_eq,not_true_eq_false,if_false,Op.floatArith,hn,hm,Int.toNat_natCast,Sem.run_bind,Sem.run_pure,Result.andThen_ok,this,SV.den,SE.den_mkMul]
    rw [←Int.natCast_mul,Int.toNat_natCast]
   ·obtain ⟨a0,h⟩:=onNN_val hF h
    obtain ⟨b0,h⟩:=onNN_val hF h
    obtain ⟨a1,h⟩:=onLt_val hF h
    obtain ⟨b1,h⟩:=onLt_val hF h
    obtain ⟨c1,h⟩:=onLt_val hF h
    cases h
    rw [SE.den_mkAdd,SE.den_mkMul,SE.den_mkMul] at c1
    simp only [SE.den] at c1
    obtain ⟨n,hn⟩:=Int.eq_ofNat_of_zero_le a0
    obtain ⟨m,hm⟩:=Int.eq_ofNat_of_zero_le b0
    rw [hn] at a1 c1;rw [hm] at b1 c1
    have c2:n*2^(max j j' - j)+m*2^(max j j' - j')<fBig k:=by
     have:((n*2^(max j j' - j)+m*2^(max j j' - j'):Nat):Int)<(fBig k:Nat):=by push_cast;push_cast at c1;exact c1
     omega
    have:=add_exact k.format f1 f2 n m j j' (max j j') (by omega) (by omega) rfl (by unfold fBig at a1;omega) (by unfold fBig at b1;omega) c2 (f3 _ (by omega))
    simp only [binOp,ne_eq,not_true_eq_false,if_false,Op.floatArith,hn,hm,Int.toNat_natCast,Sem.run_bind,Sem.run_pure,Result.andThen_ok,this,SV.den,SE.den_mkMul,SE.den_mkAdd,SE.den]
    rw [←Int.natCast_mul,←Int.natCast_mul,←Int.natCast_add,Int.toNat_natCast]
   ·have:=sFlw_ok (T:=T) (xo:=xo) (yo:=yo) (P:=P) (w:=w) (β:=β) hF h
    rw [fxOf_ok hx,fxOf_ok hy,Sem.run_bind,eqGuard_plain (by simp) (by simp),Result.andThen_ok] at this
    exact this
   ·split at h
    ·rename_i hjj
     obtain ⟨rfl,rfl⟩:=hjj
     obtain ⟨a0,h⟩:=onNN_val hF h
     obtain ⟨b0,h⟩:=onNN_val hF h
     obtain ⟨a1,h⟩:=onLt_val hF h
     obtain ⟨b1,h⟩:=onLt_val hF h
     cases h
     obtain ⟨n,hn⟩:=Int.eq_ofNat_of_zero_le a0
     obtain ⟨m,hm⟩:=Int.eq_ofNat_of_zero_le b0
     rw [hn] at a1;rw [hm] at b1
     have:=order_big k.format f1 f2 (by cases k<;>decide) n m (by omega) (by unfold fBig at b1;omega) (f3 0 (by omega)) (by cases k<;>decide)
     simp only [binOp,ne_eq,not_true_eq_false,if_false,Op.floatCmp,hn,hm,Int.toNat_natCast,SV.den,SB.den_mkLt]
     simp only [Int.natCast_zero,Int.neg_zero,this]
     rw [Sem.run_pure]
     congr 2
     rcases Nat.lt_trichotomy n m with h|h|h
     ·rw [Nat.compare_eq_lt.2 h,decide_eq_true (by omega)];rfl
     ·subst h;rw [Nat.compare_eq_eq.2 rfl,decide_eq_false (by omega)];rfl
     ·rw [Nat.compare_eq_gt.2 h,decide_eq_false (by omega)];rfl
    ·cases h
   ·cases h
  ·cases h
 ·cases h
def sBin (P:Program) (F:Fx) (h:List SBlk) (op:BinOp) (T:TypeId) (x y:SV) (xo yo:Operand):RP:=
 match x,y with
 | .int k a,.int j b=>
   match op with
   | .shl=>shiftS F .shl k a b
   | .shr=>shiftS F .shr k a b
   |op=>if k=j then binInt F op k a b else .no
 |x,y=>
  match op with
  | .eql=>if x.eqable&&guardOk x y xo yo then match eqv P h T x y with|some r=> .val (.bool r)|none=> .no else match aggEq P T x y with|some r=> .val (.bool r)|none=> .no
  | .neq=>if x.eqable&&guardOk x y xo yo then match eqv P h T x y with|some r=> .val (.bool (.mkNot r))|none=> .no else match aggEq P T x y with|some r=> .val (.bool (.mkNot r))|none=> .no
  |op=>sFloat F op x y
theorem eqGuard_int {op:BinOp} {T:TypeId} {xo yo:Operand} (k j:IntKind) (a b:Int):(eqGuard op T xo yo (.int k a) (.int j b)).run P w= .ok () w:=
 eqGuard_plain (by simp) (by simp)
theorem sBin_ok {F:Fx} (hF:Facts E F) {h:List SBlk} (hw:HOk E β h w) {op:BinOp} {T:TypeId} {x y:SV} {xo yo:Operand} {v:SV} (hr:sBin P F h op T x y xo yo= .val v):
 ((do eqGuard op T xo yo (x.den E β) (y.den E β);binOp op T (x.den E β) (y.den E β)):Sem Value).run P w= .ok (v.den E β) w:=by
 unfold sBin at hr
 split at hr
 ·rename_i k a j b
  simp only [SV.den]
  rw [Sem.run_bind,eqGuard_int,Result.andThen_ok]
  split at hr
  ·exact shiftS_ok hF T hr
  ·exact shiftS_ok hF T hr
  ·split at hr
   ·rename_i hk;subst hk;exact binInt_ok hF T hr
   ·cases hr
 ·rename_i x y hne
  split at hr
  ·split at hr
   ·rename_i hg
    simp only [Bool.and_eq_true] at hg
    split at hr
    ·rename_i r hq
     cases hr
     rw [Sem.run_bind,eqGuard_ok hg.1 hg.2,Result.andThen_ok,binOp_eql hg.1]
     simp [eqv_ok hw hq,SV.den]
    ·cases hr
   ·split at hr
    ·rename_i r hq
     cases hr
     obtain ⟨xs,ys,e1,e2,hg,hq⟩:=aggEq_ok (E:=E) (β:=β) (w:=w) hq
     rw [e1,e2,Sem.run_bind,run_eqGuard_agg _ _ _ _ _ _ _ hg,Result.andThen_ok,run_eql_struct,hq]
     rfl
    ·cases hr
  ·split at hr
   ·rename_i hg
    simp only [Bool.and_eq_true] at hg
    split at hr
    ·rename_i r hq
     cases hr
     rw [Sem.run_bind,eqGuard_ok hg.1 hg.2,Result.andThen_ok,binOp_neq hg.1]
     simp [eqv_ok hw hq,SV.den,SB.den_mkNot]
    ·cases hr
   ·split at hr
    ·rename_i r hq
     cases hr
     obtain ⟨xs,ys,e1,e2,hg,hq⟩:=aggEq_ok (E:=E) (β:=β) (w:=w) hq
     rw [e1,e2,Sem.run_bind,run_eqGuard_agg _ _ _ _ _ _ _ hg,Result.andThen_ok,run_neq_struct,hq]
     simp [SV.den,SB.den_mkNot]
    ·cases hr
  ·exact sFloat_ok hF hr
def sUn (F:Fx) (op:UnOp) (x:SV):RP:=
 match op,x with
 | .neg,.int k n=> .val (.int k (wrapR F k (.mkSub (.c 0) n)))
 | .xor,.int k n=> .val (.int k (.mkBits .xor k (.c (if k.signed then -1 else k.max)) n))
 | .not,.bool b=> .val (.bool (.mkNot b))
 |_,_=> .no
theorem sUn_ok {F:Fx} (hF:Facts E F) {op:UnOp} {x:SV} {v:SV} (hr:sUn F op x= .val v):(Op.unary op (x.den E β)).run P w= .ok (v.den E β) w:=by
 unfold sUn at hr
 split at hr
 ·cases hr;simp [Op.unary,Op.intArith,SV.den,wrapR_ok hF,SE.den_mkSub,SE.den]
 ·cases hr;simp [Op.unary,Op.intBits,SV.den,SE.den_mkBits,SE.den,Go.bits]
 ·cases hr;simp [Op.unary,SV.den,SB.den_mkNot]
 ·cases hr
def sConv (P:Program) (F:Fx) (src dst:TypeId) (x:SV):RP:=
 match P.underlying src,P.underlying dst,x with
 |some _,some (.int k),.int _ n=> .val (.int k (wrapR F k n))
 |some .string,some .string,.str l=> .val (.str l)
 |some _,some (.float k),.int _ n=>onNN F n (.val (.fx k n 0))
 |some _,some (.int .i64),.fw k e=>onB F (.ap 1002 (.i (.c (kcode k)) (.i e .nil))) (.val (.int .i64 (.ap 1002 (.i (.c (kcode k)) (.i e .nil))))) .dead
 |some _,some (.int .i64),x=>match fxOf x with
  |some (k,e,j)=>if j≤60 then onNN F e (onLt F e (fBig k) (.val (.int .i64 (.mkTdiv e (.c ((2^j:Nat):Int)))))) else .no
  |none=> .no
 |_,_,_=> .no
theorem sConv_ok {F:Fx} (hF:Facts E F) {src dst:TypeId} {x:SV} {v:SV} (hr:sConv P F src dst x= .val v):(convert src dst (x.den E β)).run P w= .ok (v.den E β) w:=by
 unfold sConv at hr
 split at hr
 ·rename_i d k j n h1 h2
  cases hr
  simp only [convert,underlying,Sem.run_bind,run_program,Result.andThen_ok,h1,h2,Sem.run_pure,SV.den]
  cases d<;>simp [Conv.intToInt,wrapR_ok hF]
 ·rename_i h1 h2
  cases hr
  simp [convert,underlying,h1,h2,SV.den]
 ·rename_i d k j n h1 h2
  obtain ⟨h0,hr⟩:=onNN_val hF hr
  cases hr
  simp only [convert,underlying,Sem.run_bind,run_program,Result.andThen_ok,h1,h2,Sem.run_pure,SV.den]
  have e:k.nearest (n.den E)=k.format.nearest false (n.den E).toNat (-((0:Nat):Int)):=by
   unfold FloatKind.nearest FloatKind.encode
   have:decide (n.den E<0)=false:=decide_eq_false (by omega)
   rw [this]
   simp only [Ieee.Format.write]
   congr 1;omega
  cases d<;>simp [Conv.intToFloat,e]
 ·rename_i d k e h1 h2
  rcases onB_val hF hr with ⟨h0,hr⟩|⟨_,hr⟩
  ·cases hr
   have e1:(SB.ap 1002 (.i (.c (kcode k)) (.i e .nil))).den E=E.fn.g 1002 [.i (kcode k),.i (e.den E)]:=rfl
   rw [e1,E.fn.gb 1002 _ (by decide)] at h0
   simp only [gbase,kof_kcode] at h0
   have e2:(SE.ap 1002 (.i (.c (kcode k)) (.i e .nil))).den E=E.fn.f 1002 [.i (kcode k),.i (e.den E)]:=rfl
   simp only [convert,underlying,Sem.run_bind,run_program,Result.andThen_ok,h1,h2,Sem.run_pure,SV.den]
   rw [e2,E.fn.fb 1002 _ (by decide)]
   simp only [fbase,kof_kcode]
   cases ht:(k.decode (e.den E).toNat).toInt .zero with
   |none=>rw [ht] at h0;cases h0
   |some n=>
    rw [ht] at h0
    have h0:=of_decide_eq_true h0
    cases d<;>simp only [Conv.floatToInt,ht,h0,and_self,if_true,Sem.run_pure,Option.getD_some]
  ·cases hr
 ·rename_i d h1 h2 _ hne
  split at hr
  ·rename_i k e j hx
   split at hr
   ·rename_i hj
    obtain ⟨h0,hr⟩:=onNN_val hF hr
    obtain ⟨h3,hr⟩:=onLt_val hF hr
    cases hr
    rw [fxOf_ok hx]
    obtain ⟨f1,f2,f3⟩:=fmt_ok k
    obtain ⟨n,hn⟩:=Int.eq_ofNat_of_zero_le h0
    rw [hn] at h3
    have h4:n<fBig k:=by omega
    have:=toInt_exact k.format f1 f2 n j h4 (f3 _ hj)
    have hle:n/2^j≤n:=Nat.div_le_self _ _
    have hb:fBig k≤2^53:=by cases k<;>decide
    have hrng:IntKind.i64.min≤((n/2^j:Nat):Int)∧((n/2^j:Nat):Int)≤IntKind.i64.max:=by
     have m1:IntKind.i64.min= -9223372036854775808:=by decide
     have m2:IntKind.i64.max=9223372036854775807:=by decide
     rw [m1,m2]
     generalize n/2^j=q at hle⊢
     omega
    simp only [convert,underlying,Sem.run_bind,run_program,Result.andThen_ok,h1,h2,Sem.run_pure]
    have e2:(Int.tdiv (n:Int) ((2^j:Nat):Int))=((n/2^j:Nat):Int):=by
     rw [Int.tdiv_eq_ediv_of_nonneg (by omega)];rfl
    cases d<;>simp only [Conv.floatToInt,FloatKind.decode,hn,Int.toNat_natCast,this,hrng,and_self,if_true,Sem.run_pure,SV.den,SE.den_mkTdiv,SE.den,e2]
   ·cases hr
  ·cases hr
 ·cases hr
def sMkIf (P:Program) (T:TypeId) (x:SV):RP:=
 match P.underlying T with
 |some (.interface _)=> .no
 |some _=> .val (.ifc T x)
 |none=> .no
theorem sMkIf_ok {T:TypeId} {x:SV} {v:SV} (hr:sMkIf P T x= .val v):(Instr.makeInterface T (x.den E β)).run P w= .ok (v.den E β) w:=by
 unfold sMkIf at hr
 split at hr
 ·cases hr
 ·rename_i d hn hd
  cases hr
  simp only [Instr.makeInterface,underlying,Sem.run_bind,run_program,Result.andThen_ok,hd,Sem.run_pure,SV.den]
 ·cases hr
def sNil (x:SV):RP:=
 match x with
 | .nilptr| .nilif| .nilfunc=> .dead
 | .func (.method _) _ _=> .no
 | .opq _=> .no
 | .own _=> .no
 | .q _ _=> .no
 | .pa .. => .no
 | .sa .. => .no
 |x=> .val x
def isAggT (P:Program) (T:TypeId):Option Bool:=
 match P.underlying T with
 |some (.struct _)=>some true
 |some (.array _ _)=>some true
 |some _=>some false
 |none=>none
theorem isAggT_ok {T:TypeId} {b:Bool} (h:isAggT P T=some b):(isAgg T).run P w= .ok b w:=by
 unfold isAggT at h
 split at h
 ·rename_i hd;cases h;simp [isAgg,underlying,hd]
 ·rename_i hd;cases h;simp [isAgg,underlying,hd]
 ·rename_i d h1 h2 hd
  cases h
  simp only [isAgg,underlying,Sem.run_bind,run_program,Result.andThen_ok,hd,Sem.run_pure]
 ·cases h
def sizeT (P:Program) (T:TypeId):Option Nat:=(P.info? T).map (·.size)
theorem sizeT_ok {T:TypeId} {n:Nat} (h:sizeT P T=some n):(sizeOf T).run P w= .ok n w:=by
 simp only [sizeT,Option.map_eq_some_iff] at h
 obtain ⟨i,hi,rfl⟩:=h
 simp [sizeOf,typeInfo,hi]
def sPart (P:Program) (T:TypeId) (l:List SV) (off:Nat):RP:=
 match isAggT P T with
 |some true=>match sizeT P T with
  |some n=> .val (.agg ((l.drop off).take n))
  |none=> .no
 |some false=>match l[off]? with
  |some v=> .val v
  |none=> .no
 |none=> .no
theorem denL_extract (l:List SV) (a n:Nat):(SV.denL E β l).toArray.extract a (a+n)=(SV.denL E β ((l.drop a).take n)).toArray:=by
 rw [SV.denL_map,SV.denL_map]
 simp [List.map_drop,List.map_take,List.extract_eq_take_drop]
theorem denL_get {l:List SV} {i:Nat} {v:SV} (h:l[i]?=some v):(SV.denL E β l).toArray[i]?=some (v.den E β):=by
 rw [SV.denL_map];simp [h]
theorem sPart_ok {T:TypeId} {l:List SV} {off:Nat} {v:SV} (hr:sPart P T l off= .val v):(part T (SV.denL E β l).toArray off).run P w= .ok (v.den E β) w:=by
 unfold sPart at hr
 split at hr
 ·rename_i ha
  split at hr
  ·rename_i n hn
   cases hr
   simp only [part,Sem.run_bind,isAggT_ok ha,Result.andThen_ok,if_true,sizeT_ok hn,Sem.run_pure,SV.den]
   rw [denL_extract]
  ·cases hr
 ·rename_i ha
  split at hr
  ·rename_i u hu
   cases hr
   simp only [part,Sem.run_bind,isAggT_ok ha,Result.andThen_ok,denL_get hu]
   rfl
  ·cases hr
 ·cases hr
def sField (P:Program) (T:TypeId) (x:SV) (i:Nat):RP:=
 match P.underlying T,x with
 |some (.struct fs),.agg l=>match fs[i]? with
  |some f=>sPart P f.type l f.offset
  |none=> .no
 |_,_=> .no
theorem sField_ok {T:TypeId} {x:SV} {i:Nat} {v:SV} (hr:sField P T x i= .val v):(Instr.field T (x.den E β) i).run P w= .ok (v.den E β) w:=by
 unfold sField at hr
 split at hr
 ·rename_i fs l hd
  split at hr
  ·rename_i f hf
   simp only [Instr.field,underlying,Sem.run_bind,run_program,Result.andThen_ok,hd,Sem.run_pure,hf,SV.den,asAgg]
   exact sPart_ok hr
  ·cases hr
 ·cases hr
def sFieldAddr (P:Program) (T:TypeId) (x:SV) (i:Nat):RP:=
 match P.underlying T,x with
 |some (.struct fs),.ptr b o=>match fs[i]? with
  |some f=>match sizeT P f.type with
   |some n=>if n=0 then .no else .val (.ptr b { o with col:=o.col+f.offset })
   |none=> .no
  |none=> .no
 |_,_=> .no
def sNil2 (F:Fx) (x:SV):RP:=
 match x with
 | .pa e o=>onB F (.mkLe (.c 0) e) (.val (.pa e o)) .dead
 |x=>sNil x
theorem addr_add (b o n:Nat):(Addr.add ⟨b,o,none⟩ n)=⟨b,o+n,none⟩:=by
 unfold Addr.add;split<;>simp_all
theorem sFieldAddr_ok {T:TypeId} {x:SV} {i:Nat} {v:SV} (hr:sFieldAddr P T x i= .val v):(Instr.fieldAt T (x.den E β) i).run P w= .ok (v.den E β) w:=by
 unfold sFieldAddr at hr
 split at hr
 ·rename_i fs b o hd
  split at hr
  ·rename_i f hf
   split at hr
   ·rename_i n hn
    split at hr
    ·cases hr
    ·rename_i hz
     cases hr
     simp only [Instr.fieldAt,underlying,Sem.run_bind,run_program,Result.andThen_ok,hd,Sem.run_pure,hf,SV.den,Instr.sureAddr,fieldPlace,sizeT_ok hn,hz,if_false,addr_add,Off.den,Nat.add_assoc]
   ·cases hr
  ·cases hr
 ·cases hr
def sFieldAddr2 (P:Program) (F:Fx) (T:TypeId) (x:SV) (i:Nat):RP:=
 match P.underlying T,x with
 |some (.struct fs),.pa e (.c m)=>match fs[i]? with
  |some f=>match sizeT P f.type with
   |some n=>if n=0∨m<0 then .no else onB F (.mkLe (.c 0) e) (.val (.pa e (.c (m+f.offset)))) .dead
   |none=> .no
  |none=> .no
 |_,x=>sFieldAddr P T x i
theorem sFieldAddr2_ok {F:Fx} (hF:Facts E F) {T:TypeId} {x:SV} {i:Nat} {v:SV} (hr:sFieldAddr2 P F T x i= .val v):(Instr.fieldAt T (x.den E β) i).run P w= .ok (v.den E β) w:=by
 unfold sFieldAddr2 at hr
 split at hr
 ·rename_i fs e m hd
  split at hr
  ·rename_i f hf
   split at hr
   ·rename_i n hn
    split at hr
    ·cases hr
    ·rename_i hz
     rcases onB_val hF hr with ⟨hb,hr⟩|⟨hb,hr⟩
     ·cases hr
      rw [SB.den_mkLe] at hb
      have hb:0≤e.den E:=of_decide_eq_true hb
      have hz1:n≠0:=fun h0=>hz (.inl h0)
      simp only [Instr.fieldAt,underlying,Sem.run_bind,run_program,Result.andThen_ok,hd,Sem.run_pure,hf,SV.den,SE.den,hb,if_true,Instr.sureAddr,fieldPlace,sizeT_ok hn,hz1,if_false,addr_add]
      congr 4
      omega
     ·cases hr
   ·cases hr
  ·cases hr
 ·exact sFieldAddr_ok hr
end Go.Sy
end
end
