/- Terms put for variables; patterns of heaps and values, and what fits them. -/
import Derived.Test.YtjanndmmhjnpcaaDoorSyH
set_option autoImplicit true
set_option relaxedAutoImplicit true
set_option linter.unusedVariables false
set_option linter.unusedSimpArgs false
namespace Go.Sy
open Go
variable {E : Env} {β : Nat → Bk} {P : Program} {w : World}
def fnd {α : Type} (n : Nat) : List (Nat × α) → Option α
  | [] => none
  | (k, v) :: r => if k = n then some v else fnd n r
structure Sub where
  i : List (Nat × SE) := []
  b : List (Nat × SB) := []
  a : List (Nat × AE) := []
  o : List (Nat × SV) := []
  k : List (Nat × Option Nat) := []
  t : Option Tm := none
def SE.mkIte (b : SB) (x y : SE) : SE :=
  match b with
  | .c true => x
  | .c false => y
  | b => .ite b x y
theorem SE.den_mkIte (b : SB) (x y : SE) : (SE.mkIte b x y).den E = if b.den E then x.den E else y.den E := by
  unfold SE.mkIte; split <;> simp [SE.den, SB.den]
def SB.mkAnd (x y : SB) : SB :=
  match x with
  | .c true => y
  | .c false => .c false
  | x => .and x y
theorem SB.den_mkAnd (x y : SB) : (SB.mkAnd x y).den E = (x.den E && y.den E) := by
  unfold SB.mkAnd; split <;> simp [SB.den]
mutual
def SE.inst (S : Sub) : SE → SE
  | .c n => .c n
  | .v i => match fnd i S.i with | some e => e | none => .v i
  | .add x y => .mkAdd (x.inst S) (y.inst S)
  | .sub x y => .mkSub (x.inst S) (y.inst S)
  | .mul x y => .mkMul (x.inst S) (y.inst S)
  | .wrap k x => .mkWrap k (x.inst S)
  | .tdiv x y => .mkTdiv (x.inst S) (y.inst S)
  | .tmod x y => .mkTmod (x.inst S) (y.inst S)
  | .bits o k x y => .mkBits o k (x.inst S) (y.inst S)
  | .shl k x y => .mkShl k (x.inst S) (y.inst S)
  | .shr k x y => .mkShr k (x.inst S) (y.inst S)
  | .rd a o => .rd (a.inst S) (o.inst S)
  | .mn x y => .mkMn (x.inst S) (y.inst S)
  | .mx x y => .mkMx (x.inst S) (y.inst S)
  | .ni x y => .mkNi (x.inst S) (y.inst S)
  | .ite b x y => .mkIte (b.inst S) (x.inst S) (y.inst S)
  | .ap f l => .ap f (l.inst S)
def SB.inst (S : Sub) : SB → SB
  | .c b => .c b
  | .v i => match fnd i S.b with | some e => e | none => .v i
  | .lt x y => .mkLt (x.inst S) (y.inst S)
  | .le x y => .mkLe (x.inst S) (y.inst S)
  | .eq x y => .mkEq (x.inst S) (y.inst S)
  | .not x => .mkNot (x.inst S)
  | .beq x y => .mkBeq (x.inst S) (y.inst S)
  | .and x y => .mkAnd (x.inst S) (y.inst S)
  | .ap f l => .ap f (l.inst S)
def AE.inst (S : Sub) : AE → AE
  | .v i => match fnd i S.a with | some e => e | none => .v i
  | .ap f l => .ap f (l.inst S)
  | .tl a n l => .tl (a.inst S) (n.inst S) (l.inst S)
  | .ct a n b => .ct (a.inst S) (n.inst S) (b.inst S)
  | .up a i x => .up (a.inst S) (i.inst S) (x.inst S)
  | .dr a n => .dr (a.inst S) (n.inst S)
def SL.inst (S : Sub) : SL → SL
  | .nil => .nil
  | .i x r => .i (x.inst S) (r.inst S)
  | .b x r => .b (x.inst S) (r.inst S)
  | .a x r => .a (x.inst S) (r.inst S)
end
def Env.sub (E : Env) (β : Nat → Bk) (S : Sub) : Env where
  i j := match fnd j S.i with | some e => e.den E | none => E.i j
  b j := match fnd j S.b with | some e => e.den E | none => E.b j
  a j := match fnd j S.a with | some e => e.den E | none => E.a j
  o j := match fnd j S.o with | some v => v.den E β | none => match S.t with | some x => (x.get j).den E β | none => E.o j
  fn := E.fn
mutual
theorem SE.inst_ok (S : Sub) : ∀ (x : SE), (x.inst S).den E = x.den (E.sub β S)
  | .c n => rfl
  | .v i => by simp only [SE.inst, SE.den, Env.sub]; cases fnd i S.i <;> rfl
  | .add x y => by simp only [SE.inst, SE.den_mkAdd, SE.den, SE.inst_ok S x, SE.inst_ok S y]
  | .sub x y => by simp only [SE.inst, SE.den_mkSub, SE.den, SE.inst_ok S x, SE.inst_ok S y]
  | .mul x y => by simp only [SE.inst, SE.den_mkMul, SE.den, SE.inst_ok S x, SE.inst_ok S y]
  | .wrap k x => by simp only [SE.inst, SE.den_mkWrap, SE.den, SE.inst_ok S x]
  | .tdiv x y => by simp only [SE.inst, SE.den_mkTdiv, SE.den, SE.inst_ok S x, SE.inst_ok S y]
  | .tmod x y => by simp only [SE.inst, SE.den_mkTmod, SE.den, SE.inst_ok S x, SE.inst_ok S y]
  | .bits o k x y => by simp only [SE.inst, SE.den_mkBits, SE.den, SE.inst_ok S x, SE.inst_ok S y]
  | .shl k x y => by simp only [SE.inst, SE.den_mkShl, SE.den, SE.inst_ok S x, SE.inst_ok S y]
  | .shr k x y => by simp only [SE.inst, SE.den_mkShr, SE.den, SE.inst_ok S x, SE.inst_ok S y]
  | .rd a o => by simp only [SE.inst, SE.den, AE.inst_ok S a, SE.inst_ok S o]
  | .mn x y => by simp only [SE.inst, SE.den_mkMn, SE.den, SE.inst_ok S x, SE.inst_ok S y]
  | .mx x y => by simp only [SE.inst, SE.den_mkMx, SE.den, SE.inst_ok S x, SE.inst_ok S y]
  | .ni x y => by simp only [SE.inst, SE.den_mkNi, SE.den, SE.inst_ok S x, SE.inst_ok S y]
  | .ite b x y => by simp only [SE.inst, SE.den_mkIte, SE.den, SE.inst_ok S x, SE.inst_ok S y, SB.inst_ok S b]
  | .ap f l => by simp only [SE.inst, SE.den, SL.inst_ok S l]; rfl
theorem SB.inst_ok (S : Sub) : ∀ (x : SB), (x.inst S).den E = x.den (E.sub β S)
  | .c b => rfl
  | .v i => by simp only [SB.inst, SB.den, Env.sub]; cases fnd i S.b <;> rfl
  | .lt x y => by simp only [SB.inst, SB.den_mkLt, SB.den, SE.inst_ok S x, SE.inst_ok S y]
  | .le x y => by simp only [SB.inst, SB.den_mkLe, SB.den, SE.inst_ok S x, SE.inst_ok S y]
  | .eq x y => by simp only [SB.inst, SB.den_mkEq, SB.den, SE.inst_ok S x, SE.inst_ok S y]
  | .not x => by simp only [SB.inst, SB.den_mkNot, SB.den, SB.inst_ok S x]
  | .beq x y => by simp only [SB.inst, SB.den_mkBeq, SB.den, SB.inst_ok S x, SB.inst_ok S y]
  | .and x y => by simp only [SB.inst, SB.den_mkAnd, SB.den, SB.inst_ok S x, SB.inst_ok S y]
  | .ap f l => by simp only [SB.inst, SB.den, SL.inst_ok S l]; rfl
theorem AE.inst_ok (S : Sub) : ∀ (x : AE), (x.inst S).den E = x.den (E.sub β S)
  | .v i => by funext j; simp only [AE.inst, AE.den, Env.sub]; cases fnd i S.a <;> rfl
  | .ap f l => by funext j; simp only [AE.inst, AE.den, SL.inst_ok S l]; rfl
  | .tl a n l => by funext j; simp only [AE.inst, AE.den, AE.inst_ok S a, SE.inst_ok S n, SL.nth_inst S l]
  | .ct a n b => by funext j; simp only [AE.inst, AE.den, AE.inst_ok S a, SE.inst_ok S n, AE.inst_ok S b]
  | .up a i x => by funext j; simp only [AE.inst, AE.den, AE.inst_ok S a, SE.inst_ok S i, SE.inst_ok S x]
  | .dr a n => by funext j; simp only [AE.inst, AE.den, AE.inst_ok S a, SE.inst_ok S n]
theorem SL.inst_ok (S : Sub) : ∀ (x : SL), (x.inst S).den E = x.den (E.sub β S)
  | .nil => rfl
  | .i x r => by simp only [SL.inst, SL.den, SE.inst_ok S x, SL.inst_ok S r]
  | .b x r => by simp only [SL.inst, SL.den, SB.inst_ok S x, SL.inst_ok S r]
  | .a x r => by simp only [SL.inst, SL.den, AE.inst_ok S x, SL.inst_ok S r]
theorem SL.nth_inst (S : Sub) : ∀ (x : SL) (j : Nat), (x.inst S).nth E j = x.nth (E.sub β S) j
  | .nil, j => rfl
  | .i x r, j => by simp only [SL.inst, SL.nth, SE.inst_ok S x, SL.nth_inst S r]
  | .b x r, j => by simp only [SL.inst, SL.nth, SB.inst_ok S x, SL.nth_inst S r]
  | .a x r, j => by simp only [SL.inst, SL.nth, SL.nth_inst S r]
end
mutual
def SV.same : SV → SV → Bool
  | .int k e, .int j f => k == j && e == f
  | .bool a, .bool b => a == b
  | .flt k n, .flt j m => k == j && n == m
  | .str a, .str b => a == b
  | .nilptr, .nilptr => true
  | .ptr b o, .ptr c o2 => b == c && o == o2
  | .nilslice, .nilslice => true
  | .slice b o n c, .slice b' o' n' c' => b == b' && o == o' && n == n' && c == c'
  | .nilmap, .nilmap => true
  | .map b, .map c => b == c
  | .nilfunc, .nilfunc => true
  | .func f a c, .func g b d => f == g && SV.sameL a b && SV.sameL c d
  | .nilif, .nilif => true
  | .ifc t v, .ifc s u => t == s && SV.same v u
  | .agg a, .agg b => SV.sameL a b
  | .tup a, .tup b => SV.sameL a b
  | .opq i, .opq j => i == j
  | .own i, .own j => i == j
  | .fx k e j, .fx k' e' j' => k == k' && e == e' && j == j'
  | .fw k e, .fw k' e' => k == k' && e == e'
  | .pa e o, .pa e' o' => e == e' && o == o'
  | .sa e o l c, .sa e' o' l' c' => e == e' && o == o' && l == l' && c == c'
  | .q b e, .q c f => b == c && e == f
  | _, _ => false
def SV.sameL : List SV → List SV → Bool
  | [], [] => true
  | x :: r, y :: s => SV.same x y && SV.sameL r s
  | _, _ => false
end
mutual
theorem SV.same_ok : ∀ {x y : SV}, SV.same x y = true → x = y
  | .int k e, .int j f, h | .bool a, .bool b, h | .flt k n, .flt j m, h | .str a, .str b, h | .ptr b o, .ptr c o2, h | .map b, .map c, h | .opq i, .opq j, h | .own i, .own j, h | .fx k e i, .fx k' e' j, h | .fw k e, .fw k' e', h | .pa e o, .pa e' o', h | .sa e o l c, .sa e' o' l' c', h
  | .slice b o n c, .slice b' o' n' c', h | .q b e, .q c f, h => by simp [SV.same] at h; simp [h]
  | .nilptr, .nilptr, _ | .nilslice, .nilslice, _ | .nilmap, .nilmap, _ | .nilfunc, .nilfunc, _ | .nilif, .nilif, _ => rfl
  | .func f a c, .func g b d, h => by
    simp only [SV.same, Bool.and_eq_true, beq_iff_eq] at h
    rw [h.1.1, SV.sameL_ok h.1.2, SV.sameL_ok h.2]
  | .ifc t v, .ifc s u, h => by
    simp only [SV.same, Bool.and_eq_true, beq_iff_eq] at h
    rw [h.1, SV.same_ok h.2]
  | .agg a, .agg b, h => by simp only [SV.same] at h; rw [SV.sameL_ok h]
  | .tup a, .tup b, h => by simp only [SV.same] at h; rw [SV.sameL_ok h]
theorem SV.sameL_ok : ∀ {x y : List SV}, SV.sameL x y = true → x = y
  | [], [], _ => rfl
  | x :: r, y :: s, h => by
    simp only [SV.sameL, Bool.and_eq_true] at h
    rw [SV.same_ok h.1, SV.sameL_ok h.2]
  | [], _ :: _, h => by simp [SV.sameL] at h
  | _ :: _, [], h => by simp [SV.sameL] at h
end
def Off.inst (S : Sub) (o : Off) : Off := ⟨o.row.inst S, o.stride, o.col⟩
theorem Off.inst_ok (S : Sub) (o : Off) : (o.inst S).den E = o.den (E.sub β S) := by
  simp only [Off.inst, Off.den, SE.inst_ok (β := β) S o.row]
def SV.mkPa (e o : SE) : SV :=
  match e with
  | .c n => if n < 0 then .nilptr else .pa (.c n) o
  | e => .pa e o
def SV.mkSa (e o l c : SE) : SV :=
  match e with
  | .c n => if n < 0 then .nilslice else .sa (.c n) o l c
  | e => .sa e o l c
theorem SV.den_mkPa (e o : SE) : (SV.mkPa e o).den E β = (SV.pa e o).den E β := by
  unfold SV.mkPa
  split
  · split
    · rename_i n h; simp only [SV.den, SE.den, show ¬ (0 ≤ n) by omega, if_false]
    · rfl
  · rfl
theorem SV.den_mkSa (e o l c : SE) : (SV.mkSa e o l c).den E β = (SV.sa e o l c).den E β := by
  unfold SV.mkSa
  split
  · split
    · rename_i n h; simp only [SV.den, SE.den, show ¬ (0 ≤ n) by omega, if_false]
    · rfl
  · rfl
mutual
def SV.inst (S : Sub) : SV → SV
  | .int k e => .int k (e.inst S)
  | .bool b => .bool (b.inst S)
  | .flt k n => .flt k n
  | .str l => .str l
  | .nilptr => .nilptr
  | .ptr b o => match fnd b S.k with | some (some c) => .ptr c (o.inst S) | _ => .nilptr
  | .nilslice => .nilslice
  | .slice b o l c => match fnd b S.k with | some (some d) => .slice d (o.inst S) (l.inst S) (c.inst S) | _ => .nilslice
  | .nilmap => .nilmap
  | .map b => match fnd b S.k with | some (some c) => .map c | _ => .nilmap
  | .nilfunc => .nilfunc
  | .func fn f c => .func fn (SV.instL S f) (SV.instL S c)
  | .nilif => .nilif
  | .ifc t v => .ifc t (v.inst S)
  | .agg l => .agg (SV.instL S l)
  | .tup l => .tup (SV.instL S l)
  | .opq i => match fnd i S.o with | some v => v | none => match S.t with | some x => x.get i | none => .opq i
  | .own b => match fnd b S.k with | some (some c) => .own c | _ => .nilslice
  | .fx k e j => .fx k (e.inst S) j
  | .fw k e => .fw k (e.inst S)
  | .pa e o => SV.mkPa (e.inst S) (o.inst S)
  | .sa e o l c => SV.mkSa (e.inst S) (o.inst S) (l.inst S) (c.inst S)
  | .q b ix => .q b ix
def SV.instL (S : Sub) : List SV → List SV
  | [] => []
  | v :: r => v.inst S :: SV.instL S r
end
def hasB (S : Sub) (b : Nat) : Bool := match fnd b S.k with | some (some _) => true | _ => false
mutual
/-- It can be put. -/
def SV.okS (S : Sub) : SV → Bool
  | .ptr b _ => hasB S b
  | .slice b _ _ _ => hasB S b
  | .map b => hasB S b
  | .own b => (fnd b S.k).isSome
  | .func _ f c => SV.okSL S f && SV.okSL S c
  | .ifc _ v => v.okS S
  | .agg l => SV.okSL S l
  | .tup l => SV.okSL S l
  | .q _ _ => false
  | _ => true
def SV.okSL (S : Sub) : List SV → Bool
  | [] => true
  | v :: r => v.okS S && SV.okSL S r
end
structure Bk.like (x y : Bk) : Prop where
  a : x.a = y.a
  z : x.z = y.z
  n : x.n = y.n
  c : x.c = y.c
  o : x.o = y.o
def Bmap (S : Sub) (β β0 : Nat → Bk) : Prop := ∀ j x, fnd j S.k = some x → match x with
  | some c => Bk.like (β0 j) (β c)
  | none => (β0 j).z = true
theorem hasB_get {S : Sub} {b : Nat} (h : hasB S b = true) : ∃ c, fnd b S.k = some (some c) := by
  unfold hasB at h; split at h
  · rename_i c hc; exact ⟨c, hc⟩
  · cases h
mutual
theorem SV.inst_ok {S : Sub} {β0 : Nat → Bk} (hB : Bmap S β β0) : ∀ (v : SV), v.okS S = true → (v.inst S).den E β = v.den (E.sub β S) β0
  | .int k e, _ => by simp only [SV.inst, SV.den, SE.inst_ok (β := β) S e]
  | .bool b, _ => by simp only [SV.inst, SV.den, SB.inst_ok (β := β) S b]
  | .flt k n, _ | .str _, _ | .nilptr, _ | .nilslice, _ | .nilmap, _ | .nilfunc, _ | .nilif, _ => by simp only [SV.inst, SV.den]
  | .ptr b o, h => by
    obtain ⟨c, hc⟩ := hasB_get h
    have := hB b _ hc
    simp only at this
    simp only [SV.inst, hc, SV.den, Off.inst_ok (β := β) S o, this.a, this.o]
  | .slice b o l c, h => by
    obtain ⟨d, hd⟩ := hasB_get h
    have := hB b _ hd
    simp only at this
    simp only [SV.inst, hd, SV.den, Off.inst_ok (β := β) S o, this.a, this.o, SE.inst_ok (β := β) S l, SE.inst_ok (β := β) S c]
  | .map b, h => by
    obtain ⟨c, hc⟩ := hasB_get h
    have := hB b _ hc
    simp only at this
    simp only [SV.inst, hc, SV.den, this.a]
  | .func fn f c, h => by
    simp only [SV.okS, Bool.and_eq_true] at h
    simp only [SV.inst, SV.den, SV.instL_ok hB f h.1, SV.instL_ok hB c h.2]
  | .ifc t v, h => by simp only [SV.okS] at h; simp only [SV.inst, SV.den, SV.inst_ok hB v h]
  | .agg l, h => by simp only [SV.okS] at h; simp only [SV.inst, SV.den, SV.instL_ok hB l h]
  | .tup l, h => by simp only [SV.okS] at h; simp only [SV.inst, SV.den, SV.instL_ok hB l h]
  | .opq i, _ => by
    simp only [SV.inst, SV.den, Env.sub]
    cases fnd i S.o with
    | some v => rfl
    | none =>
      simp only
      cases S.t with
      | some x => rfl
      | none => simp [SV.den]
  | .own b, h => by
    simp only [SV.okS, Option.isSome_iff_exists] at h
    obtain ⟨x, hx⟩ := h
    have := hB b _ hx
    cases x with
    | none => simp only at this; simp only [SV.inst, hx, SV.den, Bk.v, this, if_true]
    | some c => simp only at this; simp only [SV.inst, hx, SV.den, Bk.v, this.z, this.a, this.n, this.c, this.o]
  | .fx k e j, _ => by simp only [SV.inst, SV.den, SE.inst_ok (β := β) S e]
  | .fw k e, _ => by simp only [SV.inst, SV.den, SE.inst_ok (β := β) S e]
  | .pa e o, _ => by simp only [SV.inst, SV.den_mkPa, SV.den, SE.inst_ok (β := β) S e, SE.inst_ok (β := β) S o]
  | .sa e o l c, _ => by simp only [SV.inst, SV.den_mkSa, SV.den, SE.inst_ok (β := β) S e, SE.inst_ok (β := β) S o, SE.inst_ok (β := β) S l, SE.inst_ok (β := β) S c]
  | .q b ix, h => by simp [SV.okS] at h
theorem SV.instL_ok {S : Sub} {β0 : Nat → Bk} (hB : Bmap S β β0) : ∀ (l : List SV), SV.okSL S l = true → SV.denL E β (SV.instL S l) = SV.denL (E.sub β S) β0 l
  | [], _ => rfl
  | v :: r, h => by
    simp only [SV.okSL, Bool.and_eq_true] at h
    simp only [SV.instL, SV.denL, SV.inst_ok hB v h.1, SV.instL_ok hB r h.2]
end
def tailSL : List SV → SL
  | [] => .nil
  | .int _ e :: r => .i e (tailSL r)
  | .bool b :: r => .b b (tailSL r)
  | _ :: r => .i (.c 0) (tailSL r)
def kindOk (k : SK) (v : SV) : Bool :=
  match k, v with
  | .int k, .int j _ => k == j
  | .bool, .bool _ => true
  | .opq, _ => true
  | _, _ => false
def tailOk (ks : List SK) : Nat → List SV → Bool
  | _, [] => true
  | j, v :: r => kindOk (ks.getD (j % ks.length) default) v && tailOk ks (j + 1) r
def tailA (a : AE) (n : SE) (K : Nat) (tail : List SV) : AE :=
  match tail with
  | [] => a
  | l => .tl a (.mkMul n (.c K)) (tailSL l)
def rowsN (n : SE) (K : Nat) (tail : List SV) : SE := .mkAdd n (.c ((tail.length / K : Nat) : Int))
def rowQ (E : Env) (β : Nat → Bk) (q : Nat → Value) (n : SE) (K : Nat) (tail : List SV) : Nat → Value :=
  match tail with
  | [] => q
  | l => fun ix => if ix < (n.den E).toNat * K then q ix else (l.getD (ix - (n.den E).toNat * K) (.tup [])).den E β
theorem tailSL_nth {ks : List SK} : ∀ (l : List SV) (j0 j : Nat), tailOk ks j0 l = true → j < l.length →
    (l.map (SV.den E β))[j]? = some ((ks.getD ((j0 + j) % ks.length) default).val ((tailSL l).nth E j) ((l.getD j (.tup [])).den E β))
  | [], j0, j, _, h => by simp at h
  | v :: r, j0, j, hk, hj => by
    simp only [tailOk, Bool.and_eq_true] at hk
    cases j with
    | zero =>
      simp only [List.map_cons, List.getElem?_cons_zero, Nat.add_zero, List.getD_cons_zero]
      congr 1
      have hk1 := hk.1
      revert hk1
      generalize ks.getD (j0 % ks.length) default = kk
      intro hk1
      unfold kindOk at hk1
      split at hk1
      · simp only [beq_iff_eq] at hk1; subst hk1; simp [SV.den, SK.val, tailSL, SL.nth]
      · rename_i b; simp only [SV.den, SK.val, tailSL, SL.nth, if_true, b2i]; cases b.den E <;> rfl
      · simp [SK.val]
      · cases hk1
    | succ j =>
      have ih := tailSL_nth r (j0 + 1) j hk.2 (by simpa using hj)
      simp only [List.map_cons, List.getElem?_cons_succ, List.getD_cons_succ]
      rw [ih]
      have e1 : j0 + 1 + j = j0 + (j + 1) := by omega
      have e2 : (tailSL (v :: r)).nth E (j + 1) = (tailSL r).nth E j := by
        cases v <;> simp [tailSL, SL.nth]
      rw [e1, e2]
theorem rowCells_norm {ks : List SK} {a : AE} {n : SE} {q : Nat → Value} {tail : List SV} {m : Nat} (hm : tail.length = m * ks.length) (hn : tail = [] ∨ 0 ≤ n.den E) (hk : tailOk ks 0 tail = true) :
    rowCells E β q a ks (n.den E).toNat tail = (List.range (((n.den E).toNat + m) * ks.length)).map (fun j => (ks.getD (j % ks.length) default).val ((tailA a n ks.length tail).den E j) (rowQ E β q n ks.length tail j)) := by
  cases tail with
  | nil =>
    have hm0 : (((n.den E).toNat + m) * ks.length) = (n.den E).toNat * ks.length := by
      rw [Nat.add_mul, ← hm]; simp
    simp [rowCells, SV.denL, tailA, rowQ, hm0]
  | cons v r =>
    have hn : 0 ≤ n.den E := by
      rcases hn with h | h
      · cases h
      · exact h
    have hb : ((SE.mkMul n (.c ks.length)).den E).toNat = (n.den E).toNat * ks.length := by
      rw [SE.den_mkMul]
      obtain ⟨x, hx⟩ := Int.eq_ofNat_of_zero_le hn
      rw [hx]
      simp only [SE.den, Int.toNat_natCast]
      rw [← Int.natCast_mul]; exact Int.toNat_natCast _
    unfold rowCells
    rw [Nat.add_mul, List.range_add, List.map_append]
    congr 1
    · apply List.map_congr_left
      intro j hj
      have hj := List.mem_range.1 hj
      simp only [tailA, rowQ, AE.den, hb, hj, if_true]
    · rw [← hm, SV.denL_map]
      apply List.ext_getElem?
      intro j
      by_cases hj : j < (v :: r).length
      · rw [tailSL_nth (v :: r) 0 j hk hj]
        simp only [List.map_map, List.getElem?_map, List.getElem?_range hj, Option.map_some, Function.comp]
        have h1 : ¬ ((n.den E).toNat * ks.length + j < (n.den E).toNat * ks.length) := by omega
        have h2 : ((n.den E).toNat * ks.length + j) - (n.den E).toNat * ks.length = j := by omega
        have h3 : ((n.den E).toNat * ks.length + j) % ks.length = (0 + j) % ks.length := by
          rw [Nat.zero_add, Nat.add_comm, Nat.add_mul_mod_self_right]
        simp only [tailA, rowQ, AE.den, hb, h1, if_false, h2, h3]
      · rw [List.getElem?_eq_none (by simpa using hj), List.getElem?_eq_none (by simpa using hj)]
end Go.Sy
