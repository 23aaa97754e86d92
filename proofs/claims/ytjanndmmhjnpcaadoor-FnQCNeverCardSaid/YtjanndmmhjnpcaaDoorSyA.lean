/- The symbolic words of a small executor over the model's code: whole numbers and truth values as terms over an environment, values, blocks, and what they denote. -/
import Derived.WalkKit
import Derived.Laws.AppendOwn
import GoSem.Core.Float
set_option autoImplicit true
set_option relaxedAutoImplicit true
set_option linter.unusedVariables false
set_option linter.unusedSimpArgs false
namespace Go.Sy
open Go
inductive Arg where
  | i (n : Int)
  | a (f : Nat → Int)
def kcode : FloatKind → Int
  | .f32 => 0
  | .f64 => 1
def kof (n : Int) : FloatKind := if n = 0 then .f32 else .f64
theorem kof_kcode (k : FloatKind) : kof (kcode k) = k := by cases k <;> rfl
def fopt (op : Int) (k : FloatKind) (x y : Nat) : Option Nat := if op = 0 then k.format.add x y else if op = 1 then k.format.sub x y else if op = 2 then k.format.mul x y else k.format.div x y
def fbase (k : Nat) (l : List Arg) : Int := match k, l with
  | 1000, [.i kc, .i e, .i j] => ((kof kc).format.nearest false e.toNat (-(j.toNat : Int)) : Nat)
  | 1001, [.i op, .i kc, .i x, .i y] => ((fopt op (kof kc) x.toNat y.toNat).getD 0 : Nat)
  | 1002, [.i kc, .i x] => (((kof kc).decode x.toNat).toInt .zero).getD 0
  | _, _ => 0
def gbase (k : Nat) (l : List Arg) : Bool := match k, l with
  | 1001, [.i op, .i kc, .i x, .i y] => (fopt op (kof kc) x.toNat y.toNat).isSome
  | 1002, [.i kc, .i x] => match ((kof kc).decode x.toNat).toInt .zero with
    | some n => decide (IntKind.i64.min ≤ n ∧ n ≤ IntKind.i64.max)
    | none => false
  | _, _ => false
structure Bk where
  a : Nat
  z : Bool := true
  n : Nat := 0
  c : Nat := 0
  o : Nat := 0
  q : Nat → Value := fun _ => .nilIface
def Bk.v (k : Bk) : Value := if k.z then .slice none 0 0 else .slice (some ⟨k.a, k.o, none⟩) k.n k.c
structure Fns where
  f : Nat → List Arg → Int
  g : Nat → List Arg → Bool
  a : Nat → List Arg → Nat → Int
  fb : ∀ k l, 1000 ≤ k → f k l = fbase k l
  gb : ∀ k l, 1000 ≤ k → g k l = gbase k l
  /-- What holds of a block that is told by a predicate: of its numbers, its place, its slice value; which places are its own. -/
  p : Nat → List Arg → Nat → Value → World → Prop := fun k l _ v _ => 1000 ≤ k ∧ v = .slice none 0 0 ∧ ∃ r, l = .i 0 :: r
  ft : Nat → List Arg → Nat → Value → Nat → Prop := fun _ _ _ _ _ => False
  pf : ∀ k l a v (w w' : World), p k l a v w → (∀ x, ft k l a v x → w'.heap[x]? = w.heap[x]?) → p k l a v w' := by intros; assumption
  /-- Kinds from 1000 on hold of a nil slice, too, if the first number is 0. -/
  pn : ∀ k r a w, 1000 ≤ k → p k (.i 0 :: r) a (.slice none 0 0) w := by intro k r a w h; exact ⟨h, rfl, _, rfl⟩
  fn : ∀ k r a x, 1000 ≤ k → ¬ ft k (.i 0 :: r) a (.slice none 0 0) x := by intros; exact id
structure Env where
  i : Nat → Int
  b : Nat → Bool
  a : Nat → Nat → Int
  o : Nat → Value
  fn : Fns
mutual
inductive SE where
  | c (n : Int)
  | v (i : Nat)
  | add (x y : SE)
  | sub (x y : SE)
  | mul (x y : SE)
  | wrap (k : IntKind) (x : SE)
  | tdiv (x y : SE)
  | tmod (x y : SE)
  | bits (op : BinOp) (k : IntKind) (x y : SE)
  | shl (k : IntKind) (x y : SE)
  | shr (k : IntKind) (x y : SE)
  | rd (a : AE) (o : SE)
  | mn (x y : SE)
  | mx (x y : SE)
  | ni (x y : SE)
  | ite (b : SB) (x y : SE)
  | ap (f : Nat) (l : SL)
  deriving DecidableEq
inductive SB where
  | c (b : Bool)
  | v (i : Nat)
  | lt (x y : SE)
  | le (x y : SE)
  | eq (x y : SE)
  | not (x : SB)
  | beq (x y : SB)
  | and (x y : SB)
  | ap (f : Nat) (l : SL)
  deriving DecidableEq
inductive AE where
  | v (i : Nat)
  | ap (f : Nat) (l : SL)
  | tl (a : AE) (n : SE) (l : SL)
  | ct (a : AE) (n : SE) (b : AE)
  | up (a : AE) (i : SE) (x : SE)
  | dr (a : AE) (n : SE)
  deriving DecidableEq
inductive SL where
  | nil
  | i (x : SE) (r : SL)
  | b (x : SB) (r : SL)
  | a (x : AE) (r : SL)
  deriving DecidableEq
end
def imn (a b : Int) : Int := if b < a then b else a
def imx (a b : Int) : Int := if a < b then b else a
def ini (a b : Int) : Int := if a = b then 0 else b
def b2i (b : Bool) : Int := if b then 1 else 0
mutual
def SE.den (E : Env) : SE → Int
  | .c n => n
  | .v i => E.i i
  | .add x y => x.den E + y.den E
  | .sub x y => x.den E - y.den E
  | .mul x y => x.den E * y.den E
  | .wrap k x => k.wrap (x.den E)
  | .tdiv x y => (x.den E).tdiv (y.den E)
  | .tmod x y => (x.den E).tmod (y.den E)
  | .bits op k x y => Go.bits op k (x.den E) (y.den E)
  | .shl k x y => k.wrap (x.den E * 2 ^ min (y.den E).toNat k.bits)
  | .shr k x y => (x.den E).fdiv (2 ^ min (y.den E).toNat k.bits)
  | .rd a o => a.den E (o.den E).toNat
  | .mn x y => imn (x.den E) (y.den E)
  | .mx x y => imx (x.den E) (y.den E)
  | .ni x y => ini (x.den E) (y.den E)
  | .ite b x y => if b.den E then x.den E else y.den E
  | .ap f l => E.fn.f f (l.den E)
def SB.den (E : Env) : SB → Bool
  | .c b => b
  | .v i => E.b i
  | .lt x y => decide (x.den E < y.den E)
  | .le x y => decide (x.den E ≤ y.den E)
  | .eq x y => x.den E == y.den E
  | .not x => !x.den E
  | .beq x y => x.den E == y.den E
  | .and x y => x.den E && y.den E
  | .ap f l => E.fn.g f (l.den E)
def AE.den (E : Env) : AE → Nat → Int
  | .v i, j => E.a i j
  | .ap f l, j => E.fn.a f (l.den E) j
  | .tl a n l, j => if j < (n.den E).toNat then a.den E j else l.nth E (j - (n.den E).toNat)
  | .ct a n b, j => if j < (n.den E).toNat then a.den E j else b.den E (j - (n.den E).toNat)
  | .up a i x, j => if j = (i.den E).toNat then x.den E else a.den E j
  | .dr a n, j => a.den E (j + (n.den E).toNat)
def SL.den (E : Env) : SL → List Arg
  | .nil => []
  | .i x r => .i (x.den E) :: r.den E
  | .b x r => .i (b2i (x.den E)) :: r.den E
  | .a x r => .a (x.den E) :: r.den E
/-- The numbers of a list, one by one. -/
def SL.nth (E : Env) : SL → Nat → Int
  | .nil, _ => 0
  | .i x r, j => if j = 0 then x.den E else r.nth E (j - 1)
  | .b x r, j => if j = 0 then b2i (x.den E) else r.nth E (j - 1)
  | .a _ r, j => if j = 0 then 0 else r.nth E (j - 1)
end
def SE.mkAdd (x y : SE) : SE :=
  match x, y with
  | .c a, .c b => .c (a + b)
  | x, .c b => if b = 0 then x else .add x (.c b)
  | .c a, y => if a = 0 then y else .add (.c a) y
  | x, y => .add x y
def SE.mkSub (x y : SE) : SE :=
  match x, y with
  | .c a, .c b => .c (a - b)
  | x, .c b => if b = 0 then x else .sub x (.c b)
  | x, y => if x = y then .c 0 else .sub x y
def SE.mkMul (x y : SE) : SE :=
  match x, y with
  | .c a, .c b => .c (a * b)
  | x, .c b => if b = 1 then x else .mul x (.c b)
  | .c a, y => if a = 1 then y else .mul (.c a) y
  | x, y => .mul x y
def SE.mkWrap (k : IntKind) (x : SE) : SE :=
  match x with
  | .c a => .c (k.wrap a)
  | .wrap j y => if j = k then .wrap k y else .wrap k (.wrap j y)
  | x => .wrap k x
def SE.mkNi (x y : SE) : SE :=
  match x, y with
  | .c a, .c b => .c (ini a b)
  | x, y => .ni x y
theorem wrap_wrap (k : IntKind) (n : Int) : k.wrap (k.wrap n) = k.wrap n := by
  cases k <;> simp [IntKind.wrap, IntKind.bits, IntKind.signed] <;> (repeat' split) <;> omega
def SE.mkTdiv (x y : SE) : SE :=
  match x, y with
  | .c a, .c b => .c (a.tdiv b)
  | x, y => .tdiv x y
def SE.mkTmod (x y : SE) : SE :=
  match x, y with
  | .c a, .c b => .c (a.tmod b)
  | x, y => .tmod x y
def SE.mkBits (op : BinOp) (k : IntKind) (x y : SE) : SE :=
  match x, y with
  | .c a, .c b => .c (Go.bits op k a b)
  | x, y => .bits op k x y
def SE.mkShl (k : IntKind) (x y : SE) : SE :=
  match x, y with
  | .c a, .c b => .c (k.wrap (a * 2 ^ min b.toNat k.bits))
  | x, y => .shl k x y
def SE.mkShr (k : IntKind) (x y : SE) : SE :=
  match x, y with
  | .c a, .c b => .c (a.fdiv (2 ^ min b.toNat k.bits))
  | x, y => .shr k x y
def SE.mkMn (x y : SE) : SE :=
  match x, y with
  | .c a, .c b => .c (imn a b)
  | x, y => .mn x y
def SE.mkMx (x y : SE) : SE :=
  match x, y with
  | .c a, .c b => .c (imx a b)
  | x, y => .mx x y
def SB.mkLt (x y : SE) : SB :=
  match x, y with
  | .c a, .c b => .c (decide (a < b))
  | x, y => .lt x y
def SB.mkLe (x y : SE) : SB :=
  match x, y with
  | .c a, .c b => .c (decide (a ≤ b))
  | x, y => .le x y
def SB.mkEq (x y : SE) : SB :=
  match x, y with
  | .c a, .c b => .c (decide (a = b))
  | x, y => if x = y then .c true else .eq x y
def SB.mkNot (x : SB) : SB :=
  match x with
  | .c b => .c (!b)
  | .not x => x
  | x => .not x
def SB.mkBeq (x y : SB) : SB :=
  match x, y with
  | .c a, .c b => .c (a == b)
  | x, .c b => if b then x else SB.mkNot x
  | .c a, y => if a then y else SB.mkNot y
  | x, y => .beq x y
variable {E : Env}
theorem SE.den_mkAdd (x y : SE) : (SE.mkAdd x y).den E = x.den E + y.den E := by
  unfold SE.mkAdd; split <;> (try split) <;> simp_all [SE.den]
theorem SE.den_mkSub (x y : SE) : (SE.mkSub x y).den E = x.den E - y.den E := by
  unfold SE.mkSub; split <;> (try split) <;> simp_all [SE.den]
theorem SE.den_mkMul (x y : SE) : (SE.mkMul x y).den E = x.den E * y.den E := by
  unfold SE.mkMul; split <;> (try split) <;> simp_all [SE.den]
theorem SE.den_mkWrap (k : IntKind) (x : SE) : (SE.mkWrap k x).den E = k.wrap (x.den E) := by
  unfold SE.mkWrap
  split
  · rfl
  · split
    · rename_i h; subst h; simp only [SE.den, wrap_wrap]
    · rfl
  · rfl
theorem SE.den_mkNi (x y : SE) : (SE.mkNi x y).den E = ini (x.den E) (y.den E) := by
  unfold SE.mkNi; split <;> simp only [SE.den] <;> rfl
theorem SE.den_mkTdiv (x y : SE) : (SE.mkTdiv x y).den E = (x.den E).tdiv (y.den E) := by
  unfold SE.mkTdiv; split <;> simp [SE.den]
theorem SE.den_mkTmod (x y : SE) : (SE.mkTmod x y).den E = (x.den E).tmod (y.den E) := by
  unfold SE.mkTmod; split <;> simp [SE.den]
theorem SE.den_mkBits (op : BinOp) (k : IntKind) (x y : SE) : (SE.mkBits op k x y).den E = Go.bits op k (x.den E) (y.den E) := by
  unfold SE.mkBits; split <;> simp [SE.den]
theorem SE.den_mkShl (k : IntKind) (x y : SE) : (SE.mkShl k x y).den E = k.wrap (x.den E * 2 ^ min (y.den E).toNat k.bits) := by
  unfold SE.mkShl; split <;> simp [SE.den]
theorem SE.den_mkShr (k : IntKind) (x y : SE) : (SE.mkShr k x y).den E = (x.den E).fdiv (2 ^ min (y.den E).toNat k.bits) := by
  unfold SE.mkShr; split <;> simp [SE.den]
theorem SE.den_mkMn (x y : SE) : (SE.mkMn x y).den E = imn (x.den E) (y.den E) := by
  unfold SE.mkMn; split <;> simp only [SE.den] <;> rfl
theorem SE.den_mkMx (x y : SE) : (SE.mkMx x y).den E = imx (x.den E) (y.den E) := by
  unfold SE.mkMx; split <;> simp only [SE.den] <;> rfl
theorem SB.den_mkLt (x y : SE) : (SB.mkLt x y).den E = decide (x.den E < y.den E) := by
  unfold SB.mkLt; split <;> simp only [SE.den, SB.den] <;> rfl
theorem SB.den_mkLe (x y : SE) : (SB.mkLe x y).den E = decide (x.den E ≤ y.den E) := by
  unfold SB.mkLe; split <;> simp only [SE.den, SB.den] <;> rfl
theorem SB.den_mkEq (x y : SE) : (SB.mkEq x y).den E = (x.den E == y.den E) := by
  unfold SB.mkEq; split
  · simp [SE.den, SB.den]; rfl
  · split
    · rename_i h; subst h; simp [SB.den]
    · rfl
theorem SB.den_mkNot (x : SB) : (SB.mkNot x).den E = !x.den E := by
  unfold SB.mkNot; split <;> simp [SB.den]
theorem SB.den_mkBeq (x y : SB) : (SB.mkBeq x y).den E = (x.den E == y.den E) := by
  unfold SB.mkBeq
  split
  · simp [SB.den]
  · split <;> simp_all [SB.den, SB.den_mkNot]
  · split <;> simp_all [SB.den, SB.den_mkNot] <;> exact Bool.beq_comm
  · simp [SB.den]
structure Off where
  row : SE
  stride : Nat
  col : Nat
  deriving DecidableEq
def Off.den (E : Env) (o : Off) : Nat := (o.row.den E).toNat * o.stride + o.col
def Off.z : Off := ⟨.c 0, 0, 0⟩
inductive SV where
  | int (k : IntKind) (e : SE)
  | bool (b : SB)
  | flt (k : FloatKind) (bits : Nat)
  | str (l : List UInt8)
  | nilptr
  | ptr (b : Nat) (o : Off)
  | nilslice
  | slice (b : Nat) (o : Off) (len cap : SE)
  | nilmap
  | map (b : Nat)
  | nilfunc
  | func (fn : Fn) (first captured : List SV)
  | nilif
  | ifc (t : TypeId) (v : SV)
  | agg (l : List SV)
  | tup (l : List SV)
  | opq (i : Nat)
  | own (b : Nat)
  | fx (k : FloatKind) (e : SE) (j : Nat)
  | fw (k : FloatKind) (e : SE)
  | pa (e o : SE)
  | sa (e o l c : SE)
  | q (b : Nat) (ix : SE)
mutual
def SV.den (E : Env) (β : Nat → Bk) : SV → Value
  | .int k e => .int k (e.den E)
  | .bool b => .bool (b.den E)
  | .flt k n => .float k n
  | .str l => .string ⟨l.toArray⟩
  | .nilptr => .pointer none
  | .ptr b o => .pointer (some ⟨(β b).a, (β b).o + o.den E, none⟩)
  | .nilslice => .slice none 0 0
  | .slice b o len cap => .slice (some ⟨(β b).a, (β b).o + o.den E, none⟩) (len.den E).toNat (cap.den E).toNat
  | .nilmap => .map none
  | .map b => .map (some (β b).a)
  | .nilfunc => .nilFunc
  | .func fn first captured => .func fn (SV.denL E β first).toArray (SV.denL E β captured).toArray
  | .nilif => .nilIface
  | .ifc t v => .iface t (v.den E β)
  | .agg l => .agg (SV.denL E β l).toArray
  | .tup l => .tuple (SV.denL E β l).toArray
  | .opq i => E.o i
  | .own b => (β b).v
  | .fx k e j => .float k (k.format.nearest false (e.den E).toNat (-(j : Int)))
  | .fw k e => .float k (e.den E).toNat
  | .pa e o => if 0 ≤ e.den E then .pointer (some ⟨(e.den E).toNat, (o.den E).toNat, none⟩) else .pointer none
  | .sa e o l c => if 0 ≤ e.den E then .slice (some ⟨(e.den E).toNat, (o.den E).toNat, none⟩) (l.den E).toNat (c.den E).toNat else .slice none 0 0
  | .q b ix => (β b).q (ix.den E).toNat
def SV.denL (E : Env) (β : Nat → Bk) : List SV → List Value
  | [] => []
  | v :: r => v.den E β :: SV.denL E β r
end
theorem SV.denL_map (β : Nat → Bk) (l : List SV) : SV.denL E β l = l.map (SV.den E β) := by
  induction l with
  | nil => rfl
  | cons v r ih => simp [SV.denL, ih]
mutual
def SE.vb (n : Nat) : SE → Bool
  | .c _ => true
  | .v i => decide (i < n)
  | .add x y | .sub x y | .mul x y | .tdiv x y | .tmod x y | .mn x y | .mx x y | .ni x y => x.vb n && y.vb n
  | .wrap _ x => x.vb n
  | .bits _ _ x y | .shl _ x y | .shr _ x y => x.vb n && y.vb n
  | .rd a o => a.vb n && o.vb n
  | .ite b x y => b.vb n && (x.vb n && y.vb n)
  | .ap _ l => l.vb n
def SB.vb (n : Nat) : SB → Bool
  | .c _ => true
  | .v i => decide (i < n)
  | .lt x y | .le x y | .eq x y => x.vb n && y.vb n
  | .not x => x.vb n
  | .beq x y | .and x y => x.vb n && y.vb n
  | .ap _ l => l.vb n
def AE.vb (n : Nat) : AE → Bool
  | .v i => decide (i < n)
  | .ap _ l => l.vb n
  | .tl a m l => a.vb n && (m.vb n && l.vb n)
  | .ct a m b => a.vb n && (m.vb n && b.vb n)
  | .up a i x => a.vb n && (i.vb n && x.vb n)
  | .dr a m => a.vb n && m.vb n
def SL.vb (n : Nat) : SL → Bool
  | .nil => true
  | .i x r => x.vb n && r.vb n
  | .b x r => x.vb n && r.vb n
  | .a x r => x.vb n && r.vb n
end
structure AgE (n : Nat) (E E' : Env) : Prop where
  i : ∀ j, j < n → E'.i j = E.i j
  b : ∀ j, j < n → E'.b j = E.b j
  a : ∀ j, j < n → E'.a j = E.a j
  o : E'.o = E.o
  fn : E'.fn = E.fn
theorem AgE.refl (n : Nat) (E : Env) : AgE n E E := ⟨fun _ _ => rfl, fun _ _ => rfl, fun _ _ => rfl, rfl, rfl⟩
theorem AgE.trans {m n : Nat} {E1 E2 E3 : Env} (h : m ≤ n) (x : AgE m E1 E2) (y : AgE n E2 E3) : AgE m E1 E3 :=
  ⟨fun j hj => (y.i j (by omega)).trans (x.i j hj), fun j hj => (y.b j (by omega)).trans (x.b j hj), fun j hj => (y.a j (by omega)).trans (x.a j hj), y.o.trans x.o, y.fn.trans x.fn⟩
section
variable {n : Nat} {E' : Env}
mutual
theorem SE.den_ag (H : AgE n E E') : ∀ (x : SE), x.vb n = true → x.den E' = x.den E
  | .c n, _ => rfl
  | .v i, h => by simp only [SE.vb, decide_eq_true_eq] at h; exact H.i i h
  | .add x y, h | .sub x y, h | .mul x y, h | .tdiv x y, h | .tmod x y, h | .mn x y, h | .mx x y, h | .ni x y, h | .bits _ _ x y, h | .shl _ x y, h | .shr _ x y, h => by
    simp only [SE.vb, Bool.and_eq_true] at h; simp only [SE.den, SE.den_ag H x h.1, SE.den_ag H y h.2]
  | .wrap _ x, h => by simp only [SE.vb] at h; simp only [SE.den, SE.den_ag H x h]
  | .rd a o, h => by simp only [SE.vb, Bool.and_eq_true] at h; simp only [SE.den, AE.den_ag H a h.1, SE.den_ag H o h.2]
  | .ite b x y, h => by simp only [SE.vb, Bool.and_eq_true] at h; simp only [SE.den, SB.den_ag H b h.1, SE.den_ag H x h.2.1, SE.den_ag H y h.2.2]
  | .ap _ l, h => by simp only [SE.vb] at h; simp only [SE.den, SL.den_ag H l h, H.fn]
theorem SB.den_ag (H : AgE n E E') : ∀ (x : SB), x.vb n = true → x.den E' = x.den E
  | .c b, _ => rfl
  | .v i, h => by simp only [SB.vb, decide_eq_true_eq] at h; exact H.b i h
  | .lt x y, h | .le x y, h | .eq x y, h => by simp only [SB.vb, Bool.and_eq_true] at h; simp only [SB.den, SE.den_ag H x h.1, SE.den_ag H y h.2]
  | .not x, h => by simp only [SB.vb] at h; simp only [SB.den, SB.den_ag H x h]
  | .beq x y, h | .and x y, h => by simp only [SB.vb, Bool.and_eq_true] at h; simp only [SB.den, SB.den_ag H x h.1, SB.den_ag H y h.2]
  | .ap _ l, h => by simp only [SB.vb] at h; simp only [SB.den, SL.den_ag H l h, H.fn]
theorem AE.den_ag (H : AgE n E E') : ∀ (x : AE), x.vb n = true → x.den E' = x.den E
  | .v i, h => by simp only [AE.vb, decide_eq_true_eq] at h; funext j; simp only [AE.den, H.a i h]
  | .ap _ l, h => by simp only [AE.vb] at h; funext j; simp only [AE.den, SL.den_ag H l h, H.fn]
  | .tl a m l, h => by simp only [AE.vb, Bool.and_eq_true] at h; funext j; simp only [AE.den, AE.den_ag H a h.1, SE.den_ag H m h.2.1, SL.nth_ag H l h.2.2]
  | .ct a m b, h => by simp only [AE.vb, Bool.and_eq_true] at h; funext j; simp only [AE.den, AE.den_ag H a h.1, SE.den_ag H m h.2.1, AE.den_ag H b h.2.2]
  | .up a i x, h => by simp only [AE.vb, Bool.and_eq_true] at h; funext j; simp only [AE.den, AE.den_ag H a h.1, SE.den_ag H i h.2.1, SE.den_ag H x h.2.2]
  | .dr a m, h => by simp only [AE.vb, Bool.and_eq_true] at h; funext j; simp only [AE.den, AE.den_ag H a h.1, SE.den_ag H m h.2]
theorem SL.den_ag (H : AgE n E E') : ∀ (x : SL), x.vb n = true → x.den E' = x.den E
  | .nil, _ => rfl
  | .i x r, h => by simp only [SL.vb, Bool.and_eq_true] at h; simp only [SL.den, SE.den_ag H x h.1, SL.den_ag H r h.2]
  | .b x r, h => by simp only [SL.vb, Bool.and_eq_true] at h; simp only [SL.den, SB.den_ag H x h.1, SL.den_ag H r h.2]
  | .a x r, h => by simp only [SL.vb, Bool.and_eq_true] at h; simp only [SL.den, AE.den_ag H x h.1, SL.den_ag H r h.2]
theorem SL.nth_ag (H : AgE n E E') : ∀ (x : SL), x.vb n = true → ∀ j, x.nth E' j = x.nth E j
  | .nil, _, _ => rfl
  | .i x r, h, j => by simp only [SL.vb, Bool.and_eq_true] at h; simp only [SL.nth, SE.den_ag H x h.1, SL.nth_ag H r h.2]
  | .b x r, h, j => by simp only [SL.vb, Bool.and_eq_true] at h; simp only [SL.nth, SB.den_ag H x h.1, SL.nth_ag H r h.2]
  | .a x r, h, j => by simp only [SL.vb, Bool.and_eq_true] at h; simp only [SL.nth, SL.nth_ag H r h.2]
end
end
mutual
def SV.vb (n : Nat) : SV → Bool
  | .int _ e => e.vb n
  | .bool b => b.vb n
  | .ptr _ o => o.row.vb n
  | .slice _ o l c => o.row.vb n && (l.vb n && c.vb n)
  | .func _ f c => SV.vbL n f && SV.vbL n c
  | .ifc _ v => v.vb n
  | .agg l => SV.vbL n l
  | .tup l => SV.vbL n l
  | .fx _ e _ => e.vb n
  | .fw _ e => e.vb n
  | .pa e o => e.vb n && o.vb n
  | .sa e o l c => (e.vb n && o.vb n) && (l.vb n && c.vb n)
  | .q _ ix => ix.vb n
  | _ => true
def SV.vbL (n : Nat) : List SV → Bool
  | [] => true
  | v :: r => v.vb n && SV.vbL n r
end
section
variable {n : Nat} {E' : Env}
mutual
theorem SV.den_ag (H : AgE n E E') (β : Nat → Bk) : ∀ (v : SV), v.vb n = true → v.den E' β = v.den E β
  | .flt .., _ | .str _, _ | .nilptr, _ | .nilslice, _ | .nilmap, _ | .map _, _ | .nilfunc, _ | .nilif, _ | .own _, _ => by simp [SV.den]
  | .opq _, _ => by simp [SV.den, H.o]
  | .pa e o, h => by simp only [SV.vb, Bool.and_eq_true] at h; simp only [SV.den, SE.den_ag H e h.1, SE.den_ag H o h.2]
  | .int _ e, h | .fx _ e _, h | .fw _ e, h | .q _ e, h => by simp only [SV.vb] at h; simp only [SV.den, SE.den_ag H e h]
  | .bool b, h => by simp only [SV.vb] at h; simp only [SV.den, SB.den_ag H b h]
  | .ptr _ o, h => by simp only [SV.vb] at h; simp only [SV.den, Off.den, SE.den_ag H o.row h]
  | .slice _ o l c, h => by simp only [SV.vb, Bool.and_eq_true] at h; simp only [SV.den, Off.den, SE.den_ag H o.row h.1, SE.den_ag H l h.2.1, SE.den_ag H c h.2.2]
  | .sa e o l c, h => by simp only [SV.vb, Bool.and_eq_true] at h; simp only [SV.den, SE.den_ag H e h.1.1, SE.den_ag H o h.1.2, SE.den_ag H l h.2.1, SE.den_ag H c h.2.2]
  | .func _ f c, h => by simp only [SV.vb, Bool.and_eq_true] at h; simp only [SV.den, SV.denL_ag H β f h.1, SV.denL_ag H β c h.2]
  | .ifc _ v, h => by simp only [SV.vb] at h; simp only [SV.den, SV.den_ag H β v h]
  | .agg l, h => by simp only [SV.vb] at h; simp only [SV.den, SV.denL_ag H β l h]
  | .tup l, h => by simp only [SV.vb] at h; simp only [SV.den, SV.denL_ag H β l h]
theorem SV.denL_ag (H : AgE n E E') (β : Nat → Bk) : ∀ (l : List SV), SV.vbL n l = true → SV.denL E' β l = SV.denL E β l
  | [], _ => rfl
  | v :: r, h => by simp only [SV.vbL, Bool.and_eq_true] at h; simp only [SV.denL, SV.den_ag H β v h.1, SV.denL_ag H β r h.2]
end
end
mutual
def SV.bnd (n : Nat) : SV → Bool
  | .ptr b _ => decide (b < n)
  | .slice b _ _ _ => decide (b < n)
  | .map b => decide (b < n)
  | .own b => decide (b < n)
  | .q b _ => decide (b < n)
  | .func _ f c => SV.bndL n f && SV.bndL n c
  | .ifc _ v => v.bnd n
  | .agg l => SV.bndL n l
  | .tup l => SV.bndL n l
  | _ => true
def SV.bndL (n : Nat) : List SV → Bool
  | [] => true
  | v :: r => v.bnd n && SV.bndL n r
end
mutual
theorem SV.den_agree {β β' : Nat → Bk} {n : Nat} (h : ∀ i, i < n → β' i = β i) : ∀ (v : SV), v.bnd n = true → v.den E β' = v.den E β
  | .int .., _ | .bool _, _ | .flt .., _ | .str _, _ | .nilptr, _ | .nilslice, _ | .nilmap, _ | .nilfunc, _ | .nilif, _ | .opq _, _ | .fx .., _ | .fw .., _ | .pa .., _ | .sa .., _ => by simp [SV.den]
  | .ptr b o, hb => by simp only [SV.bnd, decide_eq_true_eq] at hb; simp [SV.den, h b hb]
  | .slice b o l c, hb => by simp only [SV.bnd, decide_eq_true_eq] at hb; simp [SV.den, h b hb]
  | .map b, hb => by simp only [SV.bnd, decide_eq_true_eq] at hb; simp [SV.den, h b hb]
  | .own b, hb => by simp only [SV.bnd, decide_eq_true_eq] at hb; simp [SV.den, h b hb]
  | .q b _, hb => by simp only [SV.bnd, decide_eq_true_eq] at hb; simp [SV.den, h b hb]
  | .func fn f c, hb => by
    simp only [SV.bnd, Bool.and_eq_true] at hb
    simp only [SV.den, SV.denL_agree h f hb.1, SV.denL_agree h c hb.2]
  | .ifc t v, hb => by simp only [SV.bnd] at hb; simp only [SV.den, SV.den_agree h v hb]
  | .agg l, hb => by simp only [SV.bnd] at hb; simp only [SV.den, SV.denL_agree h l hb]
  | .tup l, hb => by simp only [SV.bnd] at hb; simp only [SV.den, SV.denL_agree h l hb]
theorem SV.denL_agree {β β' : Nat → Bk} {n : Nat} (h : ∀ i, i < n → β' i = β i) : ∀ (l : List SV), SV.bndL n l = true → SV.denL E β' l = SV.denL E β l
  | [], _ => by simp [SV.denL]
  | v :: r, hb => by
    simp only [SV.bndL, Bool.and_eq_true] at hb
    simp only [SV.denL, SV.den_agree h v hb.1, SV.denL_agree h r hb.2]
end
inductive SK where
  | int (k : IntKind)
  | bool
  | opq
  deriving DecidableEq, Inhabited
def SK.val : SK → Int → Value → Value
  | .int k, n, _ => .int k n
  | .bool, n, _ => .bool (n != 0)
  | .opq, _, v => v
inductive SBlk where
  | cells (l : List SV) (T : TypeId)
  | arr (a : AE) (ks : List SK) (rows : SE)
  | any
  | row (a : AE) (ks : List SK) (rows : SE) (tail : List SV) (T : TypeId)
  | dead
  | pr (k : Nat) (l : SL)
def rowCells (E : Env) (β : Nat → Bk) (q : Nat → Value) (a : AE) (ks : List SK) (n : Nat) (tail : List SV) : List Value :=
  (List.range (n * ks.length)).map (fun j => (ks.getD (j % ks.length) default).val (a.den E j) (q j)) ++ SV.denL E β tail
def SBlk.ok (E : Env) (β : Nat → Bk) (bk : Bk) (w : World) : SBlk → Prop
  | .cells l T => bk.o = 0 ∧ w.heap[bk.a]? = some (.cells (SV.denL E β l).toArray T (0, 0))
  | .arr a ks n => ∃ cs T fz, w.heap[bk.a]? = some (.cells cs T fz) ∧ ∀ j, j < (n.den E).toNat * ks.length → cs[bk.o + j]? = some ((ks.getD (j % ks.length) default).val (a.den E j) (bk.q j))
  | .any => True
  | .row a ks n tail T => bk.o = 0 ∧ ∃ m, tail.length = m * ks.length ∧ w.ownsRow 0 T ks.length bk.v ((n.den E).toNat + m) (rowCells E β bk.q a ks (n.den E).toNat tail)
  | .dead => True
  | .pr k l => E.fn.p k (l.den E) bk.a bk.v w
def SBlk.bnd (n : Nat) : SBlk → Bool
  | .cells l _ => SV.bndL n l
  | .row _ _ _ l _ => SV.bndL n l
  | _ => true
def SBlk.real (bk : Bk) : SBlk → Prop
  | .row .. => bk.z = false
  | .dead => False
  | _ => True
def SBlk.wr (bk : Bk) : SBlk → Prop
  | .row .. => bk.z = false
  | .cells .. => True
  | .pr .. => True
  | _ => False
theorem SBlk.wr_real {s : SBlk} {bk : Bk} (h : s.wr bk) : s.real bk := by cases s <;> simp_all [SBlk.wr, SBlk.real]
def SBlk.at (E : Env) (bk : Bk) (x : Nat) : SBlk → Prop
  | .pr k l => E.fn.ft k (l.den E) bk.a bk.v x
  | s => s.real bk ∧ x = bk.a
theorem SBlk.at_real {s : SBlk} {bk : Bk} {x : Nat} (h : s.at E bk x) : s.real bk := by cases s <;> simp_all [SBlk.at, SBlk.real]
def SBlk.isPr : SBlk → Bool
  | .pr .. => true
  | _ => false
theorem SBlk.at_of {s : SBlk} {bk : Bk} (h : s.real bk) (hp : s.isPr = false) : s.at E bk bk.a := by cases s <;> simp_all [SBlk.at, SBlk.isPr]
theorem SBlk.at_eq {s : SBlk} {bk : Bk} {x : Nat} (h : s.at E bk x) (hp : s.isPr = false) : x = bk.a := by cases s <;> simp_all [SBlk.at, SBlk.isPr]
theorem SBlk.ok_agree {β β' : Nat → Bk} {n : Nat} (h : ∀ i, i < n → β' i = β i) (s : SBlk) (hb : s.bnd n = true) (bk : Bk) (w : World) : s.ok E β' bk w ↔ s.ok E β bk w := by
  cases s with
  | cells l T => simp only [SBlk.bnd] at hb; simp only [SBlk.ok, SV.denL_agree h l hb]
  | arr a ks n => simp only [SBlk.ok]
  | any => simp only [SBlk.ok]
  | row a ks n l T => simp only [SBlk.bnd] at hb; simp only [SBlk.ok, rowCells, SV.denL_agree h l hb]
  | dead => simp only [SBlk.ok]
  | pr k l => simp only [SBlk.ok]
def SBlk.vb (n : Nat) : SBlk → Bool
  | .cells l _ => SV.vbL n l
  | .arr a _ m => a.vb n && m.vb n
  | .row a _ m l _ => (a.vb n && m.vb n) && SV.vbL n l
  | .pr _ l => l.vb n
  | _ => true
theorem SBlk.ok_ag {E' : Env} {n : Nat} (H : AgE n E E') {β : Nat → Bk} (s : SBlk) (hs : s.vb n = true) (bk : Bk) (w : World) : s.ok E' β bk w ↔ s.ok E β bk w := by
  cases s with
  | cells l T => simp only [SBlk.vb] at hs; simp only [SBlk.ok, SV.denL_ag H β l hs]
  | arr a ks m => simp only [SBlk.vb, Bool.and_eq_true] at hs; simp only [SBlk.ok, AE.den_ag H a hs.1, SE.den_ag H m hs.2]
  | any => simp only [SBlk.ok]
  | row a ks m l T => simp only [SBlk.vb, Bool.and_eq_true] at hs; simp only [SBlk.ok, rowCells, SV.denL_ag H β l hs.2, AE.den_ag H a hs.1.1, SE.den_ag H m hs.1.2]
  | dead => simp only [SBlk.ok]
  | pr k l => simp only [SBlk.vb] at hs; simp only [SBlk.ok, SL.den_ag H l hs, H.fn]
theorem SBlk.at_ag {E' : Env} {n : Nat} (H : AgE n E E') (s : SBlk) (hs : s.vb n = true) (bk : Bk) (x : Nat) : s.at E' bk x ↔ s.at E bk x := by
  cases s with
  | pr k l => simp only [SBlk.vb] at hs; simp only [SBlk.at, SL.den_ag H l hs, H.fn]
  | _ => simp only [SBlk.at]
theorem ownsRow_frame {w w' : World} {base : Nat} {e : TypeId} {size : Nat} {v : Value} {n : Nat} {xs : List Value} (h : w.ownsRow base e size v n xs) (hb : ∀ g, v.ownBlock = some g → w'.heap[g]? = w.heap[g]?) : w'.ownsRow base e size v n xs := by
  refine ⟨h.1, ?_⟩
  rcases h.2 with hn | ⟨g, cap, cur, rfl, h1, h2, h3⟩
  · exact .inl hn
  · exact .inr ⟨g, cap, cur, rfl, h1, by rw [hb g rfl]; exact h2, h3⟩
theorem SBlk.ok_frame {β : Nat → Bk} {bk : Bk} {w w' : World} {s : SBlk} (hs : ∀ x, s.at E bk x → w'.heap[x]? = w.heap[x]?) (h : s.ok E β bk w) : s.ok E β bk w' := by
  cases s with
  | cells l T => simp only [SBlk.ok] at h ⊢; exact ⟨h.1, by rw [hs _ ⟨trivial, rfl⟩]; exact h.2⟩
  | arr a ks n => simp only [SBlk.ok] at h ⊢; rw [hs _ ⟨trivial, rfl⟩]; exact h
  | pr k l => simp only [SBlk.ok] at h ⊢; exact E.fn.pf _ _ _ _ _ _ h fun x hx => hs x hx
  | any => trivial
  | row a ks n l T =>
    obtain ⟨h0, m, h1, h2⟩ := h
    refine ⟨h0, m, h1, ownsRow_frame h2 fun g hg => ?_⟩
    unfold Bk.v at hg
    cases hz : bk.z with
    | true => rw [hz] at hg; cases hg
    | false =>
      rw [hz] at hg
      simp [Value.ownBlock] at hg
      subst hg
      exact hs _ ⟨hz, rfl⟩
  | dead => trivial
structure HOk (E : Env) (β : Nat → Bk) (h : List SBlk) (w : World) : Prop where
  dis : ∀ (i j : Nat) (s t : SBlk) (x : Nat), h[i]? = some s → h[j]? = some t → s.at E (β i) x → t.at E (β j) x → i = j
  lt : ∀ (i : Nat) (s : SBlk) (x : Nat), h[i]? = some s → s.at E (β i) x → x < w.heap.size
  ok : ∀ (i : Nat) (s : SBlk), h[i]? = some s → SBlk.ok E β (β i) w s
theorem HOk.inj {β : Nat → Bk} {h : List SBlk} {w : World} (hw : HOk E β h w) {i j : Nat} {s t : SBlk} (hi : h[i]? = some s) (hj : h[j]? = some t) (hri : s.real (β i)) (hrj : t.real (β j)) (hps : s.isPr = false) (hpt : t.isPr = false) (he : (β i).a = (β j).a) : i = j :=
  hw.dis i j s t (β i).a hi hj (SBlk.at_of hri hps) (by rw [he]; exact SBlk.at_of hrj hpt)
theorem HOk.lta {β : Nat → Bk} {h : List SBlk} {w : World} (hw : HOk E β h w) {i : Nat} {s : SBlk} (hi : h[i]? = some s) (hr : s.real (β i)) (hp : s.isPr = false) : (β i).a < w.heap.size :=
  hw.lt i s _ hi (SBlk.at_of hr hp)
def Facts (E : Env) (F : List (SB × Bool)) : Prop := ∀ p ∈ F, p.1.den E = p.2
def look (b : SB) : List (SB × Bool) → Option Bool
  | [] => none
  | (c, t) :: r => if c = b then some t else look b r
theorem look_ok {b : SB} {t : Bool} : ∀ {F : List (SB × Bool)}, Facts E F → look b F = some t → b.den E = t
  | [], _, h => by simp [look] at h
  | (c, u) :: r, hF, h => by
    simp only [look] at h
    split at h
    · rename_i hc; subst hc; simp at h; subst h; exact hF (c, u) (by simp)
    · exact look_ok (fun p hp => hF p (by simp [hp])) h
def omx (a b : Option Int) : Option Int := match a, b with
  | some x, some y => some (if x < y then y else x)
  | some x, none => some x
  | none, y => y
def omn (a b : Option Int) : Option Int := match a, b with
  | some x, some y => some (if y < x then y else x)
  | some x, none => some x
  | none, y => y
def oadd (a b : Option Int) : Option Int := match a, b with
  | some x, some y => some (x + y)
  | _, _ => none
def oneg (a : Option Int) : Option Int := a.map (fun x => -x)
def omulc (n : Int) (a : Option Int) : Option Int := a.map (· * n)
def fR (p : SE → Bool) : List (SB × Bool) → Option Int × Option Int
  | [] => (none, none)
  | (b, t) :: r =>
    match b, t with
    | .le (.c n) y, true => if p y then (omx (some n) (fR p r).1, (fR p r).2) else fR p r
    | .le y (.c n), true => if p y then ((fR p r).1, omn (some n) (fR p r).2) else fR p r
    | .lt (.c n) y, true => if p y then (omx (some (n + 1)) (fR p r).1, (fR p r).2) else fR p r
    | .lt y (.c n), true => if p y then ((fR p r).1, omn (some (n - 1)) (fR p r).2) else fR p r
    | .lt y (.c n), false => if p y then (omx (some n) (fR p r).1, (fR p r).2) else fR p r
    | .lt (.c n) y, false => if p y then ((fR p r).1, omn (some n) (fR p r).2) else fR p r
    | .le y (.c n), false => if p y then (omx (some (n + 1)) (fR p r).1, (fR p r).2) else fR p r
    | .le (.c n) y, false => if p y then ((fR p r).1, omn (some (n - 1)) (fR p r).2) else fR p r
    | .eq y (.c n), true => if p y then (omx (some n) (fR p r).1, omn (some n) (fR p r).2) else fR p r
    | _, _ => fR p r
def isV (i : Nat) (y : SE) : Bool := match y with | .v j => Nat.beq j i | _ => false
def isE (x y : SE) : Bool := decide (y = x)
def isLo (a : Option Int) (n : Int) : Prop := ∀ x, a = some x → x ≤ n
def isHi (a : Option Int) (n : Int) : Prop := ∀ x, a = some x → n ≤ x
theorem isLo_omx {a b : Option Int} {n : Int} (h : isLo a n) (k : isLo b n) : isLo (omx a b) n := by
  intro x hx; unfold omx at hx; split at hx
  · cases hx; have := h _ rfl; have := k _ rfl; split <;> assumption
  · cases hx; exact h _ rfl
  · exact k _ hx
theorem isHi_omn {a b : Option Int} {n : Int} (h : isHi a n) (k : isHi b n) : isHi (omn a b) n := by
  intro x hx; unfold omn at hx; split at hx
  · cases hx; have := h _ rfl; have := k _ rfl; split <;> assumption
  · cases hx; exact h _ rfl
  · exact k _ hx
theorem isLo_none (n : Int) : isLo none n := fun x hx => by cases hx
theorem isHi_none (n : Int) : isHi none n := fun x hx => by cases hx
theorem isLo_some {m n : Int} (h : m ≤ n) : isLo (some m) n := fun x hx => by cases hx; exact h
theorem isHi_some {m n : Int} (h : n ≤ m) : isHi (some m) n := fun x hx => by cases hx; exact h
theorem fR_ok {p : SE → Bool} {z : Int} (hp : ∀ y, p y = true → y.den E = z) : ∀ {F : List (SB × Bool)}, Facts E F → isLo (fR p F).1 z ∧ isHi (fR p F).2 z
  | [], _ => ⟨isLo_none _, isHi_none _⟩
  | (b, t) :: r, hF => by
    have ih := fR_ok hp (F := r) fun q hq => hF q (by simp [hq])
    have h : b.den E = t := hF (b, t) (by simp)
    unfold fR
    split
    all_goals first
      | exact ih
      | (split
         · rename_i hy
           have hz := hp _ hy
           simp only [SB.den, decide_eq_true_eq, decide_eq_false_iff_not, beq_iff_eq, hz] at h
           simp only [SE.den] at h
           first
             | exact ⟨isLo_omx (isLo_some (by omega)) ih.1, ih.2⟩
             | exact ⟨ih.1, isHi_omn (isHi_some (by omega)) ih.2⟩
             | exact ⟨isLo_omx (isLo_some (by omega)) ih.1, isHi_omn (isHi_some (by omega)) ih.2⟩
         · exact ih)
theorem isV_ok {i : Nat} {y : SE} (h : isV i y = true) : y.den E = E.i i := by
  unfold isV at h; split at h
  · rw [Nat.eq_of_beq_eq_true h]; rfl
  · cases h
theorem isE_ok {x y : SE} (h : isE x y = true) : y.den E = x.den E := by
  unfold isE at h; rw [of_decide_eq_true h]
def fitsR (k : IntKind) (r : Option Int × Option Int) : Bool :=
  match r with
  | (some a, some b) => decide (k.min ≤ a) && decide (b ≤ k.max)
  | _ => false
def nnLo (a : Option Int) : Bool := match a with | some x => decide (0 ≤ x) | none => false
def rng0 (F : List (SB × Bool)) : SE → Option Int × Option Int
  | .c n => (some n, some n)
  | .add x y => let a := rng0 F x; let b := rng0 F y; (oadd a.1 b.1, oadd a.2 b.2)
  | .sub x y => let a := rng0 F x; let b := rng0 F y; (oadd a.1 (oneg b.2), oadd a.2 (oneg b.1))
  | .mul x (.c n) => if 0 ≤ n then let a := rng0 F x; (omulc n a.1, omulc n a.2) else (none, none)
  | .mul (.c n) y => if 0 ≤ n then let a := rng0 F y; (omulc n a.1, omulc n a.2) else (none, none)
  | .mul _ _ => (none, none)
  | .wrap k x => let a := rng0 F x; if fitsR k a then a else (some k.min, some k.max)
  | .tdiv x (.c n) => if 0 < n then let a := rng0 F x; (a.1.map (·.tdiv n), a.2.map (·.tdiv n)) else (none, none)
  | .tmod x (.c n) => if 0 < n then let a := rng0 F x; if nnLo a.1 then (some 0, omn a.2 (some (n - 1))) else (some (-(n - 1)), some (n - 1)) else (none, none)
  | .mn x y => let a := rng0 F x; let b := rng0 F y; (match a.1, b.1 with | some p, some q => some (if p < q then p else q) | _, _ => none, omn a.2 b.2)
  | .mx x y => let a := rng0 F x; let b := rng0 F y; (omx a.1 b.1, match a.2, b.2 with | some p, some q => some (if p < q then q else p) | _, _ => none)
  | .ite _ x y => let a := rng0 F x; let b := rng0 F y; (match a.1, b.1 with | some p, some q => some (if p < q then p else q) | _, _ => none, match a.2, b.2 with | some p, some q => some (if p < q then q else p) | _, _ => none)
  | .v i => fR (isV i) F
  | e => fR (isE e) F
theorem wrap_range (k : IntKind) (n : Int) : k.min ≤ k.wrap n ∧ k.wrap n ≤ k.max := by
  cases k <;> simp [IntKind.wrap, IntKind.bits, IntKind.signed, IntKind.min, IntKind.max] <;> (repeat' split) <;> omega
theorem wrap_id {k : IntKind} {n : Int} (h : k.min ≤ n ∧ n ≤ k.max) : k.wrap n = n := by
  cases k <;> simp [IntKind.wrap, IntKind.bits, IntKind.signed, IntKind.min, IntKind.max] at h ⊢ <;> (repeat' split) <;> omega
theorem isLo_add {a b : Option Int} {m n : Int} (h : isLo a m) (k : isLo b n) : isLo (oadd a b) (m + n) := by
  intro x hx; unfold oadd at hx; split at hx
  · cases hx; have := h _ rfl; have := k _ rfl; omega
  · cases hx
theorem isHi_add {a b : Option Int} {m n : Int} (h : isHi a m) (k : isHi b n) : isHi (oadd a b) (m + n) := by
  intro x hx; unfold oadd at hx; split at hx
  · cases hx; have := h _ rfl; have := k _ rfl; omega
  · cases hx
theorem isLo_neg {a : Option Int} {m : Int} (h : isHi a m) : isLo (oneg a) (-m) := by
  intro x hx; cases a with
  | none => cases hx
  | some y => simp [oneg] at hx; have := h y rfl; omega
theorem isHi_neg {a : Option Int} {m : Int} (h : isLo a m) : isHi (oneg a) (-m) := by
  intro x hx; cases a with
  | none => cases hx
  | some y => simp [oneg] at hx; have := h y rfl; omega
theorem isLo_mulc {a : Option Int} {m n : Int} (hn : 0 ≤ n) (h : isLo a m) : isLo (omulc n a) (m * n) := by
  intro x hx; cases a with
  | none => cases hx
  | some y => simp [omulc] at hx; subst hx; exact Int.mul_le_mul_of_nonneg_right (h y rfl) hn
theorem isHi_mulc {a : Option Int} {m n : Int} (hn : 0 ≤ n) (h : isHi a m) : isHi (omulc n a) (m * n) := by
  intro x hx; cases a with
  | none => cases hx
  | some y => simp [omulc] at hx; subst hx; exact Int.mul_le_mul_of_nonneg_right (h y rfl) hn
theorem fitsR_ok {k : IntKind} {r : Option Int × Option Int} {n : Int} (h : fitsR k r = true) (h1 : isLo r.1 n) (h2 : isHi r.2 n) : k.min ≤ n ∧ n ≤ k.max := by
  obtain ⟨a, b⟩ := r
  unfold fitsR at h
  split at h
  · rename_i x y he
    cases he
    simp only [Bool.and_eq_true, decide_eq_true_eq] at h
    have := h1 _ rfl; have := h2 _ rfl; omega
  · cases h
theorem rng0_ok {F : List (SB × Bool)} (hF : Facts E F) : ∀ (e : SE), isLo (rng0 F e).1 (e.den E) ∧ isHi (rng0 F e).2 (e.den E)
  | .c n => ⟨isLo_some (Int.le_refl _), isHi_some (Int.le_refl _)⟩
  | .add x y => by have ix := rng0_ok hF x; have iy := rng0_ok hF y; exact ⟨isLo_add ix.1 iy.1, isHi_add ix.2 iy.2⟩
  | .sub x y => by
    have ix := rng0_ok hF x
    have iy := rng0_ok hF y
    have e : (SE.sub x y).den E = x.den E + -(y.den E) := by simp only [SE.den]; omega
    rw [e]; exact ⟨isLo_add ix.1 (isLo_neg iy.2), isHi_add ix.2 (isHi_neg iy.1)⟩
  | .mul x y => by
    have ix := rng0_ok hF x
    have iy := rng0_ok hF y
    unfold rng0
    split
    all_goals first | (rename_i h; cases h; done) | skip
    · rename_i x' n he
      cases he
      split
      · rename_i hn; exact ⟨isLo_mulc hn ix.1, isHi_mulc hn ix.2⟩
      · exact ⟨isLo_none _, isHi_none _⟩
    · rename_i n y' _ he
      cases he
      have e : (SE.mul (.c n) y).den E = y.den E * n := by simp only [SE.den]; exact Int.mul_comm _ _
      split
      · rename_i hn; rw [e]; exact ⟨isLo_mulc hn iy.1, isHi_mulc hn iy.2⟩
      · exact ⟨isLo_none _, isHi_none _⟩
    all_goals first | exact ⟨isLo_none _, isHi_none _⟩ | exact fR_ok (fun y hy => isE_ok hy) hF
  | .wrap k x => by
    have ix := rng0_ok hF x
    unfold rng0
    simp only
    split
    · rename_i hf
      have := wrap_id (fitsR_ok hf ix.1 ix.2)
      simp only [SE.den, this]; exact ix
    · exact ⟨isLo_some (wrap_range _ _).1, isHi_some (wrap_range _ _).2⟩
  | .tdiv x y => by
    have ix := rng0_ok hF x
    have iy := rng0_ok hF y
    unfold rng0
    split
    all_goals first | (rename_i h; cases h; done) | skip
    · rename_i x' n he
      cases he
      split
      · rename_i hn
        simp only [SE.den]
        constructor
        · intro q hq
          cases hr : (rng0 F x).1 with
          | none => rw [hr] at hq; cases hq
          | some u => rw [hr] at hq; simp at hq; subst hq; exact Int.tdiv_le_tdiv hn (ix.1 u hr)
        · intro q hq
          cases hr : (rng0 F x).2 with
          | none => rw [hr] at hq; cases hq
          | some u => rw [hr] at hq; simp at hq; subst hq; exact Int.tdiv_le_tdiv hn (ix.2 u hr)
      · exact ⟨isLo_none _, isHi_none _⟩
    all_goals first | exact ⟨isLo_none _, isHi_none _⟩ | exact fR_ok (fun y hy => isE_ok hy) hF
  | .tmod x y => by
    have ix := rng0_ok hF x
    have iy := rng0_ok hF y
    unfold rng0
    split
    all_goals first | (rename_i h; cases h; done) | skip
    · rename_i x' n he
      cases he
      split
      · rename_i hn
        simp only
        split
        · rename_i h0
          have h0' : 0 ≤ x.den E := by
            unfold nnLo at h0
            split at h0
            · rename_i q hq; have := ix.1 q hq; simp at h0; omega
            · cases h0
          have e : (SE.tmod x (.c n)).den E = x.den E % n := by simp only [SE.den]; exact Int.tmod_eq_emod_of_nonneg h0'
          rw [e]
          have e1 := Int.emod_nonneg (x.den E) (show n ≠ 0 by omega)
          have e2 := Int.emod_lt_of_pos (x.den E) hn
          refine ⟨isLo_some e1, isHi_omn (fun q hq => ?_) (isHi_some (by omega))⟩
          have := ix.2 q hq
          have h3 := Int.mul_ediv_add_emod (x.den E) n
          have h4 := Int.mul_nonneg (Int.le_of_lt hn) (Int.ediv_nonneg h0' (Int.le_of_lt hn))
          omega
        · have e3 := Int.tmod_lt_of_pos (x.den E) hn
          have e4 := Int.lt_tmod_of_pos (x.den E) hn
          exact ⟨isLo_some (by simp only [SE.den]; omega), isHi_some (by simp only [SE.den]; omega)⟩
      · exact ⟨isLo_none _, isHi_none _⟩
    all_goals first | exact ⟨isLo_none _, isHi_none _⟩ | exact fR_ok (fun y hy => isE_ok hy) hF
  | .mn x y => by
    have ix := rng0_ok hF x
    have iy := rng0_ok hF y
    unfold rng0
    simp only [SE.den, imn]
    constructor
    · intro q hq
      split at hq
      · rename_i p r hp hr
        cases hq
        have := ix.1 _ hp; have := iy.1 _ hr
        split <;> split <;> omega
      · cases hq
    · split
      · rename_i hlt
        refine isHi_omn (fun q hq => ?_) iy.2
        have := ix.2 q hq; omega
      · rename_i hlt
        refine isHi_omn ix.2 (fun q hq => ?_)
        have := iy.2 q hq; omega
  | .mx x y => by
    have ix := rng0_ok hF x
    have iy := rng0_ok hF y
    unfold rng0
    simp only [SE.den, imx]
    constructor
    · split
      · rename_i hlt
        refine isLo_omx (fun q hq => ?_) iy.1
        have := ix.1 q hq; omega
      · rename_i hlt
        refine isLo_omx ix.1 (fun q hq => ?_)
        have := iy.1 q hq; omega
    · intro q hq
      split at hq
      · rename_i p r hp hr
        cases hq
        have := ix.2 _ hp; have := iy.2 _ hr
        split <;> split <;> omega
      · cases hq
  | .ite b x y => by
    have ix := rng0_ok hF x
    have iy := rng0_ok hF y
    unfold rng0
    simp only [SE.den]
    constructor
    · intro q hq
      split at hq
      · rename_i p r hp hr
        cases hq
        have := ix.1 _ hp; have := iy.1 _ hr
        split <;> split <;> omega
      · cases hq
    · intro q hq
      split at hq
      · rename_i p r hp hr
        cases hq
        have := ix.2 _ hp; have := iy.2 _ hr
        split <;> split <;> omega
      · cases hq
  | .v i => by unfold rng0; exact fR_ok (fun y hy => isV_ok hy) hF
  | .rd a o => by unfold rng0; exact fR_ok (fun y hy => isE_ok hy) hF
  | .bits o k x y => by unfold rng0; exact fR_ok (fun y hy => isE_ok hy) hF
  | .shl k x y => by unfold rng0; exact fR_ok (fun y hy => isE_ok hy) hF
  | .shr k x y => by unfold rng0; exact fR_ok (fun y hy => isE_ok hy) hF
  | .ni x y => by unfold rng0; exact fR_ok (fun y hy => isE_ok hy) hF
  | .ap f l => by unfold rng0; exact fR_ok (fun y hy => isE_ok hy) hF
def rdec (F : List (SB × Bool)) : SB → Option Bool
  | .lt x y => let a := rng0 F x; let b := rng0 F y
    match a.2, b.1 with
    | some p, some q => if p < q then some true else match a.1, b.2 with
      | some r, some s => if s ≤ r then some false else none
      | _, _ => none
    | _, _ => match a.1, b.2 with
      | some r, some s => if s ≤ r then some false else none
      | _, _ => none
  | .le x y => let a := rng0 F x; let b := rng0 F y
    match a.2, b.1 with
    | some p, some q => if p ≤ q then some true else match a.1, b.2 with
      | some r, some s => if s < r then some false else none
      | _, _ => none
    | _, _ => match a.1, b.2 with
      | some r, some s => if s < r then some false else none
      | _, _ => none
  | .eq x y => let a := rng0 F x; let b := rng0 F y
    match a.2, b.1 with
    | some p, some q => if p < q then some false else match a.1, b.2 with
      | some r, some s => if s < r then some false else none
      | _, _ => none
    | _, _ => match a.1, b.2 with
      | some r, some s => if s < r then some false else none
      | _, _ => none
  | _ => none
theorem rdec_ok {F : List (SB × Bool)} (hF : Facts E F) {b : SB} {t : Bool} (h : rdec F b = some t) : b.den E = t := by
  unfold rdec at h
  split at h
  · rename_i x y
    obtain ⟨x1, x2⟩ := rng0_ok hF x
    obtain ⟨y1, y2⟩ := rng0_ok hF y
    simp only at h
    have lo : ∀ {r s : Int}, (rng0 F x).1 = some r → (rng0 F y).2 = some s → s ≤ r → (SB.lt x y).den E = false := fun hr hs hle => by
      have := x1 _ hr; have := y2 _ hs
      simp only [SB.den, decide_eq_false_iff_not]; omega
    split at h
    · rename_i p q hp hq
      split at h
      · rename_i hlt; cases h
        have := x2 _ hp; have := y1 _ hq
        simp only [SB.den, decide_eq_true_eq]; omega
      · split at h
        · rename_i r s hr hs
          split at h
          · rename_i hle; cases h; exact lo hr hs hle
          · cases h
        · cases h
    · split at h
      · rename_i r s hr hs
        split at h
        · rename_i hle; cases h; exact lo hr hs hle
        · cases h
      · cases h
  · rename_i x y
    obtain ⟨x1, x2⟩ := rng0_ok hF x
    obtain ⟨y1, y2⟩ := rng0_ok hF y
    simp only at h
    have lo : ∀ {r s : Int}, (rng0 F x).1 = some r → (rng0 F y).2 = some s → s < r → (SB.le x y).den E = false := fun hr hs hle => by
      have := x1 _ hr; have := y2 _ hs
      simp only [SB.den, decide_eq_false_iff_not]; omega
    split at h
    · rename_i p q hp hq
      split at h
      · rename_i hlt; cases h
        have := x2 _ hp; have := y1 _ hq
        simp only [SB.den, decide_eq_true_eq]; omega
      · split at h
        · rename_i r s hr hs
          split at h
          · rename_i hle; cases h; exact lo hr hs hle
          · cases h
        · cases h
    · split at h
      · rename_i r s hr hs
        split at h
        · rename_i hle; cases h; exact lo hr hs hle
        · cases h
      · cases h
  · rename_i x y
    obtain ⟨x1, x2⟩ := rng0_ok hF x
    obtain ⟨y1, y2⟩ := rng0_ok hF y
    simp only at h
    have lo : ∀ {r s : Int}, (rng0 F x).1 = some r → (rng0 F y).2 = some s → s < r → (SB.eq x y).den E = false := fun hr hs hle => by
      have := x1 _ hr; have := y2 _ hs
      simp only [SB.den, beq_eq_false_iff_ne]; omega
    split at h
    · rename_i p q hp hq
      split at h
      · rename_i hlt; cases h
        have := x2 _ hp; have := y1 _ hq
        simp only [SB.den, beq_eq_false_iff_ne]; omega
      · split at h
        · rename_i r s hr hs
          split at h
          · rename_i hle; cases h; exact lo hr hs hle
          · cases h
        · cases h
    · split at h
      · rename_i r s hr hs
        split at h
        · rename_i hle; cases h; exact lo hr hs hle
        · cases h
      · cases h
  · cases h
def dec1 (F : List (SB × Bool)) : SB → Option Bool
  | .c b => some b
  | .not x => (dec1 F x).map (!·)
  | b => match look b F with
    | some t => some t
    | none => rdec F b
def dec (F : List (SB × Bool)) (b : SB) : Option Bool := dec1 F b
theorem dec1_base {F : List (SB × Bool)} (hF : Facts E F) {b : SB} {t : Bool} (h : (match look b F with | some t => some t | none => rdec F b) = some t) : b.den E = t := by
  split at h
  · rename_i u hu; cases h; exact look_ok hF hu
  · exact rdec_ok hF h
theorem dec1_ok {F : List (SB × Bool)} (hF : Facts E F) : ∀ {b : SB} {t : Bool}, dec1 F b = some t → b.den E = t
  | .c b, t, h => by simp [dec1] at h; simp [SB.den, h]
  | .not x, t, h => by
    simp only [dec1, Option.map_eq_some_iff] at h
    obtain ⟨u, hu, rfl⟩ := h
    simp [SB.den, dec1_ok hF hu]
  | .v .., t, h => dec1_base hF h
  | .lt .., t, h => dec1_base hF h
  | .le .., t, h => dec1_base hF h
  | .eq .., t, h => dec1_base hF h
  | .beq .., t, h => dec1_base hF h
  | .and .., t, h => dec1_base hF h
  | .ap .., t, h => dec1_base hF h
theorem dec_ok {F : List (SB × Bool)} (hF : Facts E F) {b : SB} {t : Bool} (h : dec F b = some t) : b.den E = t := dec1_ok hF h
def wrapR (F : List (SB × Bool)) (k : IntKind) (x : SE) : SE := if fitsR k (rng0 F x) then x else .mkWrap k x
theorem wrapR_ok {F : List (SB × Bool)} (hF : Facts E F) (k : IntKind) (x : SE) : (wrapR F k x).den E = k.wrap (x.den E) := by
  unfold wrapR
  split
  · rename_i h
    obtain ⟨h1, h2⟩ := rng0_ok hF x
    exact (wrap_id (fitsR_ok h h1 h2)).symm
  · exact SE.den_mkWrap k x
def cstR (F : List (SB × Bool)) (e : SE) : SE :=
  match rng0 F e with
  | (some a, some b) => if a = b then .c a else e
  | _ => e
theorem cstR_ok {F : List (SB × Bool)} (hF : Facts E F) (e : SE) : (cstR F e).den E = e.den E := by
  unfold cstR
  split
  · rename_i a b h
    obtain ⟨h1, h2⟩ := rng0_ok hF e
    rw [h] at h1 h2
    split
    · rename_i hab
      subst hab
      have := h1 _ rfl; have := h2 _ rfl
      simp only [SE.den]; omega
    · rfl
  · rfl
def nonneg0 (F : List (SB × Bool)) : SE → Bool
  | .c n => decide (0 ≤ n)
  | .add x y => nonneg0 F x && nonneg0 F y
  | .mul x y => nonneg0 F x && nonneg0 F y
  | .mx x y => nonneg0 F x || nonneg0 F y
  | .mn x y => nonneg0 F x && nonneg0 F y
  | .ni _ y => nonneg0 F y
  | .sub x y => look (.le y x) F == some true || look (.lt x y) F == some false || look (.le (.c 0) (.sub x y)) F == some true || look (.lt (.sub x y) (.c 0)) F == some false
  | e => look (.le (.c 0) e) F == some true || look (.lt e (.c 0)) F == some false
theorem le0_of {F : List (SB × Bool)} (hF : Facts E F) {e : SE} (h : (look (.le (.c 0) e) F == some true || look (.lt e (.c 0)) F == some false) = true) : 0 ≤ e.den E := by
  rw [Bool.or_eq_true, beq_iff_eq, beq_iff_eq] at h
  rcases h with h | h
  · have h' := look_ok hF h
    exact of_decide_eq_true h'
  · have h' := look_ok hF h
    have := of_decide_eq_false h'
    exact Int.not_lt.1 this
theorem nonneg0_ok {F : List (SB × Bool)} (hF : Facts E F) : ∀ {e : SE}, nonneg0 F e = true → 0 ≤ e.den E
  | .c n, h => by simpa [nonneg0, SE.den] using h
  | .add x y, h => by
    simp only [nonneg0, Bool.and_eq_true] at h
    have := nonneg0_ok hF h.1; have := nonneg0_ok hF h.2; simp only [SE.den]; omega
  | .mul x y, h => by
    simp only [nonneg0, Bool.and_eq_true] at h
    have h1 := nonneg0_ok hF h.1; have h2 := nonneg0_ok hF h.2; simp only [SE.den]; exact Int.mul_nonneg h1 h2
  | .mx x y, h => by
    simp only [nonneg0, Bool.or_eq_true] at h
    simp only [SE.den, imx]
    rcases h with h | h <;> have := nonneg0_ok hF h <;> split <;> omega
  | .mn x y, h => by
    simp only [nonneg0, Bool.and_eq_true] at h
    have := nonneg0_ok hF h.1; have := nonneg0_ok hF h.2; simp only [SE.den, imn]; split <;> omega
  | .ni x y, h => by
    simp only [nonneg0] at h
    have := nonneg0_ok hF h; simp only [SE.den, ini]; split <;> omega
  | .sub x y, h => by
    simp only [nonneg0] at h
    rw [Bool.or_eq_true, Bool.or_eq_true, Bool.or_eq_true, beq_iff_eq, beq_iff_eq, beq_iff_eq, beq_iff_eq] at h
    rcases h with ((h | h) | h) | h
    · have h1 : y.den E ≤ x.den E := of_decide_eq_true (look_ok hF h)
      simp only [SE.den]; omega
    · have h1 : ¬ x.den E < y.den E := of_decide_eq_false (look_ok hF h)
      simp only [SE.den]; omega
    · exact le0_of hF (by rw [h]; rfl)
    · exact le0_of hF (by rw [h]; simp)
  | .v i, h => le0_of hF h
  | .wrap k x, h => le0_of hF h
  | .tdiv x y, h => le0_of hF h
  | .tmod x y, h => le0_of hF h
  | .bits .., h => le0_of hF h
  | .shl .., h => le0_of hF h
  | .shr .., h => le0_of hF h
  | .rd .., h => le0_of hF h
  | .ap .., h => le0_of hF h
  | .ite .., h => le0_of hF h
def nonneg (F : List (SB × Bool)) (e : SE) : Bool := nonneg0 F e || nnLo (rng0 F e).1
theorem nonneg_ok {F : List (SB × Bool)} (hF : Facts E F) {e : SE} (h : nonneg F e = true) : 0 ≤ e.den E := by
  unfold nonneg at h
  rw [Bool.or_eq_true] at h
  rcases h with h | h
  · exact nonneg0_ok hF h
  · unfold nnLo at h
    split at h
    · rename_i x hx
      have := (rng0_ok hF e).1 x hx
      simp only [decide_eq_true_eq] at h
      omega
    · cases h
def nn (F : List (SB × Bool)) (e : SE) : SE := if nonneg F e then e else .mx (.c 0) e
theorem nn_ok {F : List (SB × Bool)} (hF : Facts E F) (e : SE) : (nn F e).den E = ((e.den E).toNat : Int) := by
  unfold nn
  split
  · rename_i h; have := nonneg_ok hF h; omega
  · simp only [SE.den]
    unfold imx; split <;> omega
end Go.Sy
