/- The symbolic words of a small executor over the model's code: whole numbers and truth values as terms over an environment, values, blocks, and what they denote. -/
import Derived.WalkKit
set_option linter.unusedVariables false
set_option linter.unusedSimpArgs false
namespace Go.Sx
open Go

structure Env where
  i : Nat → Int
  b : Nat → Bool
  a : Nat → Nat → Int
  o : Nat → Value
  f : Nat → Int → Int → Int → Int → Int
  g : Nat → Int → Int → Int → Int → Bool


inductive SE where
  | c (n : Int)
  | v (i : Nat)
  | add (x y : SE)
  | sub (x y : SE)
  | mul (x y : SE)
  | wrap (k : IntKind) (x : SE)
  | tdiv (x y : SE)
  | tmod (x y : SE)
  | bits (op : BinOp) (k : IntKind) (x y : SE)
  | shl (k : IntKind) (x y : SE)
  | shr (k : IntKind) (x y : SE)
  | rd (a : Nat) (o : SE)
  | mn (x y : SE)
  | mx (x y : SE)
  | iv (k : IntKind) (i : Nat)
  | nv (i : Nat)
  | ni (x y : SE)
  | ap (f : Nat) (x y z u : SE)
  deriving DecidableEq

def imn (a b : Int) : Int := if b < a then b else a
def imx (a b : Int) : Int := if a < b then b else a
def ini (a b : Int) : Int := if a = b then 0 else b
def SE.den (E : Env) : SE → Int
  | .c n => n
  | .v i => E.i i
  | .add x y => x.den E + y.den E
  | .sub x y => x.den E - y.den E
  | .mul x y => x.den E * y.den E
  | .wrap k x => k.wrap (x.den E)
  | .tdiv x y => (x.den E).tdiv (y.den E)
  | .tmod x y => (x.den E).tmod (y.den E)
  | .bits op k x y => Go.bits op k (x.den E) (y.den E)
  | .shl k x y => k.wrap (x.den E * 2 ^ min (y.den E).toNat k.bits)
  | .shr k x y => (x.den E).fdiv (2 ^ min (y.den E).toNat k.bits)
  | .rd a o => E.a a (o.den E).toNat
  | .mn x y => imn (x.den E) (y.den E)
  | .mx x y => imx (x.den E) (y.den E)
  | .iv k i => k.wrap (E.i i)
  | .nv i => ((E.i i).toNat : Int)
  | .ni x y => ini (x.den E) (y.den E)
  | .ap f x y z u => E.f f (x.den E) (y.den E) (z.den E) (u.den E)

inductive SB where
  | c (b : Bool)
  | v (i : Nat)
  | lt (x y : SE)
  | le (x y : SE)
  | eq (x y : SE)
  | not (x : SB)
  | beq (x y : SB)
  | ap (f : Nat) (x y z u : SE)
  deriving DecidableEq

def SB.den (E : Env) : SB → Bool
  | .c b => b
  | .v i => E.b i
  | .lt x y => decide (x.den E < y.den E)
  | .le x y => decide (x.den E ≤ y.den E)
  | .eq x y => x.den E == y.den E
  | .not x => !x.den E
  | .beq x y => x.den E == y.den E
  | .ap f x y z u => E.g f (x.den E) (y.den E) (z.den E) (u.den E)

/- smart constructors -/
def SE.isC : SE → Option Int
  | .c n => some n
  | _ => none
def SE.mkAdd (x y : SE) : SE :=
  match x, y with
  | .c a, .c b => .c (a + b)
  | x, .c b => if b = 0 then x else .add x (.c b)
  | .c a, y => if a = 0 then y else .add (.c a) y
  | x, y => .add x y
def SE.mkSub (x y : SE) : SE :=
  match x, y with
  | .c a, .c b => .c (a - b)
  | x, .c b => if b = 0 then x else .sub x (.c b)
  | x, y => .sub x y
def SE.mkMul (x y : SE) : SE :=
  match x, y with
  | .c a, .c b => .c (a * b)
  | x, .c b => if b = 1 then x else .mul x (.c b)
  | .c a, y => if a = 1 then y else .mul (.c a) y
  | x, y => .mul x y
def SE.mkWrap (k : IntKind) (x : SE) : SE :=
  match x with
  | .c a => .c (k.wrap a)
  | .wrap j y => if j = k then .wrap k y else .wrap k (.wrap j y)
  | .iv j i => if j = k then .iv k i else .wrap k (.iv j i)
  | x => .wrap k x
def SE.mkNi (x y : SE) : SE :=
  match x, y with
  | .c a, .c b => .c (ini a b)
  | x, y => .ni x y
theorem wrap_wrap (k : IntKind) (n : Int) : k.wrap (k.wrap n) = k.wrap n := by
  cases k <;> simp [IntKind.wrap, IntKind.bits, IntKind.signed] <;> (repeat' split) <;> omega
def SE.mkTdiv (x y : SE) : SE :=
  match x, y with
  | .c a, .c b => .c (a.tdiv b)
  | x, y => .tdiv x y
def SE.mkTmod (x y : SE) : SE :=
  match x, y with
  | .c a, .c b => .c (a.tmod b)
  | x, y => .tmod x y
def SE.mkBits (op : BinOp) (k : IntKind) (x y : SE) : SE :=
  match x, y with
  | .c a, .c b => .c (Go.bits op k a b)
  | x, y => .bits op k x y
def SE.mkShl (k : IntKind) (x y : SE) : SE :=
  match x, y with
  | .c a, .c b => .c (k.wrap (a * 2 ^ min b.toNat k.bits))
  | x, y => .shl k x y
def SE.mkShr (k : IntKind) (x y : SE) : SE :=
  match x, y with
  | .c a, .c b => .c (a.fdiv (2 ^ min b.toNat k.bits))
  | x, y => .shr k x y
def SE.mkMn (x y : SE) : SE :=
  match x, y with
  | .c a, .c b => .c (imn a b)
  | x, y => .mn x y
def SE.mkMx (x y : SE) : SE :=
  match x, y with
  | .c a, .c b => .c (imx a b)
  | x, y => .mx x y
def SB.mkLt (x y : SE) : SB :=
  match x, y with
  | .c a, .c b => .c (decide (a < b))
  | x, y => .lt x y
def SB.mkLe (x y : SE) : SB :=
  match x, y with
  | .c a, .c b => .c (decide (a ≤ b))
  | x, y => .le x y
def SB.mkEq (x y : SE) : SB :=
  match x, y with
  | .c a, .c b => .c (decide (a = b))
  | x, y => .eq x y
def SB.mkNot (x : SB) : SB :=
  match x with
  | .c b => .c (!b)
  | .not x => x
  | x => .not x
def SB.mkBeq (x y : SB) : SB :=
  match x, y with
  | .c a, .c b => .c (a == b)
  | x, .c b => if b then x else SB.mkNot x
  | .c a, y => if a then y else SB.mkNot y
  | x, y => .beq x y

variable {E : Env}
theorem SE.den_mkAdd (x y : SE) : (SE.mkAdd x y).den E = x.den E + y.den E := by
  unfold SE.mkAdd; split <;> (try split) <;> simp_all [SE.den]
theorem SE.den_mkSub (x y : SE) : (SE.mkSub x y).den E = x.den E - y.den E := by
  unfold SE.mkSub; split <;> (try split) <;> simp_all [SE.den]
theorem SE.den_mkMul (x y : SE) : (SE.mkMul x y).den E = x.den E * y.den E := by
  unfold SE.mkMul; split <;> (try split) <;> simp_all [SE.den]
theorem SE.den_mkWrap (k : IntKind) (x : SE) : (SE.mkWrap k x).den E = k.wrap (x.den E) := by
  unfold SE.mkWrap
  split
  · rfl
  · split
    · rename_i h; subst h; simp only [SE.den, wrap_wrap]
    · rfl
  · split
    · rename_i h; subst h; simp only [SE.den, wrap_wrap]
    · rfl
  · rfl
theorem SE.den_mkNi (x y : SE) : (SE.mkNi x y).den E = ini (x.den E) (y.den E) := by
  unfold SE.mkNi; split <;> simp only [SE.den] <;> rfl
theorem SE.den_mkTdiv (x y : SE) : (SE.mkTdiv x y).den E = (x.den E).tdiv (y.den E) := by
  unfold SE.mkTdiv; split <;> simp [SE.den]
theorem SE.den_mkTmod (x y : SE) : (SE.mkTmod x y).den E = (x.den E).tmod (y.den E) := by
  unfold SE.mkTmod; split <;> simp [SE.den]
theorem SE.den_mkBits (op : BinOp) (k : IntKind) (x y : SE) : (SE.mkBits op k x y).den E = Go.bits op k (x.den E) (y.den E) := by
  unfold SE.mkBits; split <;> simp [SE.den]
theorem SE.den_mkShl (k : IntKind) (x y : SE) : (SE.mkShl k x y).den E = k.wrap (x.den E * 2 ^ min (y.den E).toNat k.bits) := by
  unfold SE.mkShl; split <;> simp [SE.den]
theorem SE.den_mkShr (k : IntKind) (x y : SE) : (SE.mkShr k x y).den E = (x.den E).fdiv (2 ^ min (y.den E).toNat k.bits) := by
  unfold SE.mkShr; split <;> simp [SE.den]
theorem SE.den_mkMn (x y : SE) : (SE.mkMn x y).den E = imn (x.den E) (y.den E) := by
  unfold SE.mkMn; split <;> simp only [SE.den] <;> rfl
theorem SE.den_mkMx (x y : SE) : (SE.mkMx x y).den E = imx (x.den E) (y.den E) := by
  unfold SE.mkMx; split <;> simp only [SE.den] <;> rfl
theorem SB.den_mkLt (x y : SE) : (SB.mkLt x y).den E = decide (x.den E < y.den E) := by
  unfold SB.mkLt; split <;> simp only [SE.den, SB.den] <;> rfl
theorem SB.den_mkLe (x y : SE) : (SB.mkLe x y).den E = decide (x.den E ≤ y.den E) := by
  unfold SB.mkLe; split <;> simp only [SE.den, SB.den] <;> rfl
theorem SB.den_mkEq (x y : SE) : (SB.mkEq x y).den E = (x.den E == y.den E) := by
  unfold SB.mkEq; split <;> simp [SE.den, SB.den] <;> rfl
theorem SB.den_mkNot (x : SB) : (SB.mkNot x).den E = !x.den E := by
  unfold SB.mkNot; split <;> simp [SB.den]
theorem SB.den_mkBeq (x y : SB) : (SB.mkBeq x y).den E = (x.den E == y.den E) := by
  unfold SB.mkBeq
  split
  · simp [SB.den]
  · split <;> simp_all [SB.den, SB.den_mkNot]
  · split <;> simp_all [SB.den, SB.den_mkNot] <;> exact Bool.beq_comm
  · simp [SB.den]

/-- An offset: row * stride + col. -/
structure Off where
  row : SE
  stride : Nat
  col : Nat
  deriving DecidableEq
def Off.den (E : Env) (o : Off) : Nat := (o.row.den E).toNat * o.stride + o.col
def Off.z : Off := ⟨.c 0, 0, 0⟩

inductive SV where
  | int (k : IntKind) (e : SE)
  | bool (b : SB)
  | flt (k : FloatKind) (bits : Nat)
  | str (l : List UInt8)
  | nilptr
  | ptr (b : Nat) (o : Off)
  | nilslice
  | slice (b : Nat) (o : Off) (len cap : SE)
  | nilmap
  | map (b : Nat)
  | nilfunc
  | func (fn : Fn) (first captured : List SV)
  | nilif
  | ifc (t : TypeId) (v : SV)
  | agg (l : List SV)
  | tup (l : List SV)
  | opq (i : Nat)

mutual
def SV.den (E : Env) (β : Nat → Nat) : SV → Value
  | .int k e => .int k (e.den E)
  | .bool b => .bool (b.den E)
  | .flt k n => .float k n
  | .str l => .string ⟨l.toArray⟩
  | .nilptr => .pointer none
  | .ptr b o => .pointer (some ⟨β b, o.den E, none⟩)
  | .nilslice => .slice none 0 0
  | .slice b o len cap => .slice (some ⟨β b, o.den E, none⟩) (len.den E).toNat (cap.den E).toNat
  | .nilmap => .map none
  | .map b => .map (some (β b))
  | .nilfunc => .nilFunc
  | .func fn first captured => .func fn (SV.denL E β first).toArray (SV.denL E β captured).toArray
  | .nilif => .nilIface
  | .ifc t v => .iface t (v.den E β)
  | .agg l => .agg (SV.denL E β l).toArray
  | .tup l => .tuple (SV.denL E β l).toArray
  | .opq i => E.o i
def SV.denL (E : Env) (β : Nat → Nat) : List SV → List Value
  | [] => []
  | v :: r => v.den E β :: SV.denL E β r
end
theorem SV.denL_map (β : Nat → Nat) (l : List SV) : SV.denL E β l = l.map (SV.den E β) := by
  induction l with
  | nil => rfl
  | cons v r ih => simp [SV.denL, ih]

/- which blocks a value names: all below n -/
mutual
def SV.bnd (n : Nat) : SV → Bool
  | .ptr b _ => decide (b < n)
  | .slice b _ _ _ => decide (b < n)
  | .map b => decide (b < n)
  | .func _ f c => SV.bndL n f && SV.bndL n c
  | .ifc _ v => v.bnd n
  | .agg l => SV.bndL n l
  | .tup l => SV.bndL n l
  | _ => true
def SV.bndL (n : Nat) : List SV → Bool
  | [] => true
  | v :: r => v.bnd n && SV.bndL n r
end
mutual
theorem SV.den_agree {β β' : Nat → Nat} {n : Nat} (h : ∀ i, i < n → β' i = β i) : ∀ (v : SV), v.bnd n = true → v.den E β' = v.den E β
  | .int .., _ | .bool _, _ | .flt .., _ | .str _, _ | .nilptr, _ | .nilslice, _ | .nilmap, _ | .nilfunc, _ | .nilif, _ | .opq _, _ => by simp [SV.den]
  | .ptr b o, hb => by simp only [SV.bnd, decide_eq_true_eq] at hb; simp [SV.den, h b hb]
  | .slice b o l c, hb => by simp only [SV.bnd, decide_eq_true_eq] at hb; simp [SV.den, h b hb]
  | .map b, hb => by simp only [SV.bnd, decide_eq_true_eq] at hb; simp [SV.den, h b hb]
  | .func fn f c, hb => by
    simp only [SV.bnd, Bool.and_eq_true] at hb
    simp only [SV.den, SV.denL_agree h f hb.1, SV.denL_agree h c hb.2]
  | .ifc t v, hb => by simp only [SV.bnd] at hb; simp only [SV.den, SV.den_agree h v hb]
  | .agg l, hb => by simp only [SV.bnd] at hb; simp only [SV.den, SV.denL_agree h l hb]
  | .tup l, hb => by simp only [SV.bnd] at hb; simp only [SV.den, SV.denL_agree h l hb]
theorem SV.denL_agree {β β' : Nat → Nat} {n : Nat} (h : ∀ i, i < n → β' i = β i) : ∀ (l : List SV), SV.bndL n l = true → SV.denL E β' l = SV.denL E β l
  | [], _ => by simp [SV.denL]
  | v :: r, hb => by
    simp only [SV.bndL, Bool.and_eq_true] at hb
    simp only [SV.denL, SV.den_agree h v hb.1, SV.denL_agree h r hb.2]
end

/- blocks -/
inductive SK where
  | int (k : IntKind)
  | bool
  deriving DecidableEq, Inhabited
def SK.val : SK → Int → Value
  | .int k, n => .int k n
  | .bool, n => .bool (n != 0)

inductive SBlk where
  | cells (l : List SV) (T : TypeId)
  | arr (a : Nat) (ks : List SK) (rows : SE)
  | any

def SBlk.ok (E : Env) (β : Nat → Nat) : SBlk → Option Obj → Prop
  | .cells l T, o => o = some (.cells (SV.denL E β l).toArray T (0, 0))
  | .arr a ks n, o => ∃ cs T fz, o = some (.cells cs T fz) ∧ ∀ j, j < (n.den E).toNat * ks.length → cs[j]? = some ((ks.getD (j % ks.length) default).val (E.a a j))
  | .any, o => True
def SBlk.bnd (n : Nat) : SBlk → Bool
  | .cells l _ => SV.bndL n l
  | _ => true
theorem SBlk.ok_agree {β β' : Nat → Nat} {n : Nat} (h : ∀ i, i < n → β' i = β i) (s : SBlk) (hb : s.bnd n = true) (o : Option Obj) : s.ok E β' o ↔ s.ok E β o := by
  cases s with
  | cells l T => simp only [SBlk.ok, SV.denL_agree h l hb]
  | arr a ks n => simp only [SBlk.ok]
  | any => simp only [SBlk.ok]

/-- The world holds what the symbolic heap says. -/
structure HOk (E : Env) (β : Nat → Nat) (h : List SBlk) (w : World) : Prop where
  inj : ∀ i j, i < h.length → j < h.length → β i = β j → i = j
  lt : ∀ i, i < h.length → β i < w.heap.size
  ok : ∀ (i : Nat) (s : SBlk), h[i]? = some s → SBlk.ok E β s w.heap[β i]?

/-- Facts: truth values that are known on this way. -/
def Facts (E : Env) (F : List (SB × Bool)) : Prop := ∀ p ∈ F, p.1.den E = p.2

def look (b : SB) : List (SB × Bool) → Option Bool
  | [] => none
  | (c, t) :: r => if c = b then some t else look b r
theorem look_ok {b : SB} {t : Bool} : ∀ {F : List (SB × Bool)}, Facts E F → look b F = some t → b.den E = t
  | [], _, h => by simp [look] at h
  | (c, u) :: r, hF, h => by
    simp only [look] at h
    split at h
    · rename_i hc; subst hc; simp at h; subst h; exact hF (c, u) (by simp)
    · exact look_ok (fun p hp => hF p (by simp [hp])) h
/-- Is it decided? -/
def dec (F : List (SB × Bool)) : SB → Option Bool
  | .c b => some b
  | .not x => (dec F x).map (!·)
  | b => look b F
theorem dec_ok {F : List (SB × Bool)} (hF : Facts E F) : ∀ {b : SB} {t : Bool}, dec F b = some t → b.den E = t
  | .c b, t, h => by simp [dec] at h; simp [SB.den, h]
  | .not x, t, h => by
    simp only [dec, Option.map_eq_some_iff] at h
    obtain ⟨u, hu, rfl⟩ := h
    simp [SB.den, dec_ok hF hu]
  | .v i, t, h => look_ok hF h
  | .lt x y, t, h => look_ok hF h
  | .le x y, t, h => look_ok hF h
  | .eq x y, t, h => look_ok hF h
  | .beq x y, t, h => look_ok hF h
  | .ap .., t, h => look_ok hF h

/- putting terms for the variables -/
def SE.puts (l : List SE) : SE → SE
  | .c n => .c n
  | .v i => l.getD i (.c 0)
  | .add x y => .mkAdd (x.puts l) (y.puts l)
  | .sub x y => .mkSub (x.puts l) (y.puts l)
  | .mul x y => .mkMul (x.puts l) (y.puts l)
  | .wrap k x => .mkWrap k (x.puts l)
  | .tdiv x y => .mkTdiv (x.puts l) (y.puts l)
  | .tmod x y => .mkTmod (x.puts l) (y.puts l)
  | .bits o k x y => .mkBits o k (x.puts l) (y.puts l)
  | .shl k x y => .mkShl k (x.puts l) (y.puts l)
  | .shr k x y => .mkShr k (x.puts l) (y.puts l)
  | .rd a o => .rd a (o.puts l)
  | .mn x y => .mkMn (x.puts l) (y.puts l)
  | .mx x y => .mkMx (x.puts l) (y.puts l)
  | .iv k i => .mkWrap k (l.getD i (.c 0))
  | .nv i => .mx (.c 0) (l.getD i (.c 0))
  | .ni x y => .mkNi (x.puts l) (y.puts l)
  | .ap f x y z u => .ap f (x.puts l) (y.puts l) (z.puts l) (u.puts l)
def SB.puts (l : List SE) : SB → SB
  | .c b => .c b
  | .v i => .v i
  | .lt x y => .mkLt (x.puts l) (y.puts l)
  | .le x y => .mkLe (x.puts l) (y.puts l)
  | .eq x y => .mkEq (x.puts l) (y.puts l)
  | .not x => .mkNot (x.puts l)
  | .beq x y => .mkBeq (x.puts l) (y.puts l)
  | .ap f x y z u => .ap f (x.puts l) (y.puts l) (z.puts l) (u.puts l)
def Env.subs (E : Env) (l : List SE) : Env := { E with i := fun j => (l.getD j (.c 0)).den E }
theorem SE.den_puts (l : List SE) : ∀ (x : SE), (x.puts l).den E = x.den (E.subs l)
  | .c n => rfl
  | .v i => rfl
  | .add x y => by simp only [SE.puts, SE.den_mkAdd, SE.den, SE.den_puts l x, SE.den_puts l y]
  | .sub x y => by simp only [SE.puts, SE.den_mkSub, SE.den, SE.den_puts l x, SE.den_puts l y]
  | .mul x y => by simp only [SE.puts, SE.den_mkMul, SE.den, SE.den_puts l x, SE.den_puts l y]
  | .wrap k x => by simp only [SE.puts, SE.den_mkWrap, SE.den, SE.den_puts l x]
  | .tdiv x y => by simp only [SE.puts, SE.den_mkTdiv, SE.den, SE.den_puts l x, SE.den_puts l y]
  | .tmod x y => by simp only [SE.puts, SE.den_mkTmod, SE.den, SE.den_puts l x, SE.den_puts l y]
  | .bits o k x y => by simp only [SE.puts, SE.den_mkBits, SE.den, SE.den_puts l x, SE.den_puts l y]
  | .shl k x y => by simp only [SE.puts, SE.den_mkShl, SE.den, SE.den_puts l x, SE.den_puts l y]
  | .shr k x y => by simp only [SE.puts, SE.den_mkShr, SE.den, SE.den_puts l x, SE.den_puts l y]
  | .rd a o => by simp only [SE.puts, SE.den, SE.den_puts l o, Env.subs]
  | .mn x y => by simp only [SE.puts, SE.den_mkMn, SE.den, SE.den_puts l x, SE.den_puts l y]
  | .mx x y => by simp only [SE.puts, SE.den_mkMx, SE.den, SE.den_puts l x, SE.den_puts l y]
  | .iv k i => by simp only [SE.puts, SE.den_mkWrap, SE.den, Env.subs]
  | .nv i => by
    have h : ∀ a : Int, imx 0 a = (a.toNat : Int) := fun a => by unfold imx; split <;> omega
    exact h _
  | .ni x y => by simp only [SE.puts, SE.den_mkNi, SE.den, SE.den_puts l x, SE.den_puts l y]
  | .ap f x y z u => by simp only [SE.puts, SE.den, SE.den_puts l x, SE.den_puts l y, SE.den_puts l z, SE.den_puts l u, Env.subs]
theorem SB.den_puts (l : List SE) : ∀ (x : SB), (x.puts l).den E = x.den (E.subs l)
  | .c b => rfl
  | .v i => rfl
  | .lt x y => by simp only [SB.puts, SB.den_mkLt, SB.den, SE.den_puts]
  | .le x y => by simp only [SB.puts, SB.den_mkLe, SB.den, SE.den_puts]
  | .eq x y => by simp only [SB.puts, SB.den_mkEq, SB.den, SE.den_puts]
  | .not x => by simp only [SB.puts, SB.den_mkNot, SB.den, SB.den_puts l x]
  | .beq x y => by simp only [SB.puts, SB.den_mkBeq, SB.den, SB.den_puts l x, SB.den_puts l y]
  | .ap f x y z u => by simp only [SB.puts, SB.den, SE.den_puts, Env.subs]

/-- Surely not negative. -/
def nonneg (F : List (SB × Bool)) : SE → Bool
  | .c n => decide (0 ≤ n)
  | .nv _ => true
  | .add x y => nonneg F x && nonneg F y
  | .mul x y => nonneg F x && nonneg F y
  | .mx x y => nonneg F x || nonneg F y
  | .mn x y => nonneg F x && nonneg F y
  | .ni _ y => nonneg F y
  | .sub x y => look (.le y x) F == some true || look (.lt x y) F == some false || look (.le (.c 0) (.sub x y)) F == some true || look (.lt (.sub x y) (.c 0)) F == some false
  | e => look (.le (.c 0) e) F == some true || look (.lt e (.c 0)) F == some false
theorem le0_of {F : List (SB × Bool)} (hF : Facts E F) {e : SE} (h : (look (.le (.c 0) e) F == some true || look (.lt e (.c 0)) F == some false) = true) : 0 ≤ e.den E := by
  rw [Bool.or_eq_true, beq_iff_eq, beq_iff_eq] at h
  rcases h with h | h
  · have h' := look_ok hF h
    exact of_decide_eq_true h'
  · have h' := look_ok hF h
    have := of_decide_eq_false h'
    exact Int.not_lt.1 this
theorem nonneg_ok {F : List (SB × Bool)} (hF : Facts E F) : ∀ {e : SE}, nonneg F e = true → 0 ≤ e.den E
  | .c n, h => by simpa [nonneg, SE.den] using h
  | .nv i, h => by simp only [SE.den]; omega
  | .add x y, h => by
    simp only [nonneg, Bool.and_eq_true] at h
    have := nonneg_ok hF h.1; have := nonneg_ok hF h.2; simp only [SE.den]; omega
  | .mul x y, h => by
    simp only [nonneg, Bool.and_eq_true] at h
    have h1 := nonneg_ok hF h.1; have h2 := nonneg_ok hF h.2; simp only [SE.den]; exact Int.mul_nonneg h1 h2
  | .mx x y, h => by
    simp only [nonneg, Bool.or_eq_true] at h
    simp only [SE.den, imx]
    rcases h with h | h <;> have := nonneg_ok hF h <;> split <;> omega
  | .mn x y, h => by
    simp only [nonneg, Bool.and_eq_true] at h
    have := nonneg_ok hF h.1; have := nonneg_ok hF h.2; simp only [SE.den, imn]; split <;> omega
  | .ni x y, h => by
    simp only [nonneg] at h
    have := nonneg_ok hF h; simp only [SE.den, ini]; split <;> omega
  | .sub x y, h => by
    simp only [nonneg] at h
    rw [Bool.or_eq_true, Bool.or_eq_true, Bool.or_eq_true, beq_iff_eq, beq_iff_eq, beq_iff_eq, beq_iff_eq] at h
    rcases h with ((h | h) | h) | h
    · have h1 : y.den E ≤ x.den E := of_decide_eq_true (look_ok hF h)
      simp only [SE.den]; omega
    · have h1 : ¬ x.den E < y.den E := of_decide_eq_false (look_ok hF h)
      simp only [SE.den]; omega
    · exact le0_of hF (by rw [h]; rfl)
    · exact le0_of hF (by rw [h]; simp)
  | .v i, h => le0_of hF h
  | .wrap k x, h => le0_of hF h
  | .tdiv x y, h => le0_of hF h
  | .tmod x y, h => le0_of hF h
  | .bits .., h => le0_of hF h
  | .shl .., h => le0_of hF h
  | .shr .., h => le0_of hF h
  | .rd .., h => le0_of hF h
  | .iv .., h => le0_of hF h
  | .ap .., h => le0_of hF h
/-- The greater one of it and 0. -/
def nn (F : List (SB × Bool)) (e : SE) : SE := if nonneg F e then e else .mx (.c 0) e
theorem nn_ok {F : List (SB × Bool)} (hF : Facts E F) (e : SE) : (nn F e).den E = ((e.den E).toNat : Int) := by
  unfold nn
  split
  · rename_i h; have := nonneg_ok hF h; omega
  · simp only [SE.den]
    unfold imx; split <;> omega

end Go.Sx
