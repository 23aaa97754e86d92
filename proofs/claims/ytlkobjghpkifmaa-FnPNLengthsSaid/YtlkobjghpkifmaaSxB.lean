/- The pure operations of the symbolic executor, and that they say what the model's operations say. -/
import Derived.Test.YtlkobjghpkifmaaSxA
set_option linter.unusedVariables false
set_option linter.unusedSimpArgs false
namespace Go.Sx
open Go

abbrev Fx := List (SB × Bool)

def lift0 : Value → Option SV
  | .bool b => some (.bool (.c b))
  | .int k n => some (.int k (.c n))
  | .float k b => some (.flt k b)
  | .string s => some (.str s.data.toList)
  | .pointer none => some .nilptr
  | .slice none 0 0 => some .nilslice
  | .map none => some .nilmap
  | .nilFunc => some .nilfunc
  | .nilIface => some .nilif
  | _ => none
def liftL : List Value → Option (List SV)
  | [] => some []
  | v :: r => match lift0 v, liftL r with
    | some s, some t => some (s :: t)
    | _, _ => none
def lift : Value → Option SV
  | .agg cs => (liftL cs.toList).map .agg
  | .tuple cs => (liftL cs.toList).map .tup
  | .iface t v => (lift0 v).map (.ifc t)
  | v => lift0 v

variable {E : Env} {β : Nat → Nat}
theorem lift0_ok {v : Value} {s : SV} (h : lift0 v = some s) : s.den E β = v := by
  unfold lift0 at h
  split at h <;> simp at h <;> subst h <;> simp [SV.den, SB.den, SE.den]
theorem liftL_ok : ∀ {l : List Value} {t : List SV}, liftL l = some t → SV.denL E β t = l
  | [], t, h => by simp [liftL] at h; subst h; rfl
  | v :: r, t, h => by
    simp only [liftL] at h
    split at h
    · rename_i s u hs hu
      simp at h; subst h
      simp only [SV.denL, lift0_ok hs, liftL_ok hu]
    · cases h
theorem lift_ok {v : Value} {s : SV} (h : lift v = some s) : s.den E β = v := by
  unfold lift at h
  split at h
  · rename_i cs
    simp only [Option.map_eq_some_iff] at h
    obtain ⟨l, hl, rfl⟩ := h
    simp only [SV.den, liftL_ok hl]
  · rename_i cs
    simp only [Option.map_eq_some_iff] at h
    obtain ⟨l, hl, rfl⟩ := h
    simp only [SV.den, liftL_ok hl]
  · rename_i t v
    simp only [Option.map_eq_some_iff] at h
    obtain ⟨l, hl, rfl⟩ := h
    simp only [SV.den, lift0_ok hl]
  · exact lift0_ok h

/-- What package-level variables are among the blocks: variable, block. -/
abbrev Gm := List (Nat × Nat)
def Gm.ok (gm : Gm) (β : Nat → Nat) : Prop := ∀ p ∈ gm, β p.2 = p.1
def Gm.get (g : Nat) : Gm → Option Nat
  | [] => none
  | (a, b) :: r => if a = g then some b else Gm.get g r
theorem Gm.get_ok {g b : Nat} : ∀ {gm : Gm}, gm.ok β → Gm.get g gm = some b → β b = g
  | [], _, h => by simp [Gm.get] at h
  | (a, c) :: r, hg, h => by
    simp only [Gm.get] at h
    split at h
    · rename_i ha; simp at h; subst h; subst ha; exact hg (a, c) (by simp)
    · exact Gm.get_ok (fun p hp => hg p (by simp [hp])) h

def ev (gm : Gm) (tmps : List SV) : Operand → Option SV
  | .tmp t => some (tmps.getD t (.tup []))
  | .const v => lift v
  | .global g => (Gm.get g gm).map fun b => .ptr b Off.z
  | .func f => some (.func (.func f) [] [])
def actD (E : Env) (β : Nat → Nat) (tmps : List SV) (ds : List Deferred) : Act := ⟨(SV.denL E β tmps).toArray, ds⟩
theorem denL_getD (tmps : List SV) (t : Nat) : ((SV.denL E β tmps).toArray : Array Value).getD t undef = (tmps.getD t (.tup [])).den E β := by
  rw [SV.denL_map]
  simp only [Array.getD_eq_getD_getElem?, List.getElem?_toArray, List.getElem?_map, List.getD_eq_getElem?_getD]
  cases h : tmps[t]? with
  | none => simp [SV.den, SV.denL, undef]
  | some v => simp
theorem ev_ok {gm : Gm} (hg : gm.ok β) {tmps : List SV} {ds : List Deferred} {x : Operand} {s : SV} (h : ev gm tmps x = some s) :
    (actD E β tmps ds).eval x = s.den E β := by
  cases x with
  | tmp t => simp [ev] at h; subst h; exact denL_getD tmps t
  | const v => simp only [ev] at h; simp only [Act.eval, lift_ok h]
  | global g =>
    simp only [ev, Option.map_eq_some_iff] at h
    obtain ⟨b, hb, rfl⟩ := h
    simp [Act.eval, SV.den, Off.den, Off.z, SE.den, Gm.get_ok hg hb]
  | func f => simp [ev] at h; subst h; simp [Act.eval, SV.den, SV.denL]

/-- What a pure operation comes to. -/
inductive RP where
  | val (v : SV)
  | fork (b : SB)
  | dead
  | no

def onB (F : Fx) (b : SB) (t f : RP) : RP :=
  match dec F b with
  | some true => t
  | some false => f
  | none => .fork b

def binInt (F : Fx) (op : BinOp) (k : IntKind) (a b : SE) : RP :=
  match op with
  | .add => .val (.int k (.mkWrap k (.mkAdd a b)))
  | .sub => .val (.int k (.mkWrap k (.mkSub a b)))
  | .mul => .val (.int k (.mkWrap k (.mkMul a b)))
  | .quo => onB F (.mkEq b (.c 0)) .dead (.val (.int k (.mkWrap k (.mkTdiv a b))))
  | .rem => onB F (.mkEq b (.c 0)) .dead (.val (.int k (.mkTmod a b)))
  | .and => .val (.int k (.mkBits .and k a b))
  | .or => .val (.int k (.mkBits .or k a b))
  | .xor => .val (.int k (.mkBits .xor k a b))
  | .andNot => .val (.int k (.mkBits .andNot k a b))
  | .eql => .val (.bool (.mkEq a b))
  | .neq => .val (.bool (.mkNot (.mkEq a b)))
  | .lss => .val (.bool (.mkLt a b))
  | .leq => .val (.bool (.mkLe a b))
  | .gtr => .val (.bool (.mkLt b a))
  | .geq => .val (.bool (.mkLe b a))
  | _ => .no

theorem onB_val {F : Fx} (hF : Facts E F) {b : SB} {t f : RP} {v : SV} (h : onB F b t f = .val v) : (b.den E = true ∧ t = .val v) ∨ (b.den E = false ∧ f = .val v) := by
  unfold onB at h
  split at h
  · rename_i hd; exact .inl ⟨dec_ok hF hd, h⟩
  · rename_i hd; exact .inr ⟨dec_ok hF hd, h⟩
  · cases h

variable {P : Program} {w : World}
theorem binInt_ok {F : Fx} (hF : Facts E F) {op : BinOp} {k : IntKind} {a b : SE} {v : SV} (T : TypeId) (h : binInt F op k a b = .val v) :
    (binOp op T (.int k (a.den E)) (.int k (b.den E))).run P w = .ok (v.den E β) w := by
  have key : ∀ {x : SV}, RP.val x = RP.val v → x = v := fun h => by cases h; rfl
  cases op <;> simp only [binInt] at h
  case quo =>
    rcases onB_val hF h with ⟨_, h⟩ | ⟨h0, h⟩
    · cases h
    · cases h
      rw [SB.den_mkEq] at h0
      have h0' : b.den E ≠ 0 := by simpa [SE.den] using h0
      simp [binOp, Op.intDiv, h0', SV.den, SE.den_mkWrap, SE.den_mkTdiv]
  case rem =>
    rcases onB_val hF h with ⟨_, h⟩ | ⟨h0, h⟩
    · cases h
    · cases h
      rw [SB.den_mkEq] at h0
      have h0' : b.den E ≠ 0 := by simpa [SE.den] using h0
      simp [binOp, Op.intDiv, h0', SV.den, SE.den_mkTmod]
  all_goals first
    | cases h; done
    | (cases h; simp [binOp, Op.intArith, Op.intBits, Op.intCmp, SV.den, SE.den_mkWrap, SE.den_mkAdd, SE.den_mkSub, SE.den_mkMul, SE.den_mkBits, Go.bits, SB.den_mkEq, SB.den_mkNot, SB.den_mkLt, SB.den_mkLe]; done)
    | (cases h; simp [binOp, Op.intArith, Op.intBits, Op.intCmp, SV.den, SE.den_mkWrap, SE.den_mkAdd, SE.den_mkSub, SE.den_mkMul, SE.den_mkBits, Go.bits, SB.den_mkEq, SB.den_mkNot, SB.den_mkLt, SB.den_mkLe]; rfl)

def shiftS (F : Fx) (op : BinOp) (k : IntKind) (a b : SE) : RP :=
  match op with
  | .shl => onB F (.mkLt b (.c 0)) .dead (.val (.int k (.mkShl k a b)))
  | .shr => onB F (.mkLt b (.c 0)) .dead (.val (.int k (.mkShr k a b)))
  | _ => .no
theorem shiftS_ok {F : Fx} (hF : Facts E F) {op : BinOp} {k j : IntKind} {a b : SE} {v : SV} (T : TypeId) (h : shiftS F op k a b = .val v) :
    (binOp op T (.int k (a.den E)) (.int j (b.den E))).run P w = .ok (v.den E β) w := by
  cases op <;> simp only [shiftS] at h <;> first | cases h; done | skip
  all_goals
    rcases onB_val hF h with ⟨_, h⟩ | ⟨h0, h⟩
    · cases h
    · cases h
      rw [SB.den_mkLt] at h0
      have h0' : ¬ b.den E < 0 := of_decide_eq_false h0
      simp [binOp, Op.shift, h0', SV.den, SE.den_mkShl, SE.den_mkShr]
end Go.Sx
