/- The remaining pure operations. -/
import Derived.Test.YtlkobjghpkifmaaSxC
set_option linter.unusedVariables false
set_option linter.unusedSimpArgs false
namespace Go.Sx
open Go
variable {E : Env} {β : Nat → Nat} {P : Program} {w : World}

def SV.eqable : SV → Bool
  | .bool _ | .nilptr | .ptr .. | .nilslice | .slice .. | .nilmap | .map _ | .nilfunc | .func .. | .nilif | .ifc .. => true
  | _ => false
def isConst : Operand → Bool
  | .const _ => true
  | _ => false
def guardOk (x y : SV) (xo yo : Operand) : Bool :=
  match x, y with
  | .nilif, .nilif => isConst xo || isConst yo
  | .nilif, .opq _ => false
  | _, _ => true
theorem eqGuard_nil {op : BinOp} {T : TypeId} {xo yo : Operand} (h : (isConst xo || isConst yo) = true) :
    (eqGuard op T xo yo .nilIface .nilIface).run P w = .ok () w := by
  unfold eqGuard
  cases op <;> cases xo <;> cases yo <;> simp_all [isConst]
theorem eqGuard_plain {op : BinOp} {T : TypeId} {xo yo : Operand} {a b : Value} (ha : ∀ cs, a ≠ .agg cs) (h : a = .nilIface → b ≠ .nilIface) :
    (eqGuard op T xo yo a b).run P w = .ok () w := by
  unfold eqGuard
  cases op <;> simp <;> cases a <;> simp_all
theorem eqGuard_ok {op : BinOp} {T : TypeId} {xo yo : Operand} {x y : SV} (hx : x.eqable = true) (h : guardOk x y xo yo = true) :
    (eqGuard op T xo yo (x.den E β) (y.den E β)).run P w = .ok () w := by
  cases x
  case nilif =>
    cases y
    case nilif => exact eqGuard_nil h
    case opq => simp [guardOk] at h
    all_goals exact eqGuard_plain (by simp only [SV.den]; intro cs hh; cases hh) (by simp only [SV.den]; intro _ hh; cases hh)
  all_goals first
    | (simp [SV.eqable] at hx; done)
    | exact eqGuard_plain (by simp only [SV.den]; intro cs hh; cases hh) (by simp only [SV.den]; intro hh; cases hh)

theorem binOp_eql {T : TypeId} {x : SV} (hx : x.eqable = true) (b : Value) : binOp .eql T (x.den E β) b = (do pure (.bool (← Op.equal T (x.den E β) b))) := by
  cases x <;> simp only [SV.eqable] at hx <;> first
    | (cases hx; done)
    | (simp only [SV.den, binOp])
theorem binOp_neq {T : TypeId} {x : SV} (hx : x.eqable = true) (b : Value) : binOp .neq T (x.den E β) b = (do pure (.bool (!(← Op.equal T (x.den E β) b)))) := by
  cases x <;> simp only [SV.eqable] at hx <;> first
    | (cases hx; done)
    | (simp only [SV.den, binOp])

def sBin (P : Program) (F : Fx) (h : List SBlk) (op : BinOp) (T : TypeId) (x y : SV) (xo yo : Operand) : RP :=
  match x, y with
  | .int k a, .int j b =>
    match op with
    | .shl => shiftS F .shl k a b
    | .shr => shiftS F .shr k a b
    | op => if k = j then binInt F op k a b else .no
  | x, y =>
    match op with
    | .eql => if x.eqable && guardOk x y xo yo then match eqv P h T x y with | some r => .val (.bool r) | none => .no else .no
    | .neq => if x.eqable && guardOk x y xo yo then match eqv P h T x y with | some r => .val (.bool (.mkNot r)) | none => .no else .no
    | _ => .no

theorem eqGuard_int {op : BinOp} {T : TypeId} {xo yo : Operand} (k j : IntKind) (a b : Int) : (eqGuard op T xo yo (.int k a) (.int j b)).run P w = .ok () w :=
  eqGuard_plain (by simp) (by simp)
theorem sBin_ok {F : Fx} (hF : Facts E F) {h : List SBlk} (hw : HOk E β h w) {op : BinOp} {T : TypeId} {x y : SV} {xo yo : Operand} {v : SV} (hr : sBin P F h op T x y xo yo = .val v) :
    ((do eqGuard op T xo yo (x.den E β) (y.den E β); binOp op T (x.den E β) (y.den E β)) : Sem Value).run P w = .ok (v.den E β) w := by
  unfold sBin at hr
  split at hr
  · rename_i k a j b
    simp only [SV.den]
    rw [Sem.run_bind, eqGuard_int, Result.andThen_ok]
    split at hr
    · exact shiftS_ok hF T hr
    · exact shiftS_ok hF T hr
    · split at hr
      · rename_i hk; subst hk; exact binInt_ok hF T hr
      · cases hr
  · rename_i x y hne
    split at hr
    · split at hr
      · rename_i hg
        simp only [Bool.and_eq_true] at hg
        split at hr
        · rename_i r hq
          cases hr
          rw [Sem.run_bind, eqGuard_ok hg.1 hg.2, Result.andThen_ok, binOp_eql hg.1]
          simp [eqv_ok hw hq, SV.den]
        · cases hr
      · cases hr
    · split at hr
      · rename_i hg
        simp only [Bool.and_eq_true] at hg
        split at hr
        · rename_i r hq
          cases hr
          rw [Sem.run_bind, eqGuard_ok hg.1 hg.2, Result.andThen_ok, binOp_neq hg.1]
          simp [eqv_ok hw hq, SV.den, SB.den_mkNot]
        · cases hr
      · cases hr
    · cases hr

def sUn (op : UnOp) (x : SV) : RP :=
  match op, x with
  | .neg, .int k n => .val (.int k (.mkWrap k (.mkSub (.c 0) n)))
  | .xor, .int k n => .val (.int k (.mkBits .xor k (.c (if k.signed then -1 else k.max)) n))
  | .not, .bool b => .val (.bool (.mkNot b))
  | _, _ => .no
theorem sUn_ok {op : UnOp} {x : SV} {v : SV} (hr : sUn op x = .val v) : (Op.unary op (x.den E β)).run P w = .ok (v.den E β) w := by
  unfold sUn at hr
  split at hr
  · cases hr; simp [Op.unary, Op.intArith, SV.den, SE.den_mkWrap, SE.den_mkSub, SE.den]
  · cases hr; simp [Op.unary, Op.intBits, SV.den, SE.den_mkBits, SE.den, Go.bits]
  · cases hr; simp [Op.unary, SV.den, SB.den_mkNot]
  · cases hr

def sConv (P : Program) (src dst : TypeId) (x : SV) : RP :=
  match P.underlying src, P.underlying dst, x with
  | some _, some (.int k), .int _ n => .val (.int k (.mkWrap k n))
  | some .string, some .string, .str l => .val (.str l)
  | _, _, _ => .no
theorem sConv_ok {src dst : TypeId} {x : SV} {v : SV} (hr : sConv P src dst x = .val v) : (convert src dst (x.den E β)).run P w = .ok (v.den E β) w := by
  unfold sConv at hr
  split at hr
  · rename_i d k j n h1 h2
    cases hr
    simp only [convert, underlying, Sem.run_bind, run_program, Result.andThen_ok, h1, h2, Sem.run_pure, SV.den]
    cases d <;> simp [Conv.intToInt, SE.den_mkWrap]
  · rename_i h1 h2
    cases hr
    simp [convert, underlying, h1, h2, SV.den]
  · cases hr

def sMkIf (P : Program) (T : TypeId) (x : SV) : RP :=
  match P.underlying T with
  | some (.interface _) => .no
  | some _ => .val (.ifc T x)
  | none => .no
theorem sMkIf_ok {T : TypeId} {x : SV} {v : SV} (hr : sMkIf P T x = .val v) : (Instr.makeInterface T (x.den E β)).run P w = .ok (v.den E β) w := by
  unfold sMkIf at hr
  split at hr
  · cases hr
  · rename_i d hn hd
    cases hr
    simp only [Instr.makeInterface, underlying, Sem.run_bind, run_program, Result.andThen_ok, hd, Sem.run_pure, SV.den]
  · cases hr

def sNil (x : SV) : RP :=
  match x with
  | .nilptr | .nilif | .nilfunc => .dead
  | .func (.method _) _ _ => .no
  | .opq _ => .no
  | x => .val x

def isAggT (P : Program) (T : TypeId) : Option Bool :=
  match P.underlying T with
  | some (.struct _) => some true
  | some (.array _ _) => some true
  | some _ => some false
  | none => none
theorem isAggT_ok {T : TypeId} {b : Bool} (h : isAggT P T = some b) : (isAgg T).run P w = .ok b w := by
  unfold isAggT at h
  split at h
  · rename_i hd; cases h; simp [isAgg, underlying, hd]
  · rename_i hd; cases h; simp [isAgg, underlying, hd]
  · rename_i d h1 h2 hd
    cases h
    simp only [isAgg, underlying, Sem.run_bind, run_program, Result.andThen_ok, hd, Sem.run_pure]
  · cases h
def sizeT (P : Program) (T : TypeId) : Option Nat := (P.info? T).map (·.size)
theorem sizeT_ok {T : TypeId} {n : Nat} (h : sizeT P T = some n) : (sizeOf T).run P w = .ok n w := by
  simp only [sizeT, Option.map_eq_some_iff] at h
  obtain ⟨i, hi, rfl⟩ := h
  simp [sizeOf, typeInfo, hi]

def sPart (P : Program) (T : TypeId) (l : List SV) (off : Nat) : RP :=
  match isAggT P T with
  | some true => match sizeT P T with
    | some n => .val (.agg ((l.drop off).take n))
    | none => .no
  | some false => match l[off]? with
    | some v => .val v
    | none => .no
  | none => .no
theorem denL_extract (l : List SV) (a n : Nat) : (SV.denL E β l).toArray.extract a (a + n) = (SV.denL E β ((l.drop a).take n)).toArray := by
  rw [SV.denL_map, SV.denL_map]
  simp [List.map_drop, List.map_take, List.extract_eq_take_drop]
theorem denL_get {l : List SV} {i : Nat} {v : SV} (h : l[i]? = some v) : (SV.denL E β l).toArray[i]? = some (v.den E β) := by
  rw [SV.denL_map]; simp [h]
theorem sPart_ok {T : TypeId} {l : List SV} {off : Nat} {v : SV} (hr : sPart P T l off = .val v) : (part T (SV.denL E β l).toArray off).run P w = .ok (v.den E β) w := by
  unfold sPart at hr
  split at hr
  · rename_i ha
    split at hr
    · rename_i n hn
      cases hr
      simp only [part, Sem.run_bind, isAggT_ok ha, Result.andThen_ok, if_true, sizeT_ok hn, Sem.run_pure, SV.den]
      rw [denL_extract]
    · cases hr
  · rename_i ha
    split at hr
    · rename_i u hu
      cases hr
      simp only [part, Sem.run_bind, isAggT_ok ha, Result.andThen_ok, denL_get hu]
      rfl
    · cases hr
  · cases hr
def sField (P : Program) (T : TypeId) (x : SV) (i : Nat) : RP :=
  match P.underlying T, x with
  | some (.struct fs), .agg l => match fs[i]? with
    | some f => sPart P f.type l f.offset
    | none => .no
  | _, _ => .no
theorem sField_ok {T : TypeId} {x : SV} {i : Nat} {v : SV} (hr : sField P T x i = .val v) : (Instr.field T (x.den E β) i).run P w = .ok (v.den E β) w := by
  unfold sField at hr
  split at hr
  · rename_i fs l hd
    split at hr
    · rename_i f hf
      simp only [Instr.field, underlying, Sem.run_bind, run_program, Result.andThen_ok, hd, Sem.run_pure, hf, SV.den, asAgg]
      exact sPart_ok hr
    · cases hr
  · cases hr

def sFieldAddr (P : Program) (T : TypeId) (x : SV) (i : Nat) : RP :=
  match P.underlying T, x with
  | some (.struct fs), .ptr b o => match fs[i]? with
    | some f => match sizeT P f.type with
      | some n => if n = 0 then .no else .val (.ptr b { o with col := o.col + f.offset })
      | none => .no
    | none => .no
  | _, _ => .no
theorem addr_add (b o n : Nat) : (Addr.add ⟨b, o, none⟩ n) = ⟨b, o + n, none⟩ := by
  unfold Addr.add; split <;> simp_all
theorem sFieldAddr_ok {T : TypeId} {x : SV} {i : Nat} {v : SV} (hr : sFieldAddr P T x i = .val v) : (Instr.fieldAt T (x.den E β) i).run P w = .ok (v.den E β) w := by
  unfold sFieldAddr at hr
  split at hr
  · rename_i fs b o hd
    split at hr
    · rename_i f hf
      split at hr
      · rename_i n hn
        split at hr
        · cases hr
        · rename_i hz
          cases hr
          simp only [Instr.fieldAt, underlying, Sem.run_bind, run_program, Result.andThen_ok, hd, Sem.run_pure, hf, SV.den, Instr.sureAddr, fieldPlace, sizeT_ok hn, hz, if_false, addr_add, Off.den, Nat.add_assoc]
      · cases hr
    · cases hr
  · cases hr
end Go.Sx
