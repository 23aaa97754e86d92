/- The remaining pure operations. -/
import Derived.Test.YtjanndmmhjnpcaaDoorSyC
import Derived.Test.YtjanndmmhjnpcaaDoorSyS
set_option autoImplicit true
set_option relaxedAutoImplicit true
set_option linter.unusedVariables false
set_option linter.unusedSimpArgs false
namespace Go.Sy
open Go
variable {E : Env} {β : Nat → Bk} {P : Program} {w : World}
def SV.eqable : SV → Bool
  | .bool _ | .nilptr | .ptr .. | .nilslice | .slice .. | .nilmap | .map _ | .nilfunc | .func .. | .nilif | .ifc .. => true
  | _ => false
def isConst : Operand → Bool
  | .const _ => true
  | _ => false
def guardOk (x y : SV) (xo yo : Operand) : Bool :=
  match x, y with
  | .nilif, .nilif => isConst xo || isConst yo
  | .nilif, .opq _ => false
  | .nilif, .own _ => false
  | .nilif, .q _ _ => false
  | .nilif, .pa .. => false
  | .nilif, .sa .. => false
  | _, _ => true
theorem eqGuard_nil {op : BinOp} {T : TypeId} {xo yo : Operand} (h : (isConst xo || isConst yo) = true) :
    (eqGuard op T xo yo .nilIface .nilIface).run P w = .ok () w := by
  unfold eqGuard
  cases op <;> cases xo <;> cases yo <;> simp_all [isConst]
theorem eqGuard_plain {op : BinOp} {T : TypeId} {xo yo : Operand} {a b : Value} (ha : ∀ cs, a ≠ .agg cs) (h : a = .nilIface → b ≠ .nilIface) :
    (eqGuard op T xo yo a b).run P w = .ok () w := by
  unfold eqGuard
  cases op <;> simp <;> cases a <;> simp_all
theorem eqGuard_ok {op : BinOp} {T : TypeId} {xo yo : Operand} {x y : SV} (hx : x.eqable = true) (h : guardOk x y xo yo = true) :
    (eqGuard op T xo yo (x.den E β) (y.den E β)).run P w = .ok () w := by
  cases x
  case nilif =>
    cases y
    case nilif => exact eqGuard_nil h
    case opq => simp [guardOk] at h
    case own => simp [guardOk] at h
    case q => simp [guardOk] at h
    case pa => simp [guardOk] at h
    case sa => simp [guardOk] at h
    all_goals exact eqGuard_plain (by simp only [SV.den]; intro cs hh; cases hh) (by simp only [SV.den]; intro _ hh; cases hh)
  all_goals first
    | (simp [SV.eqable] at hx; done)
    | exact eqGuard_plain (by simp only [SV.den]; intro cs hh; cases hh) (by simp only [SV.den]; intro hh; cases hh)
theorem binOp_eql {T : TypeId} {x : SV} (hx : x.eqable = true) (b : Value) : binOp .eql T (x.den E β) b = (do pure (.bool (← Op.equal T (x.den E β) b))) := by
  cases x <;> simp only [SV.eqable] at hx <;> first
    | (cases hx; done)
    | (simp only [SV.den, binOp])
theorem binOp_neq {T : TypeId} {x : SV} (hx : x.eqable = true) (b : Value) : binOp .neq T (x.den E β) b = (do pure (.bool (!(← Op.equal T (x.den E β) b)))) := by
  cases x <;> simp only [SV.eqable] at hx <;> first
    | (cases hx; done)
    | (simp only [SV.den, binOp])
def stripF : Nat → Nat → Int → Nat × Int
  | 0, m, p => (m, p)
  | n + 1, m, p => if m % 2 = 0 ∧ p < 0 then stripF n (m / 2) (p + 1) else (m, p)
def fxOf (v : SV) : Option (FloatKind × SE × Nat) :=
  match v with
  | .fx k e j => some (k, e, j)
  | .flt k bits => match k.format.read bits with
    | .number false mag place =>
      let q := stripF 100 mag place
      if k.format.nearest false q.1 (-((-q.2).toNat : Int)) = bits then some (k, .c q.1, (-q.2).toNat) else none
    | _ => none
  | _ => none
theorem fxOf_ok {v : SV} {k : FloatKind} {e : SE} {j : Nat} (h : fxOf v = some (k, e, j)) : v.den E β = .float k (k.format.nearest false (e.den E).toNat (-(j : Int))) := by
  unfold fxOf at h
  split at h
  · cases h; rfl
  · split at h
    · simp only at h
      split at h
      · rename_i hq; cases h; simp only [SV.den, SE.den, Int.toNat_natCast, hq]
      · cases h
    · cases h
  · cases h
def onNN (F : Fx) (e : SE) (k : RP) : RP := if nonneg F e then k else onB F (.mkLe (.c 0) e) k .dead
theorem onNN_val {F : Fx} (hF : Facts E F) {e : SE} {k : RP} {v : SV} (h : onNN F e k = .val v) : 0 ≤ e.den E ∧ k = .val v := by
  unfold onNN at h
  split at h
  · rename_i hn; exact ⟨nonneg_ok hF hn, h⟩
  · rcases onB_val hF h with ⟨h0, h⟩ | ⟨_, h⟩
    · rw [SB.den_mkLe] at h0; exact ⟨of_decide_eq_true h0, h⟩
    · cases h
def onLt (F : Fx) (e : SE) (n : Nat) (k : RP) : RP := onB F (.mkLt e (.c n)) k .dead
theorem onLt_val {F : Fx} (hF : Facts E F) {e : SE} {n : Nat} {k : RP} {v : SV} (h : onLt F e n k = .val v) : e.den E < n ∧ k = .val v := by
  unfold onLt at h
  rcases onB_val hF h with ⟨h0, h⟩ | ⟨_, h⟩
  · rw [SB.den_mkLt] at h0; exact ⟨of_decide_eq_true h0, h⟩
  · cases h
def fBig (k : FloatKind) : Nat := 2 ^ (k.format.fractionBits + 1)
def wordOf : SV → Option (FloatKind × SE)
  | .fw k e => some (k, e)
  | .flt k n => some (k, .c n)
  | .fx k e j => match e with
    | .c m => some (k, .c (k.format.nearest false m.toNat (-(j : Int)) : Nat))
    | e => some (k, .ap 1000 (.i (.c (kcode k)) (.i e (.i (.c j) .nil))))
  | _ => none
theorem wordOf_ok {v : SV} {k : FloatKind} {e : SE} (h : wordOf v = some (k, e)) : v.den E β = .float k (e.den E).toNat := by
  unfold wordOf at h
  split at h
  · cases h; rfl
  · cases h; simp only [SV.den, SE.den, Int.toNat_natCast]
  · split at h
    · cases h; simp only [SV.den, SE.den, Int.toNat_natCast]
    · rename_i e' j _ _
      cases h
      simp only [SV.den]
      have : (SE.ap 1000 (.i (.c (kcode k)) (.i e' (.i (.c (j : Int)) .nil)))).den E = E.fn.f 1000 [.i (kcode k), .i (e'.den E), .i (j : Int)] := rfl
      rw [this, E.fn.fb 1000 _ (Nat.le_refl _)]
      simp only [fbase, kof_kcode, Int.toNat_natCast]
  · cases h
def opCode : BinOp → Option Int
  | .add => some 0
  | .sub => some 1
  | .mul => some 2
  | .quo => some 3
  | _ => none
def sFlw (F : Fx) (op : BinOp) (x y : SV) : RP :=
  match opCode op, wordOf x, wordOf y with
  | some o, some (k, a), some (k', b) => if k = k' then
      match a, b with
      | .c m, .c n => match fopt o k m.toNat n.toNat with
        | some r => .val (.flt k r)
        | none => .no
      | a, b => onB F (.ap 1001 (.i (.c o) (.i (.c (kcode k)) (.i a (.i b .nil))))) (.val (.fw k (.ap 1001 (.i (.c o) (.i (.c (kcode k)) (.i a (.i b .nil))))))) .dead
    else .no
  | _, _, _ => .no
theorem floatArith_run {op : BinOp} {o : Int} (ho : opCode op = some o) {k : FloatKind} {x y r : Nat} (h : fopt o k x y = some r) (T : TypeId) : (binOp op T (.float k x) (.float k y)).run P w = .ok (.float k r) w := by
  cases op <;> simp only [opCode, Option.some.injEq, reduceCtorEq] at ho <;> subst ho <;> simp only [fopt] at h <;> simp at h <;>
    simp [binOp, Op.floatArith, h]
theorem sFlw_ok {F : Fx} (hF : Facts E F) {op : BinOp} {T : TypeId} {x y : SV} {xo yo : Operand} {v : SV} (h : sFlw F op x y = .val v) :
    ((do eqGuard op T xo yo (x.den E β) (y.den E β); binOp op T (x.den E β) (y.den E β)) : Sem Value).run P w = .ok (v.den E β) w := by
  unfold sFlw at h
  split at h
  · rename_i o k a k' b ho hx hy
    split at h
    · rename_i hk
      subst hk
      rw [wordOf_ok hx, wordOf_ok hy, Sem.run_bind, eqGuard_plain (by simp) (by simp), Result.andThen_ok]
      split at h
      · split at h
        · rename_i m n _ _ r hr
          cases h
          exact floatArith_run ho hr T
        · cases h
      · rcases onB_val hF h with ⟨h0, h⟩ | ⟨_, h⟩
        · cases h
          have e1 : (SB.ap 1001 (.i (.c o) (.i (.c (kcode k)) (.i a (.i b .nil))))).den E = E.fn.g 1001 [.i o, .i (kcode k), .i (a.den E), .i (b.den E)] := rfl
          rw [e1, E.fn.gb 1001 _ (by decide)] at h0
          simp only [gbase, kof_kcode] at h0
          obtain ⟨r, hr⟩ := Option.isSome_iff_exists.1 h0
          rw [floatArith_run ho hr T]
          have e2 : (SE.ap 1001 (.i (.c o) (.i (.c (kcode k)) (.i a (.i b .nil))))).den E = E.fn.f 1001 [.i o, .i (kcode k), .i (a.den E), .i (b.den E)] := rfl
          simp only [SV.den]
          rw [e2, E.fn.fb 1001 _ (by decide)]
          simp only [fbase, kof_kcode, hr, Option.getD_some, Int.toNat_natCast]
        · cases h
    · cases h
  · cases h
def bigF (v : SV) : Bool := match v with
  | .fw .. => true
  | .flt .. => match fxOf v with
    | some (_, .c m, _) => decide (1048576 ≤ m)
    | _ => true
  | _ => false
def constF : SV → Bool
  | .flt .. => true
  | .fx _ (.c _) _ => true
  | _ => false
def sFloat (F : Fx) (op : BinOp) (x y : SV) : RP :=
  if bigF x || bigF y || (constF x && constF y) then sFlw F op x y else
  match fxOf x, fxOf y with
  | some (k, a, j), some (k', b, j') => if k = k' ∧ j + j' ≤ 60 then
      match op with
      | .mul => onNN F a (onNN F b (onLt F a (fBig k) (onLt F b (fBig k) (onLt F (.mkMul a b) (fBig k) (.val (.fx k (.mkMul a b) (j + j')))))))
      | .add => onNN F a (onNN F b (onLt F a (fBig k) (onLt F b (fBig k) (onLt F (.mkAdd (.mkMul a (.c ((2 ^ (max j j' - j) : Nat) : Int))) (.mkMul b (.c ((2 ^ (max j j' - j') : Nat) : Int)))) (fBig k)
          (.val (.fx k (.mkAdd (.mkMul a (.c ((2 ^ (max j j' - j) : Nat) : Int))) (.mkMul b (.c ((2 ^ (max j j' - j') : Nat) : Int)))) (max j j')))))))
      | .quo => sFlw F op x y
      | .lss => if j = 0 ∧ j' = 0 then onNN F a (onNN F b (onLt F a (2 ^ 63) (onLt F b (fBig k) (.val (.bool (.mkLt a b)))))) else .no
      | _ => .no
    else .no
  | _, _ => .no
theorem fmt_ok (k : FloatKind) : 2 ≤ k.format.exponentBits ∧ k.format.fractionBits < 2 ^ (k.format.exponentBits - 1) ∧ ∀ j : Nat, j ≤ 60 → k.format.leastPlace + k.format.fractionBits ≤ -(j : Int) := by
  cases k
  · refine ⟨by decide, by decide, fun j hj => ?_⟩
    have : (FloatKind.f32).format.leastPlace + (FloatKind.f32).format.fractionBits = -126 := by decide
    omega
  · refine ⟨by decide, by decide, fun j hj => ?_⟩
    have : (FloatKind.f64).format.leastPlace + (FloatKind.f64).format.fractionBits = -1022 := by decide
    omega
theorem sFloat_ok {F : Fx} (hF : Facts E F) {op : BinOp} {T : TypeId} {x y : SV} {xo yo : Operand} {v : SV} (h : sFloat F op x y = .val v) :
    ((do eqGuard op T xo yo (x.den E β) (y.den E β); binOp op T (x.den E β) (y.den E β)) : Sem Value).run P w = .ok (v.den E β) w := by
  unfold sFloat at h
  split at h
  · exact sFlw_ok hF h
  split at h
  · rename_i k a j k' b j' hx hy
    split at h
    · rename_i hc
      obtain ⟨rfl, hj⟩ := hc
      rw [fxOf_ok hx, fxOf_ok hy, Sem.run_bind, eqGuard_plain (by simp) (by simp), Result.andThen_ok]
      obtain ⟨f1, f2, f3⟩ := fmt_ok k
      split at h
      · obtain ⟨a0, h⟩ := onNN_val hF h
        obtain ⟨b0, h⟩ := onNN_val hF h
        obtain ⟨a1, h⟩ := onLt_val hF h
        obtain ⟨b1, h⟩ := onLt_val hF h
        obtain ⟨c1, h⟩ := onLt_val hF h
        cases h
        rw [SE.den_mkMul] at c1
        obtain ⟨n, hn⟩ := Int.eq_ofNat_of_zero_le a0
        obtain ⟨m, hm⟩ := Int.eq_ofNat_of_zero_le b0
        rw [hn] at a1 c1; rw [hm] at b1 c1
        have c2 : n * m < fBig k := by have : ((n * m : Nat) : Int) < (fBig k : Nat) := by push_cast; exact c1
                                       omega
        have := mul_exact k.format f1 f2 n m j j' (by unfold fBig at a1; omega) (by unfold fBig at b1; omega) c2 (f3 _ hj)
        simp only [binOp, ne_eq, not_true_eq_false, if_false, Op.floatArith, hn, hm, Int.toNat_natCast, Sem.run_bind, Sem.run_pure, Result.andThen_ok, this, SV.den, SE.den_mkMul]
        rw [← Int.natCast_mul, Int.toNat_natCast]
      · obtain ⟨a0, h⟩ := onNN_val hF h
        obtain ⟨b0, h⟩ := onNN_val hF h
        obtain ⟨a1, h⟩ := onLt_val hF h
        obtain ⟨b1, h⟩ := onLt_val hF h
        obtain ⟨c1, h⟩ := onLt_val hF h
        cases h
        rw [SE.den_mkAdd, SE.den_mkMul, SE.den_mkMul] at c1
        simp only [SE.den] at c1
        obtain ⟨n, hn⟩ := Int.eq_ofNat_of_zero_le a0
        obtain ⟨m, hm⟩ := Int.eq_ofNat_of_zero_le b0
        rw [hn] at a1 c1; rw [hm] at b1 c1
        have c2 : n * 2 ^ (max j j' - j) + m * 2 ^ (max j j' - j') < fBig k := by
          have : ((n * 2 ^ (max j j' - j) + m * 2 ^ (max j j' - j') : Nat) : Int) < (fBig k : Nat) := by push_cast; push_cast at c1; exact c1
          omega
        have := add_exact k.format f1 f2 n m j j' (max j j') (by omega) (by omega) rfl (by unfold fBig at a1; omega) (by unfold fBig at b1; omega) c2 (f3 _ (by omega))
        simp only [binOp, ne_eq, not_true_eq_false, if_false, Op.floatArith, hn, hm, Int.toNat_natCast, Sem.run_bind, Sem.run_pure, Result.andThen_ok, this, SV.den, SE.den_mkMul, SE.den_mkAdd, SE.den]
        rw [← Int.natCast_mul, ← Int.natCast_mul, ← Int.natCast_add, Int.toNat_natCast]
      · have := sFlw_ok (T := T) (xo := xo) (yo := yo) (P := P) (w := w) (β := β) hF h
        rw [fxOf_ok hx, fxOf_ok hy, Sem.run_bind, eqGuard_plain (by simp) (by simp), Result.andThen_ok] at this
        exact this
      · split at h
        · rename_i hjj
          obtain ⟨rfl, rfl⟩ := hjj
          obtain ⟨a0, h⟩ := onNN_val hF h
          obtain ⟨b0, h⟩ := onNN_val hF h
          obtain ⟨a1, h⟩ := onLt_val hF h
          obtain ⟨b1, h⟩ := onLt_val hF h
          cases h
          obtain ⟨n, hn⟩ := Int.eq_ofNat_of_zero_le a0
          obtain ⟨m, hm⟩ := Int.eq_ofNat_of_zero_le b0
          rw [hn] at a1; rw [hm] at b1
          have := order_big k.format f1 f2 (by cases k <;> decide) n m (by omega) (by unfold fBig at b1; omega) (f3 0 (by omega)) (by cases k <;> decide)
          simp only [binOp, ne_eq, not_true_eq_false, if_false, Op.floatCmp, hn, hm, Int.toNat_natCast, SV.den, SB.den_mkLt]
          simp only [Int.natCast_zero, Int.neg_zero, this]
          rw [Sem.run_pure]
          congr 2
          rcases Nat.lt_trichotomy n m with h | h | h
          · rw [Nat.compare_eq_lt.2 h, decide_eq_true (by omega)]; rfl
          · subst h; rw [Nat.compare_eq_eq.2 rfl, decide_eq_false (by omega)]; rfl
          · rw [Nat.compare_eq_gt.2 h, decide_eq_false (by omega)]; rfl
        · cases h
      · cases h
    · cases h
  · cases h
def sBin (P : Program) (F : Fx) (h : List SBlk) (op : BinOp) (T : TypeId) (x y : SV) (xo yo : Operand) : RP :=
  match x, y with
  | .int k a, .int j b =>
    match op with
    | .shl => shiftS F .shl k a b
    | .shr => shiftS F .shr k a b
    | op => if k = j then binInt F op k a b else .no
  | x, y =>
    match op with
    | .eql => if x.eqable && guardOk x y xo yo then match eqv P h T x y with | some r => .val (.bool r) | none => .no else match aggEq P T x y with | some r => .val (.bool r) | none => .no
    | .neq => if x.eqable && guardOk x y xo yo then match eqv P h T x y with | some r => .val (.bool (.mkNot r)) | none => .no else match aggEq P T x y with | some r => .val (.bool (.mkNot r)) | none => .no
    | op => sFloat F op x y
theorem eqGuard_int {op : BinOp} {T : TypeId} {xo yo : Operand} (k j : IntKind) (a b : Int) : (eqGuard op T xo yo (.int k a) (.int j b)).run P w = .ok () w :=
  eqGuard_plain (by simp) (by simp)
theorem sBin_ok {F : Fx} (hF : Facts E F) {h : List SBlk} (hw : HOk E β h w) {op : BinOp} {T : TypeId} {x y : SV} {xo yo : Operand} {v : SV} (hr : sBin P F h op T x y xo yo = .val v) :
    ((do eqGuard op T xo yo (x.den E β) (y.den E β); binOp op T (x.den E β) (y.den E β)) : Sem Value).run P w = .ok (v.den E β) w := by
  unfold sBin at hr
  split at hr
  · rename_i k a j b
    simp only [SV.den]
    rw [Sem.run_bind, eqGuard_int, Result.andThen_ok]
    split at hr
    · exact shiftS_ok hF T hr
    · exact shiftS_ok hF T hr
    · split at hr
      · rename_i hk; subst hk; exact binInt_ok hF T hr
      · cases hr
  · rename_i x y hne
    split at hr
    · split at hr
      · rename_i hg
        simp only [Bool.and_eq_true] at hg
        split at hr
        · rename_i r hq
          cases hr
          rw [Sem.run_bind, eqGuard_ok hg.1 hg.2, Result.andThen_ok, binOp_eql hg.1]
          simp [eqv_ok hw hq, SV.den]
        · cases hr
      · split at hr
        · rename_i r hq
          cases hr
          obtain ⟨xs, ys, e1, e2, hg, hq⟩ := aggEq_ok (E := E) (β := β) (w := w) hq
          rw [e1, e2, Sem.run_bind, run_eqGuard_agg _ _ _ _ _ _ _ hg, Result.andThen_ok, run_eql_struct, hq]
          rfl
        · cases hr
    · split at hr
      · rename_i hg
        simp only [Bool.and_eq_true] at hg
        split at hr
        · rename_i r hq
          cases hr
          rw [Sem.run_bind, eqGuard_ok hg.1 hg.2, Result.andThen_ok, binOp_neq hg.1]
          simp [eqv_ok hw hq, SV.den, SB.den_mkNot]
        · cases hr
      · split at hr
        · rename_i r hq
          cases hr
          obtain ⟨xs, ys, e1, e2, hg, hq⟩ := aggEq_ok (E := E) (β := β) (w := w) hq
          rw [e1, e2, Sem.run_bind, run_eqGuard_agg _ _ _ _ _ _ _ hg, Result.andThen_ok, run_neq_struct, hq]
          simp [SV.den, SB.den_mkNot]
        · cases hr
    · exact sFloat_ok hF hr
def sUn (F : Fx) (op : UnOp) (x : SV) : RP :=
  match op, x with
  | .neg, .int k n => .val (.int k (wrapR F k (.mkSub (.c 0) n)))
  | .xor, .int k n => .val (.int k (.mkBits .xor k (.c (if k.signed then -1 else k.max)) n))
  | .not, .bool b => .val (.bool (.mkNot b))
  | _, _ => .no
theorem sUn_ok {F : Fx} (hF : Facts E F) {op : UnOp} {x : SV} {v : SV} (hr : sUn F op x = .val v) : (Op.unary op (x.den E β)).run P w = .ok (v.den E β) w := by
  unfold sUn at hr
  split at hr
  · cases hr; simp [Op.unary, Op.intArith, SV.den, wrapR_ok hF, SE.den_mkSub, SE.den]
  · cases hr; simp [Op.unary, Op.intBits, SV.den, SE.den_mkBits, SE.den, Go.bits]
  · cases hr; simp [Op.unary, SV.den, SB.den_mkNot]
  · cases hr
def sConv (P : Program) (F : Fx) (src dst : TypeId) (x : SV) : RP :=
  match P.underlying src, P.underlying dst, x with
  | some _, some (.int k), .int _ n => .val (.int k (wrapR F k n))
  | some .string, some .string, .str l => .val (.str l)
  | some _, some (.float k), .int _ n => onNN F n (.val (.fx k n 0))
  | some _, some (.int .i64), .fw k e => onB F (.ap 1002 (.i (.c (kcode k)) (.i e .nil))) (.val (.int .i64 (.ap 1002 (.i (.c (kcode k)) (.i e .nil))))) .dead
  | some _, some (.int .i64), x => match fxOf x with
    | some (k, e, j) => if j ≤ 60 then onNN F e (onLt F e (fBig k) (.val (.int .i64 (.mkTdiv e (.c ((2 ^ j : Nat) : Int)))))) else .no
    | none => .no
  | _, _, _ => .no
theorem sConv_ok {F : Fx} (hF : Facts E F) {src dst : TypeId} {x : SV} {v : SV} (hr : sConv P F src dst x = .val v) : (convert src dst (x.den E β)).run P w = .ok (v.den E β) w := by
  unfold sConv at hr
  split at hr
  · rename_i d k j n h1 h2
    cases hr
    simp only [convert, underlying, Sem.run_bind, run_program, Result.andThen_ok, h1, h2, Sem.run_pure, SV.den]
    cases d <;> simp [Conv.intToInt, wrapR_ok hF]
  · rename_i h1 h2
    cases hr
    simp [convert, underlying, h1, h2, SV.den]
  · rename_i d k j n h1 h2
    obtain ⟨h0, hr⟩ := onNN_val hF hr
    cases hr
    simp only [convert, underlying, Sem.run_bind, run_program, Result.andThen_ok, h1, h2, Sem.run_pure, SV.den]
    have e : k.nearest (n.den E) = k.format.nearest false (n.den E).toNat (-((0 : Nat) : Int)) := by
      unfold FloatKind.nearest FloatKind.encode
      have : decide (n.den E < 0) = false := decide_eq_false (by omega)
      rw [this]
      simp only [Ieee.Format.write]
      congr 1; omega
    cases d <;> simp [Conv.intToFloat, e]
  · rename_i d k e h1 h2
    rcases onB_val hF hr with ⟨h0, hr⟩ | ⟨_, hr⟩
    · cases hr
      have e1 : (SB.ap 1002 (.i (.c (kcode k)) (.i e .nil))).den E = E.fn.g 1002 [.i (kcode k), .i (e.den E)] := rfl
      rw [e1, E.fn.gb 1002 _ (by decide)] at h0
      simp only [gbase, kof_kcode] at h0
      have e2 : (SE.ap 1002 (.i (.c (kcode k)) (.i e .nil))).den E = E.fn.f 1002 [.i (kcode k), .i (e.den E)] := rfl
      simp only [convert, underlying, Sem.run_bind, run_program, Result.andThen_ok, h1, h2, Sem.run_pure, SV.den]
      rw [e2, E.fn.fb 1002 _ (by decide)]
      simp only [fbase, kof_kcode]
      cases ht : (k.decode (e.den E).toNat).toInt .zero with
      | none => rw [ht] at h0; cases h0
      | some n =>
        rw [ht] at h0
        have h0 := of_decide_eq_true h0
        cases d <;> simp only [Conv.floatToInt, ht, h0, and_self, if_true, Sem.run_pure, Option.getD_some]
    · cases hr
  · rename_i d h1 h2 _ hne
    split at hr
    · rename_i k e j hx
      split at hr
      · rename_i hj
        obtain ⟨h0, hr⟩ := onNN_val hF hr
        obtain ⟨h3, hr⟩ := onLt_val hF hr
        cases hr
        rw [fxOf_ok hx]
        obtain ⟨f1, f2, f3⟩ := fmt_ok k
        obtain ⟨n, hn⟩ := Int.eq_ofNat_of_zero_le h0
        rw [hn] at h3
        have h4 : n < fBig k := by omega
        have := toInt_exact k.format f1 f2 n j h4 (f3 _ hj)
        have hle : n / 2 ^ j ≤ n := Nat.div_le_self _ _
        have hb : fBig k ≤ 2 ^ 53 := by cases k <;> decide
        have hrng : IntKind.i64.min ≤ ((n / 2 ^ j : Nat) : Int) ∧ ((n / 2 ^ j : Nat) : Int) ≤ IntKind.i64.max := by
          have m1 : IntKind.i64.min = -9223372036854775808 := by decide
          have m2 : IntKind.i64.max = 9223372036854775807 := by decide
          rw [m1, m2]
          generalize n / 2 ^ j = q at hle ⊢
          omega
        simp only [convert, underlying, Sem.run_bind, run_program, Result.andThen_ok, h1, h2, Sem.run_pure]
        have e2 : (Int.tdiv (n : Int) ((2 ^ j : Nat) : Int)) = ((n / 2 ^ j : Nat) : Int) := by
          rw [Int.tdiv_eq_ediv_of_nonneg (by omega)]; rfl
        cases d <;> simp only [Conv.floatToInt, FloatKind.decode, hn, Int.toNat_natCast, this, hrng, and_self, if_true, Sem.run_pure, SV.den, SE.den_mkTdiv, SE.den, e2]
      · cases hr
    · cases hr
  · cases hr
def sMkIf (P : Program) (T : TypeId) (x : SV) : RP :=
  match P.underlying T with
  | some (.interface _) => .no
  | some _ => .val (.ifc T x)
  | none => .no
theorem sMkIf_ok {T : TypeId} {x : SV} {v : SV} (hr : sMkIf P T x = .val v) : (Instr.makeInterface T (x.den E β)).run P w = .ok (v.den E β) w := by
  unfold sMkIf at hr
  split at hr
  · cases hr
  · rename_i d hn hd
    cases hr
    simp only [Instr.makeInterface, underlying, Sem.run_bind, run_program, Result.andThen_ok, hd, Sem.run_pure, SV.den]
  · cases hr
def sNil (x : SV) : RP :=
  match x with
  | .nilptr | .nilif | .nilfunc => .dead
  | .func (.method _) _ _ => .no
  | .opq _ => .no
  | .own _ => .no
  | .q _ _ => .no
  | .pa .. => .no
  | .sa .. => .no
  | x => .val x
def isAggT (P : Program) (T : TypeId) : Option Bool :=
  match P.underlying T with
  | some (.struct _) => some true
  | some (.array _ _) => some true
  | some _ => some false
  | none => none
theorem isAggT_ok {T : TypeId} {b : Bool} (h : isAggT P T = some b) : (isAgg T).run P w = .ok b w := by
  unfold isAggT at h
  split at h
  · rename_i hd; cases h; simp [isAgg, underlying, hd]
  · rename_i hd; cases h; simp [isAgg, underlying, hd]
  · rename_i d h1 h2 hd
    cases h
    simp only [isAgg, underlying, Sem.run_bind, run_program, Result.andThen_ok, hd, Sem.run_pure]
  · cases h
def sizeT (P : Program) (T : TypeId) : Option Nat := (P.info? T).map (·.size)
theorem sizeT_ok {T : TypeId} {n : Nat} (h : sizeT P T = some n) : (sizeOf T).run P w = .ok n w := by
  simp only [sizeT, Option.map_eq_some_iff] at h
  obtain ⟨i, hi, rfl⟩ := h
  simp [sizeOf, typeInfo, hi]
def sPart (P : Program) (T : TypeId) (l : List SV) (off : Nat) : RP :=
  match isAggT P T with
  | some true => match sizeT P T with
    | some n => .val (.agg ((l.drop off).take n))
    | none => .no
  | some false => match l[off]? with
    | some v => .val v
    | none => .no
  | none => .no
theorem denL_extract (l : List SV) (a n : Nat) : (SV.denL E β l).toArray.extract a (a + n) = (SV.denL E β ((l.drop a).take n)).toArray := by
  rw [SV.denL_map, SV.denL_map]
  simp [List.map_drop, List.map_take, List.extract_eq_take_drop]
theorem denL_get {l : List SV} {i : Nat} {v : SV} (h : l[i]? = some v) : (SV.denL E β l).toArray[i]? = some (v.den E β) := by
  rw [SV.denL_map]; simp [h]
theorem sPart_ok {T : TypeId} {l : List SV} {off : Nat} {v : SV} (hr : sPart P T l off = .val v) : (part T (SV.denL E β l).toArray off).run P w = .ok (v.den E β) w := by
  unfold sPart at hr
  split at hr
  · rename_i ha
    split at hr
    · rename_i n hn
      cases hr
      simp only [part, Sem.run_bind, isAggT_ok ha, Result.andThen_ok, if_true, sizeT_ok hn, Sem.run_pure, SV.den]
      rw [denL_extract]
    · cases hr
  · rename_i ha
    split at hr
    · rename_i u hu
      cases hr
      simp only [part, Sem.run_bind, isAggT_ok ha, Result.andThen_ok, denL_get hu]
      rfl
    · cases hr
  · cases hr
def sField (P : Program) (T : TypeId) (x : SV) (i : Nat) : RP :=
  match P.underlying T, x with
  | some (.struct fs), .agg l => match fs[i]? with
    | some f => sPart P f.type l f.offset
    | none => .no
  | _, _ => .no
theorem sField_ok {T : TypeId} {x : SV} {i : Nat} {v : SV} (hr : sField P T x i = .val v) : (Instr.field T (x.den E β) i).run P w = .ok (v.den E β) w := by
  unfold sField at hr
  split at hr
  · rename_i fs l hd
    split at hr
    · rename_i f hf
      simp only [Instr.field, underlying, Sem.run_bind, run_program, Result.andThen_ok, hd, Sem.run_pure, hf, SV.den, asAgg]
      exact sPart_ok hr
    · cases hr
  · cases hr
def sFieldAddr (P : Program) (T : TypeId) (x : SV) (i : Nat) : RP :=
  match P.underlying T, x with
  | some (.struct fs), .ptr b o => match fs[i]? with
    | some f => match sizeT P f.type with
      | some n => if n = 0 then .no else .val (.ptr b { o with col := o.col + f.offset })
      | none => .no
    | none => .no
  | _, _ => .no
def sNil2 (F : Fx) (x : SV) : RP :=
  match x with
  | .pa e o => onB F (.mkLe (.c 0) e) (.val (.pa e o)) .dead
  | x => sNil x
theorem addr_add (b o n : Nat) : (Addr.add ⟨b, o, none⟩ n) = ⟨b, o + n, none⟩ := by
  unfold Addr.add; split <;> simp_all
theorem sFieldAddr_ok {T : TypeId} {x : SV} {i : Nat} {v : SV} (hr : sFieldAddr P T x i = .val v) : (Instr.fieldAt T (x.den E β) i).run P w = .ok (v.den E β) w := by
  unfold sFieldAddr at hr
  split at hr
  · rename_i fs b o hd
    split at hr
    · rename_i f hf
      split at hr
      · rename_i n hn
        split at hr
        · cases hr
        · rename_i hz
          cases hr
          simp only [Instr.fieldAt, underlying, Sem.run_bind, run_program, Result.andThen_ok, hd, Sem.run_pure, hf, SV.den, Instr.sureAddr, fieldPlace, sizeT_ok hn, hz, if_false, addr_add, Off.den, Nat.add_assoc]
      · cases hr
    · cases hr
  · cases hr
def sFieldAddr2 (P : Program) (F : Fx) (T : TypeId) (x : SV) (i : Nat) : RP :=
  match P.underlying T, x with
  | some (.struct fs), .pa e (.c m) => match fs[i]? with
    | some f => match sizeT P f.type with
      | some n => if n = 0 ∨ m < 0 then .no else onB F (.mkLe (.c 0) e) (.val (.pa e (.c (m + f.offset)))) .dead
      | none => .no
    | none => .no
  | _, x => sFieldAddr P T x i
theorem sFieldAddr2_ok {F : Fx} (hF : Facts E F) {T : TypeId} {x : SV} {i : Nat} {v : SV} (hr : sFieldAddr2 P F T x i = .val v) : (Instr.fieldAt T (x.den E β) i).run P w = .ok (v.den E β) w := by
  unfold sFieldAddr2 at hr
  split at hr
  · rename_i fs e m hd
    split at hr
    · rename_i f hf
      split at hr
      · rename_i n hn
        split at hr
        · cases hr
        · rename_i hz
          rcases onB_val hF hr with ⟨hb, hr⟩ | ⟨hb, hr⟩
          · cases hr
            rw [SB.den_mkLe] at hb
            have hb : 0 ≤ e.den E := of_decide_eq_true hb
            have hz1 : n ≠ 0 := fun h0 => hz (.inl h0)
            simp only [Instr.fieldAt, underlying, Sem.run_bind, run_program, Result.andThen_ok, hd, Sem.run_pure, hf, SV.den, SE.den, hb, if_true, Instr.sureAddr, fieldPlace, sizeT_ok hn, hz1, if_false, addr_add]
            congr 4
            omega
          · cases hr
      · cases hr
    · cases hr
  · exact sFieldAddr_ok hr
end Go.Sy
