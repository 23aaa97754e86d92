/- Indexes, slices, assertions, len, cap, min, max. -/
import Derived.Test.YtjanndmmhjnpcaaDoorSyE
set_option autoImplicit true
set_option relaxedAutoImplicit true
set_option linter.unusedVariables false
set_option linter.unusedSimpArgs false
namespace Go.Sy
open Go
variable {E : Env} {β : Nat → Bk} {P : Program} {w : World}
def constRow (o : Off) : Option Nat :=
  match o.row with
  | .c r => some (r.toNat * o.stride + o.col)
  | _ => none
theorem constRow_ok {o : Off} {p : Nat} (h : constRow o = some p) : o.den E = p := by
  unfold constRow at h
  split at h
  · rename_i r hr; cases h; simp [Off.den, hr, SE.den]
  · cases h
def offAdd (F : Fx) (o : Off) (i : SE) (sz : Nat) : Option Off :=
  match constRow o with
  | some p => some ⟨i, sz, p⟩
  | none => if o.stride = sz && nonneg F o.row then some { o with row := .mkAdd o.row i } else none
theorem offAdd_ok {F : Fx} (hF : Facts E F) {o q : Off} {i : SE} {sz : Nat} (h : offAdd F o i sz = some q) (hi : 0 ≤ i.den E) : q.den E = o.den E + (i.den E).toNat * sz := by
  unfold offAdd at h
  split at h
  · rename_i p hp; cases h; rw [constRow_ok hp]; simp [Off.den]; omega
  · split at h
    · rename_i hc
      simp only [Bool.and_eq_true, decide_eq_true_eq] at hc
      cases h
      have hn := nonneg_ok hF hc.2
      simp only [Off.den, SE.den_mkAdd, ← hc.1]
      rw [Int.toNat_add hn hi, Nat.add_mul]; omega
    · cases h
def sIndexAddr (P : Program) (F : Fx) (T : TypeId) (x ix : SV) : RP :=
  match P.underlying T, x, ix with
  | some (.array n e), .ptr b o, .int _ i =>
    match sizeT P e with
    | some sz => onB F (.mkLe (.c 0) i) (onB F (.mkLt i (.c n)) (match offAdd F o i sz with | some q => .val (.ptr b q) | none => .no) .dead) .dead
    | none => .no
  | some (.slice e), .slice b o len _, .int _ i =>
    match sizeT P e with
    | some sz => onB F (.mkLe (.c 0) i) (onB F (.mkLt i len) (match offAdd F o i sz with | some q => .val (.ptr b q) | none => .no) .dead) .dead
    | none => .no
  | some (.slice _), .nilslice, .int _ _ => .dead
  | _, _, _ => .no
theorem sIndexAddr_ok {F : Fx} (hF : Facts E F) {T : TypeId} {x ix v : SV} (hr : sIndexAddr P F T x ix = .val v) :
    (Instr.indexAt T (x.den E β) (ix.den E β)).run P w = .ok (v.den E β) w := by
  unfold sIndexAddr at hr
  split at hr
  · rename_i n e b o k i hd
    split at hr
    · rename_i sz hsz
      rcases onB_val hF hr with ⟨h0, hr⟩ | ⟨_, hr⟩
      · rcases onB_val hF hr with ⟨h1, hr⟩ | ⟨_, hr⟩
        · rw [SB.den_mkLe] at h0; rw [SB.den_mkLt] at h1
          have h0 : (0 : Int) ≤ i.den E := of_decide_eq_true h0
          have h1 : i.den E < (n : Int) := of_decide_eq_true h1
          split at hr
          · rename_i q hq
            cases hr
            simp only [Instr.indexAt, SV.den, asIntOf, Sem.run_bind, Sem.run_pure, Result.andThen_ok, underlying, run_program, hd, Instr.sureAddr]
            simp [h0, h1, sizeT_ok hsz, addr_add, offAdd_ok hF hq h0, Nat.add_assoc]
          · cases hr
        · cases hr
      · cases hr
    · cases hr
  · rename_i e b o len cap k i hd
    split at hr
    · rename_i sz hsz
      rcases onB_val hF hr with ⟨h0, hr⟩ | ⟨_, hr⟩
      · rcases onB_val hF hr with ⟨h1, hr⟩ | ⟨_, hr⟩
        · rw [SB.den_mkLe] at h0; rw [SB.den_mkLt] at h1
          have h0 : (0 : Int) ≤ i.den E := of_decide_eq_true h0
          have h1 : i.den E < len.den E := of_decide_eq_true h1
          have h2 : i.den E < ((len.den E).toNat : Int) := by omega
          split at hr
          · rename_i q hq
            cases hr
            simp only [Instr.indexAt, SV.den, asIntOf, Sem.run_bind, Sem.run_pure, Result.andThen_ok, underlying, run_program, hd]
            simp only [h0, h2, and_self, if_true, Sem.run_bind, sizeT_ok hsz, Result.andThen_ok, Sem.run_pure, addr_add, offAdd_ok hF hq h0, Nat.add_assoc]
          · cases hr
        · cases hr
      · cases hr
    · cases hr
  · cases hr
  · cases hr
def sIndex (P : Program) (T : TypeId) (x ix : SV) : RP :=
  match P.underlying T, x, ix with
  | some (.array n e), .agg l, .int _ (.c i) =>
    match sizeT P e with
    | some sz => if 0 ≤ i ∧ i < n then sPart P e l (i.toNat * sz) else .dead
    | none => .no
  | _, _, _ => .no
theorem sIndex_ok {T : TypeId} {x ix v : SV} (hr : sIndex P T x ix = .val v) :
    (Instr.index T (x.den E β) (ix.den E β)).run P w = .ok (v.den E β) w := by
  unfold sIndex at hr
  split at hr
  · rename_i n e l k i hd
    split at hr
    · rename_i sz hsz
      split at hr
      · rename_i hb
        simp only [Instr.index, SV.den, SE.den, asIntOf, Sem.run_bind, Sem.run_pure, Result.andThen_ok, underlying, run_program, hd]
        rw [if_pos hb]
        simp only [Sem.run_bind, sizeT_ok hsz, Result.andThen_ok]
        exact sPart_ok hr
      · cases hr
    · cases hr
  · cases hr
theorem sliceBound_ok {k : IntKind} {i : Int} {y : Nat} {code : BoundsCode} (h0 : 0 ≤ i) (h1 : i ≤ y) : (Instr.sliceBound (.int k i) y code).run P w = .ok i.toNat w := by
  simp [Instr.sliceBound, asIntOf, h0, h1]
theorem cut_off {cap l : Int} (h : 0 ≤ l) (a sz : Nat) : (if cap.toNat = l.toNat then a else a + l.toNat * sz) = a + (ini cap l).toNat * sz := by
  unfold ini
  by_cases h1 : cap = l
  · simp [h1]
  · rw [if_neg h1]
    split
    · rename_i h2
      have : l.toNat = 0 := by omega
      simp [this]
    · rfl
theorem ini_nonneg {cap l : Int} (h : 0 ≤ l) : 0 ≤ ini cap l := by unfold ini; split <;> omega
def inRange (F : Fx) (lo hi : Option SV) (len cap : SE) (k : SE → SE → RP) : RP :=
  match lo, hi with
  | none, none => k (.c 0) len
  | some (.int _ l), none => onB F (.mkLe (.c 0) l) (onB F (.mkLe l len) (k l len) .dead) .dead
  | none, some (.int _ h) => onB F (.mkLe (.c 0) h) (onB F (.mkLe h cap) (k (.c 0) h) .dead) .dead
  | some (.int _ l), some (.int _ h) => onB F (.mkLe (.c 0) h) (onB F (.mkLe h cap) (onB F (.mkLe (.c 0) l) (onB F (.mkLe l h) (k l h) .dead) .dead) .dead) .dead
  | _, _ => .no
def denO (E : Env) (β : Nat → Bk) (x : Option SV) : Option Value := x.map (SV.den E β)
theorem inRange_ok {F : Fx} (hF : Facts E F) {lo hi : Option SV} {len cap : SE} {k : SE → SE → RP} {v : SV} (hr : inRange F lo hi len cap k = .val v) (isSlice : Bool) :
    ∃ l h : SE, k l h = .val v ∧ 0 ≤ l.den E ∧
      (Instr.sliceBounds isSlice (len.den E).toNat (cap.den E).toNat (denO E β lo) (denO E β hi) none).run P w = .ok ((l.den E).toNat, (h.den E).toNat, (cap.den E).toNat) w := by
  unfold inRange at hr
  split at hr
  · exact ⟨_, _, hr, by simp [SE.den], by simp [denO, Instr.sliceBounds, SE.den]⟩
  · rename_i kk l
    rcases onB_val hF hr with ⟨h0, hr⟩ | ⟨_, hr⟩
    · rcases onB_val hF hr with ⟨h1, hr⟩ | ⟨_, hr⟩
      · rw [SB.den_mkLe] at h0 h1
        have h0 : (0 : Int) ≤ l.den E := of_decide_eq_true h0
        have h1 : l.den E ≤ len.den E := of_decide_eq_true h1
        exact ⟨_, _, hr, h0, by simp [denO, SV.den, Instr.sliceBounds, sliceBound_ok h0 (show l.den E ≤ ((len.den E).toNat : Int) by omega)]⟩
      · cases hr
    · cases hr
  · rename_i kk h
    rcases onB_val hF hr with ⟨h0, hr⟩ | ⟨_, hr⟩
    · rcases onB_val hF hr with ⟨h1, hr⟩ | ⟨_, hr⟩
      · rw [SB.den_mkLe] at h0 h1
        have h0 : (0 : Int) ≤ h.den E := of_decide_eq_true h0
        have h1 : h.den E ≤ cap.den E := of_decide_eq_true h1
        exact ⟨_, _, hr, by simp [SE.den], by simp [denO, SV.den, Instr.sliceBounds, sliceBound_ok h0 (show h.den E ≤ ((cap.den E).toNat : Int) by omega), SE.den]⟩
      · cases hr
    · cases hr
  · rename_i kk l kh h
    rcases onB_val hF hr with ⟨h0, hr⟩ | ⟨_, hr⟩
    · rcases onB_val hF hr with ⟨h1, hr⟩ | ⟨_, hr⟩
      · rcases onB_val hF hr with ⟨h2, hr⟩ | ⟨_, hr⟩
        · rcases onB_val hF hr with ⟨h3, hr⟩ | ⟨_, hr⟩
          · rw [SB.den_mkLe] at h0 h1 h2 h3
            have h0 : (0 : Int) ≤ h.den E := of_decide_eq_true h0
            have h1 : h.den E ≤ cap.den E := of_decide_eq_true h1
            have h2 : (0 : Int) ≤ l.den E := of_decide_eq_true h2
            have h3 : l.den E ≤ h.den E := of_decide_eq_true h3
            exact ⟨_, _, hr, h2, by simp [denO, SV.den, Instr.sliceBounds, sliceBound_ok h0 (show h.den E ≤ ((cap.den E).toNat : Int) by omega), sliceBound_ok h2 (show l.den E ≤ ((h.den E).toNat : Int) by omega)]⟩
          · cases hr
        · cases hr
      · cases hr
    · cases hr
  · cases hr
def sSlice (P : Program) (F : Fx) (T : TypeId) (x : SV) (lo hi : Option SV) : RP :=
  match P.underlying T, x with
  | some (.array n e), .ptr b o =>
    match sizeT P e with
    | some sz => inRange F lo hi (.c n) (.c n) fun l h =>
        match offAdd F o (.mkNi (.c n) l) sz with
        | some q => .val (.slice b q (.mkSub h l) (.mkSub (.c n) l))
        | none => .no
    | none => .no
  | some (.slice e), .slice b o len cap =>
    match sizeT P e with
    | some sz => inRange F lo hi len cap fun l h =>
        match (if l = .c 0 then some o else offAdd F o (.mkNi cap l) sz) with
        | some q => .val (.slice b q (.mkSub h l) (.mkSub cap l))
        | none => .no
    | none => .no
  | some (.slice e), .nilslice =>
    match sizeT P e with
    | some _ => match lo, hi with
      | none, none => .val .nilslice
      | some (.int _ (.c 0)), none => .val .nilslice
      | none, some (.int _ (.c 0)) => .val .nilslice
      | some (.int _ (.c 0)), some (.int _ (.c 0)) => .val .nilslice
      | _, _ => .no
    | none => .no
  | _, _ => .no
theorem toNat_sub' {a b : Int} (h : 0 ≤ b) : a.toNat - b.toNat = (a - b).toNat := by omega
theorem sSlice_ok {F : Fx} (hF : Facts E F) {T : TypeId} {x v : SV} {lo hi : Option SV} (hr : sSlice P F T x lo hi = .val v) :
    (Instr.sliceAt T (x.den E β) (denO E β lo) (denO E β hi) none).run P w = .ok (v.den E β) w := by
  unfold sSlice at hr
  split at hr
  · rename_i n e b o hd
    split at hr
    · rename_i sz hsz
      obtain ⟨l, h, hr, hl0, hb⟩ := inRange_ok (β := β) (P := P) (w := w) hF hr false
      split at hr
      · rename_i q hq
        cases hr
        simp only [SE.den, Int.toNat_natCast] at hb
        have hni : 0 ≤ (SE.mkNi (.c n) l).den E := by rw [SE.den_mkNi]; exact ini_nonneg hl0
        simp only [Instr.sliceAt, underlying, Sem.run_bind, run_program, Result.andThen_ok, hd, Sem.run_pure, SV.den, Instr.sureAddr, hb, sizeT_ok hsz, offAdd_ok hF hq hni, SE.den_mkSub, SE.den, SE.den_mkNi]
        rw [← toNat_sub' hl0, ← toNat_sub' hl0, Int.toNat_natCast, ← cut_off hl0]
        simp only [Int.toNat_natCast, addr_add, Nat.add_assoc]
        split <;> rfl
      · cases hr
    · cases hr
  · rename_i e b o len cap hd
    split at hr
    · rename_i sz hsz
      obtain ⟨l, h, hr, hl0, hb⟩ := inRange_ok (β := β) (P := P) (w := w) hF hr true
      split at hr
      · rename_i q hq
        cases hr
        have hoff : q.den E = o.den E + (ini (cap.den E) (l.den E)).toNat * sz := by
          split at hq
          · rename_i hl; cases hq; subst hl
            have h00 : ini (cap.den E) 0 = 0 := by unfold ini; split <;> rfl
            simp [SE.den, h00]
          · rw [offAdd_ok hF hq (by rw [SE.den_mkNi]; exact ini_nonneg hl0), SE.den_mkNi]
        simp only [Instr.sliceAt, underlying, Sem.run_bind, run_program, Result.andThen_ok, hd, Sem.run_pure, SV.den, Instr.slice, hb, sizeT_ok hsz, hoff, SE.den_mkSub]
        rw [← toNat_sub' hl0, ← toNat_sub' hl0, ← cut_off hl0]
        simp only [Option.map_some, addr_add, Nat.add_assoc]
        split <;> rfl
      · cases hr
    · cases hr
  · rename_i e hd
    have hz : ∀ k c, (Instr.sliceBound (.int k 0) 0 c).run P w = .ok 0 w := fun k c => by simp [Instr.sliceBound, asIntOf]
    split at hr
    · rename_i sz hsz
      split at hr <;> first
        | (cases hr; simp [Instr.sliceAt, underlying, hd, SV.den, SE.den, Instr.slice, denO, Instr.sliceBounds, sizeT_ok hsz, hz]; done)
        | (cases hr; done)
    · cases hr
  · cases hr
def sAssert (P : Program) (x : SV) (asserted : TypeId) (commaOk : Bool) : RP :=
  match P.underlying asserted, x with
  | some (.interface want), .ifc t v =>
    match P.info? t with
    | some i => match Instr.missingMethod want i.methods with
      | none => .val (if commaOk then .tup [.ifc t v, .bool (.c true)] else .ifc t v)
      | some _ => if commaOk then match (P.info? asserted).bind (·.zero) with
          | some z => match lift z with
            | some s => .val (.tup [s, .bool (.c false)])
            | none => .no
          | none => .no
        else .dead
    | none => .no
  | some _, .nilif => if commaOk then match (P.info? asserted).bind (·.zero) with
          | some z => match lift z with
            | some s => .val (.tup [s, .bool (.c false)])
            | none => .no
          | none => .no
        else .dead
  | some _, .ifc t v =>
    if t = asserted then .val (if commaOk then .tup [v, .bool (.c true)] else v)
    else if commaOk then match (P.info? asserted).bind (·.zero) with
          | some z => match lift z with
            | some s => .val (.tup [s, .bool (.c false)])
            | none => .no
          | none => .no
        else .dead
  | _, _ => .no
theorem zero_ok {T : TypeId} {z : Value} (h : (P.info? T).bind (·.zero) = some z) : (zeroValue T).run P w = .ok z w := by
  rw [Option.bind_eq_some_iff] at h
  obtain ⟨i, hi, hz⟩ := h
  simp [zeroValue, typeInfo, hi, hz]
theorem sAssert_ok {x v : SV} {xT asserted : TypeId} {ok : Bool} (hr : sAssert P x asserted ok = .val v) :
    (Instr.typeAssert (x.den E β) xT asserted ok).run P w = .ok (v.den E β) w := by
  unfold sAssert at hr
  split at hr
  · rename_i want t u hd
    split at hr
    · rename_i i hi
      split at hr
      · rename_i hm
        cases hr
        simp only [Instr.typeAssert, underlying, Sem.run_bind, run_program, Result.andThen_ok, hd, Sem.run_pure, SV.den, typeInfo, hi, hm]
        cases ok <;> simp [SV.den, SV.denL, SB.den]
      · rename_i m hm
        split at hr
        · rename_i hk
          split at hr
          · rename_i z hz
            split at hr
            · rename_i s hs
              cases hr
              simp only [Instr.typeAssert, underlying, Sem.run_bind, run_program, Result.andThen_ok, hd, Sem.run_pure, SV.den, typeInfo, hi, hm, hk, if_true, zero_ok hz]
              simp [SV.denL, SV.den, SB.den, lift_ok hs]
            · cases hr
          · cases hr
        · cases hr
    · cases hr
  · rename_i d hd
    split at hr
    · rename_i hk
      split at hr
      · rename_i z hz
        split at hr
        · rename_i s hs
          cases hr
          simp only [Instr.typeAssert, underlying, Sem.run_bind, run_program, Result.andThen_ok, hd, Sem.run_pure, SV.den, hk, if_true]
          cases d <;> simp [zero_ok hz, SV.denL, SV.den, SB.den, lift_ok hs]
        · cases hr
      · cases hr
    · cases hr
  · rename_i d t u hn hd
    split at hr
    · rename_i ht
      cases hr
      simp only [Instr.typeAssert, underlying, Sem.run_bind, run_program, Result.andThen_ok, hd, Sem.run_pure, SV.den, ht]
      cases d <;> cases ok <;> simp_all [SV.denL, SV.den, SB.den]
    · rename_i ht
      split at hr
      · rename_i hk
        split at hr
        · rename_i z hz
          split at hr
          · rename_i s hs
            cases hr
            simp only [Instr.typeAssert, underlying, Sem.run_bind, run_program, Result.andThen_ok, hd, Sem.run_pure, SV.den, hk, if_true]
            cases d <;> simp_all [zero_ok hz, SV.denL, SV.den, SB.den, lift_ok hs]
          · cases hr
        · cases hr
      · cases hr
  · cases hr
def sExtract (x : SV) (i : Nat) : RP :=
  match x with
  | .tup l => match l[i]? with
    | some v => .val v
    | none => .no
  | _ => .no
theorem sExtract_ok {x v : SV} {i : Nat} (hr : sExtract x i = .val v) : (Instr.extract (x.den E β) i).run P w = .ok (v.den E β) w := by
  unfold sExtract at hr
  split at hr
  · split at hr
    · rename_i u hu
      cases hr
      simp only [Instr.extract, SV.den, denL_get hu, Sem.run_pure]
    · cases hr
  · cases hr
def minAll (k : IntKind) : SE → List SV → Option SE
  | a, [] => some a
  | a, .int _ b :: r => minAll k (.mkMn a b) r
  | _, _ => none
def maxAll (k : IntKind) : SE → List SV → Option SE
  | a, [] => some a
  | a, .int _ b :: r => maxAll k (.mkMx a b) r
  | _, _ => none
theorem minAll_ok (k : IntKind) : ∀ {l : List SV} {a r : SE}, minAll k a l = some r → (List.foldlM Builtin.min2 (Value.int k (a.den E)) (SV.denL E β l)).run P w = .ok (.int k (r.den E)) w
  | [], a, r, h => by simp [minAll] at h; subst h; simp [SV.denL]
  | v :: t, a, r, h => by
    unfold minAll at h
    split at h
    · rename_i h1; cases h1
    · rename_i h1; cases h1
      have ih := minAll_ok k h
      simp only [SV.denL, SV.den, List.foldlM_cons, Sem.run_bind, Builtin.min2, Sem.run_pure, Result.andThen_ok]
      rw [SE.den_mkMn] at ih
      exact ih
    · cases h
theorem maxAll_ok (k : IntKind) : ∀ {l : List SV} {a r : SE}, maxAll k a l = some r → (List.foldlM Builtin.max2 (Value.int k (a.den E)) (SV.denL E β l)).run P w = .ok (.int k (r.den E)) w
  | [], a, r, h => by simp [maxAll] at h; subst h; simp [SV.denL]
  | v :: t, a, r, h => by
    unfold maxAll at h
    split at h
    · rename_i h1; cases h1
    · rename_i h1; cases h1
      have ih := maxAll_ok k h
      simp only [SV.denL, SV.den, List.foldlM_cons, Sem.run_bind, Builtin.max2, Sem.run_pure, Result.andThen_ok]
      rw [SE.den_mkMx] at ih
      exact ih
    · cases h
def sBuiltin (P : Program) (F : Fx) (b : Builtin) (argTypes : List TypeId) (args : List SV) : RP :=
  match b, argTypes, args with
  | .len, t :: _, x :: _ =>
    match P.underlying t, x with
    | some (.slice _), .slice _ _ n _ => .val (.int .i64 (nn F n))
    | some (.slice _), .nilslice => .val (.int .i64 (.c 0))
    | some .string, .str l => .val (.int .i64 (.c l.length))
    | some (.array n _), _ => .val (.int .i64 (.c n))
    | some (.map _ _), .nilmap => .val (.int .i64 (.c 0))
    | _, _ => .no
  | .cap, t :: _, x :: _ =>
    match P.underlying t, x with
    | some (.slice _), .slice _ _ _ n => .val (.int .i64 (nn F n))
    | some (.slice _), .nilslice => .val (.int .i64 (.c 0))
    | some (.array n _), _ => .val (.int .i64 (.c n))
    | _, _ => .no
  | .min, _, .int k a :: r => match minAll k a r with | some e => .val (.int k e) | none => .no
  | .max, _, .int k a :: r => match maxAll k a r with | some e => .val (.int k e) | none => .no
  | _, _, _ => .no
theorem bsize (l : List UInt8) : (ByteArray.mk l.toArray).size = l.length := List.size_toArray
theorem sBuiltin_ok {F : Fx} (hF : Facts E F) {b : Builtin} {argTypes : Array TypeId} {T : TypeId} {consts : Array Bool} {args : List SV} {v : SV} (hr : sBuiltin P F b argTypes.toList args = .val v) :
    (builtin b argTypes T consts (SV.denL E β args).toArray).run P w = .ok (.value (v.den E β)) w := by
  obtain ⟨argTypes⟩ := argTypes
  simp only at hr
  unfold sBuiltin at hr
  split at hr
  · rename_i t ts x xs
    split at hr
    · rename_i e bb o n c hd
      cases hr
      simp [builtin, Builtin.len_, SV.denL, SV.den, underlying, hd, goInt, nn_ok hF]
    · rename_i e hd; cases hr; simp [builtin, Builtin.len_, SV.denL, SV.den, underlying, hd, goInt, SE.den]
    · rename_i l hd; cases hr; simp [builtin, Builtin.len_, SV.denL, SV.den, underlying, hd, goInt, SE.den, bsize]
    · rename_i n e hd; cases hr; simp [builtin, Builtin.len_, SV.denL, SV.den, underlying, hd, goInt, SE.den]
    · rename_i a c hd; cases hr; simp [builtin, Builtin.len_, SV.denL, SV.den, underlying, hd, goInt, SE.den]
    · cases hr
  · rename_i t ts x xs
    split at hr
    · rename_i e bb o n c hd
      cases hr
      simp [builtin, Builtin.cap_, SV.denL, SV.den, underlying, hd, goInt, nn_ok hF]
    · rename_i e hd; cases hr; simp [builtin, Builtin.cap_, SV.denL, SV.den, underlying, hd, goInt, SE.den]
    · rename_i n e hd; cases hr; simp [builtin, Builtin.cap_, SV.denL, SV.den, underlying, hd, goInt, SE.den]
    · cases hr
  · rename_i k a r
    split at hr
    · rename_i e he
      cases hr
      have := minAll_ok (E := E) (β := β) (P := P) (w := w) k he
      simp [builtin, Builtin.min_, SV.denL, SV.den, this]
    · cases hr
  · rename_i k a r
    split at hr
    · rename_i e he
      cases hr
      have := maxAll_ok (E := E) (β := β) (P := P) (w := w) k he
      simp [builtin, Builtin.max_, SV.denL, SV.den, this]
    · cases hr
  · cases hr
end Go.Sy
