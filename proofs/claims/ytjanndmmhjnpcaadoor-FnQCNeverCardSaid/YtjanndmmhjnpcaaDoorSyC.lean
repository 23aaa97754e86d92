/- More pure operations of the symbolic executor: equality, unary, conversions, structs, arrays, slices. -/
import Derived.Test.YtjanndmmhjnpcaaDoorSyB
import Derived.Laws.StructEq
import Derived.ChangeKeysEq
set_option autoImplicit true
set_option relaxedAutoImplicit true
set_option linter.unusedVariables false
set_option linter.unusedSimpArgs false
namespace Go.Sy
open Go
variable {E : Env} {β : Nat → Bk} {P : Program} {w : World}
def descIs (P : Program) (T : TypeId) (p : TypeDesc → Bool) : Bool :=
  match P.underlying T with
  | some d => p d
  | none => false
def isPtrTo (P : Program) (T : TypeId) : Bool :=
  match P.underlying T with
  | some (.pointer e) => match P.info? e with
    | some i => decide (i.size ≠ 0)
    | none => false
  | _ => false
def isCells (h : List SBlk) (b : Nat) : Bool :=
  match h[b]? with
  | some (.cells _ _) => true
  | _ => false
def ptrEq (P : Program) (h : List SBlk) (x y : SV) : Option Bool :=
  match x, y with
  | .nilptr, .nilptr => some true
  | .nilptr, .ptr _ _ => some false
  | .ptr _ _, .nilptr => some false
  | .ptr b o, .ptr c q =>
    if b = c then
      if o = q then some true
      else match o.row, q.row with
        | .c m, .c n => some (m.toNat * o.stride + o.col == n.toNat * q.stride + q.col)
        | _, _ => none
    else if isCells h b && isCells h c then some false else none
  | _, _ => none
def eqv (P : Program) (h : List SBlk) (T : TypeId) (x y : SV) : Option SB :=
  match x, y with
  | .bool a, .bool b => if descIs P T (fun | .bool => true | _ => false) then some (.mkBeq a b) else none
  | .str a, .str b => if descIs P T (fun | .string => true | _ => false) then some (.c (a == b)) else none
  | .nilif, .nilif => if descIs P T (fun | .interface _ => true | _ => false) then some (.c true) else none
  | .nilif, .ifc _ _ => if descIs P T (fun | .interface _ => true | _ => false) then some (.c false) else none
  | .ifc _ _, .nilif => if descIs P T (fun | .interface _ => true | _ => false) then some (.c false) else none
  | .ifc t u, .ifc s v =>
    if descIs P T (fun | .interface _ => true | _ => false) then
      if t = s then
        match P.info? t with
        | some i => if i.comparable && isPtrTo P t then (ptrEq P h u v).map .c else none
        | none => none
      else some (.c false)
    else none
  | .nilfunc, .nilfunc => if descIs P T (fun | .func _ _ _ => true | _ => false) then some (.c true) else none
  | .nilfunc, .func _ _ _ => if descIs P T (fun | .func _ _ _ => true | _ => false) then some (.c false) else none
  | .func _ _ _, .nilfunc => if descIs P T (fun | .func _ _ _ => true | _ => false) then some (.c false) else none
  | .nilslice, .nilslice => if descIs P T (fun | .slice _ => true | _ => false) then some (.c true) else none
  | .nilslice, .slice _ _ _ _ => if descIs P T (fun | .slice _ => true | _ => false) then some (.c false) else none
  | .slice _ _ _ _, .nilslice => if descIs P T (fun | .slice _ => true | _ => false) then some (.c false) else none
  | .nilmap, .nilmap => if descIs P T (fun | .map _ _ => true | _ => false) then some (.c true) else none
  | .nilmap, .map _ => if descIs P T (fun | .map _ _ => true | _ => false) then some (.c false) else none
  | .map _, .nilmap => if descIs P T (fun | .map _ _ => true | _ => false) then some (.c false) else none
  | x, y => if isPtrTo P T then (ptrEq P h x y).map .c else none
theorem isCells_ok {h : List SBlk} (hw : HOk E β h w) {b : Nat} (hb : isCells h b = true) : ∃ l S, h[b]? = some (.cells l S) ∧ ∃ cs T, w.heap[(β b).a]? = some (.cells cs T (0, 0)) := by
  unfold isCells at hb
  split at hb
  · rename_i l T hl
    have := hw.ok b _ hl
    exact ⟨_, _, hl, _, _, this.2⟩
  · cases hb
theorem sameAddr_ne {a b : Addr} (hne : a.block ≠ b.block) {cs ds : Array Value} {S T : TypeId} (ha : w.heap[a.block]? = some (.cells cs S (0, 0))) (hb : w.heap[b.block]? = some (.cells ds T (0, 0))) :
    (sameAddr a b).run P w = .ok false w := by
  have hbeq : (a.block == b.block) = false := by simpa using hne
  have fz : ∀ (x : Addr) (cs : Array Value) (S : TypeId), w.heap[x.block]? = some (.cells cs S (0, 0)) → ∀ o s, w.frozen? ⟨x.block, o, s⟩ = false := by
    intro x cs S hx o s; simp [World.frozen?, hx]
  have fa : w.frozen? a = false := by have := fz a cs S ha a.off a.spot; exact this
  have sa : w.shape? a.block = some (S, cs.size) := by simp [World.shape?, ha]
  have sb : w.shape? b.block = some (T, ds.size) := by simp [World.shape?, hb]
  have fb : w.frozen? b = false := by have := fz b ds T hb b.off b.spot; exact this
  simp [sameAddr, hbeq, fa, noView, viewAt, sa, sb, mayBeOne, stringish, fz a cs S ha, fb, fz b ds T hb]
theorem ptrEq_ok {h : List SBlk} (hw : HOk E β h w) {T : TypeId} (hT : isPtrTo P T = true) {x y : SV} {r : Bool} (hr : ptrEq P h x y = some r) (d : Nat) :
    (Op.equalIn (d + 1) T (x.den E β) (y.den E β)).run P w = .ok r w := by
  unfold isPtrTo at hT
  split at hT
  · rename_i e he
    split at hT
    · rename_i i hi
      have hs : i.size ≠ 0 := by simpa using hT
      unfold ptrEq at hr
      split at hr
      · simp at hr; subst hr; simp [SV.den, Op.equalIn, underlying, he]
      · simp at hr; subst hr; simp [SV.den, Op.equalIn, underlying, he]
      · simp at hr; subst hr; simp [SV.den, Op.equalIn, underlying, he]
      · rename_i b o c q
        have hz : (sizeOf e).run P w = .ok i.size w := by simp [sizeOf, typeInfo, hi]
        have hgo : (Op.equalIn (d + 1) T ((SV.ptr b o).den E β) ((SV.ptr c q).den E β)).run P w = (sameAddr ⟨(β b).a, (β b).o + o.den E, none⟩ ⟨(β c).a, (β c).o + q.den E, none⟩).run P w := by
          simp [SV.den, Op.equalIn, underlying, he, hz, hs]
        rw [hgo]
        split at hr
        · rename_i hbc
          subst hbc
          have h1 : (sameAddr ⟨(β b).a, (β b).o + o.den E, none⟩ ⟨(β b).a, (β b).o + q.den E, none⟩).run P w = .ok (decide (o.den E = q.den E)) w := by
            simp [sameAddr]
            by_cases hh : o.den E = q.den E <;> simp [hh]
          rw [h1]
          split at hr
          · rename_i hoq; subst hoq; simp at hr; subst hr; simp
          · split at hr
            · rename_i m n hm hn
              simp at hr; subst hr
              simp only [Off.den, hm, hn, SE.den]
              rfl
            · cases hr
        · rename_i hbc
          split at hr
          · rename_i hcc
            simp at hr; subst hr
            simp only [Bool.and_eq_true] at hcc
            obtain ⟨_, _, hb, cs, S, hcs⟩ := isCells_ok hw hcc.1
            obtain ⟨_, _, hc, ds, U, hds⟩ := isCells_ok hw hcc.2
            exact sameAddr_ne (a := ⟨(β b).a, (β b).o + o.den E, none⟩) (b := ⟨(β c).a, (β c).o + q.den E, none⟩) (fun hh => hbc (hw.inj hb hc trivial trivial rfl rfl hh)) hcs hds
          · cases hr
      · cases hr
    · cases hT
  · cases hT
theorem descIs_some {T : TypeId} {p : TypeDesc → Bool} (h : descIs P T p = true) : ∃ d, P.underlying T = some d ∧ p d = true := by
  unfold descIs at h
  split at h
  · rename_i d hd; exact ⟨d, hd, h⟩
  · cases h
theorem bytes_beq (a b : List UInt8) : ((⟨a.toArray⟩ : ByteArray) == ⟨b.toArray⟩) = (a == b) := by
  show (a.toArray == b.toArray) = _
  simp
theorem eqvIn_ok {h : List SBlk} (hw : HOk E β h w) {T : TypeId} {x y : SV} {r : SB} (hr : eqv P h T x y = some r) (n : Nat) :
    (Op.equalIn (n + 1 + 1) T (x.den E β) (y.den E β)).run P w = .ok (r.den E) w := by
  unfold eqv at hr
  split at hr
  case h_1 a b =>
    split at hr
    · rename_i hd; obtain ⟨d, hd, hp⟩ := descIs_some hd
      simp at hr; subst hr
      split at hp <;> simp at hp
      rw [Op.equalIn]; simp [SV.den, underlying, hd, SB.den_mkBeq]
    · cases hr
  case h_2 a b =>
    split at hr
    · rename_i hd; obtain ⟨d, hd, hp⟩ := descIs_some hd
      simp at hr; subst hr
      split at hp <;> simp at hp
      rw [Op.equalIn]; simp only [SV.den, underlying, hd]
      simp [SB.den, hd, bytes_beq]
    · cases hr
  case h_6 t u s v =>
    split at hr
    · rename_i hd; obtain ⟨d, hd, hp⟩ := descIs_some hd
      split at hp <;> simp at hp
      split at hr
      · rename_i hts
        subst hts
        split at hr
        · rename_i i hi
          split at hr
          · rename_i hc
            simp only [Bool.and_eq_true] at hc
            simp only [Option.map_eq_some_iff] at hr
            obtain ⟨rb, hrb, rfl⟩ := hr
            have := ptrEq_ok (w := w) hw hc.2 hrb n
            rw [Op.equalIn]
            simp [SV.den, underlying, hd, typeInfo, hi, hc.1, this, SB.den]
          · cases hr
        · cases hr
      · rename_i hts
        simp at hr; subst hr
        rw [Op.equalIn]; simp [SV.den, underlying, hd, hts, SB.den]
    · cases hr
  case h_16 x y _ _ _ _ _ _ _ _ _ _ _ _ _ _ _ =>
    split at hr
    · rename_i hp
      simp only [Option.map_eq_some_iff] at hr
      obtain ⟨rb, hrb, rfl⟩ := hr
      exact ptrEq_ok hw hp hrb (n + 1)
    · cases hr
  all_goals
    split at hr
    · rename_i hd; obtain ⟨d, hd, hp⟩ := descIs_some hd
      simp at hr; subst hr
      split at hp <;> simp at hp
      rw [Op.equalIn]; simp [SV.den, underlying, hd, SB.den]
    · cases hr
theorem eqv_ok {h : List SBlk} (hw : HOk E β h w) {T : TypeId} {x y : SV} {r : SB} (hr : eqv P h T x y = some r) :
    (Op.equal T (x.den E β) (y.den E β)).run P w = .ok (r.den E) w := eqvIn_ok hw hr 9998
def SB.mkAnd0 (x y : SB) : SB :=
  match x with
  | .c true => y
  | .c false => .c false
  | x => match y with
    | .c true => x
    | y => .and x y
theorem SB.den_mkAnd0 (x y : SB) : (SB.mkAnd0 x y).den E = (x.den E && y.den E) := by
  unfold SB.mkAnd0; split
  · simp [SB.den]
  · simp [SB.den]
  · split <;> simp [SB.den]
def eq1 (P : Program) (T : TypeId) (x y : SV) : Option SB :=
  match x, y with
  | .int k a, .int j b => if k = j ∧ descIs P T (fun | .int _ => true | _ => false) = true then some (.mkEq a b) else none
  | .bool a, .bool b => if descIs P T (fun | .bool => true | _ => false) then some (.mkBeq a b) else none
  | _, _ => none
theorem eq1_ok {T : TypeId} {x y : SV} {r : SB} (hr : eq1 P T x y = some r) (d : Nat) : (Op.equalIn (d + 1) T (x.den E β) (y.den E β)).run P w = .ok (r.den E) w ∧ (isAgg T).run P w = .ok false w := by
  unfold eq1 at hr
  split at hr
  · split at hr
    · rename_i hc
      obtain ⟨rfl, hd⟩ := hc
      obtain ⟨de, hd, hp⟩ := descIs_some hd
      cases hr
      split at hp
      · exact ⟨by simp only [SV.den, SB.den_mkEq]; exact run_equalIn_int w d T _ _ _ _ hd, by simp [isAgg, underlying, hd]⟩
      · cases hp
    · cases hr
  · split at hr
    · rename_i hd
      obtain ⟨de, hd, hp⟩ := descIs_some hd
      cases hr
      split at hp
      · exact ⟨by simp only [SV.den, SB.den_mkBeq]; exact run_equalIn_bool w d T _ _ hd, by simp [isAgg, underlying, hd]⟩
      · cases hp
    · cases hr
  · cases hr
theorem part1 {T : TypeId} (h : (isAgg T).run P w = .ok false w) {cs : Array Value} {i : Nat} {v : Value} (hv : cs[i]? = some v) : (part T cs i).run P w = .ok v w := by
  simp only [part, Sem.run_bind, h, Result.andThen_ok, Bool.false_eq_true, if_false, hv, Sem.run_pure]
def eqIs (P : Program) (e : TypeId) : List SV → List SV → Option SB
  | [], [] => some (.c true)
  | x :: xs, y :: ys => match eq1 P e x y, eqIs P e xs ys with
    | some a, some b => some (.mkAnd0 a b)
    | _, _ => none
  | _, _ => none
theorem eqIs_ok (d : Nat) {e : TypeId} (hsz : P.cellsOf e = 1) {L M : List SV} : ∀ {i : Nat} {xs ys : List SV} {r : SB}, eqIs P e xs ys = some r → L.drop i = xs → M.drop i = ys →
    (Op.eqItems (d + 1) e (P.cellsOf e) (SV.denL E β L).toArray (SV.denL E β M).toArray (List.range' i xs.length)).run P w = .ok (r.den E) w
  | i, [], [], r, h, _, _ => by simp only [eqIs, Option.some.injEq] at h; subst h; rfl
  | i, x :: xs, y :: ys, r, h, h1, h2 => by
    simp only [eqIs] at h
    split at h
    · rename_i a b ha hb
      cases h
      have n1 : (SV.denL E β L).toArray[i]? = some (x.den E β) := by
        have : L[i]? = some x := by rw [← List.head?_drop, h1]; rfl
        simp [SV.denL_map, this]
      have n2 : (SV.denL E β M).toArray[i]? = some (y.den E β) := by
        have : M[i]? = some y := by rw [← List.head?_drop, h2]; rfl
        simp [SV.denL_map, this]
      obtain ⟨e1, e2⟩ := eq1_ok (E := E) (β := β) (w := w) ha d
      have hrec := eqIs_ok d hsz (L := L) (M := M) (i := i + 1) hb (by rw [← List.tail_drop, h1]; rfl) (by rw [← List.tail_drop, h2]; rfl)
      rw [hsz] at hrec
      simp only [List.length_cons, List.range'_succ, Op.eqItems, Sem.run_bind, hsz, Nat.mul_one, part1 e2 n1, part1 e2 n2, Result.andThen_ok, e1, SB.den_mkAnd0]
      cases a.den E with
      | true => simpa using hrec
      | false => simp
    · cases h
  | _, [], _ :: _, _, h, _, _ => by simp [eqIs] at h
  | _, _ :: _, [], _, h, _, _ => by simp [eqIs] at h
def arrTy (P : Program) (T : TypeId) : Option (Nat × TypeId) :=
  match P.underlying T with
  | some (.array n e) => if P.cellsOf e = 1 ∧ (P.info? e).isSome = true ∧ (P.info? T).map (·.size) = some n then some (n, e) else none
  | _ => none
def eqFs (P : Program) : List Field → Nat → List SV → List SV → Option SB
  | [], _, xs, ys => if xs.isEmpty && ys.isEmpty then some (.c true) else none
  | f :: fs, i, xs, ys => if f.offset = i ∧ f.name ≠ "_" then match arrTy P f.type with
    | some (n, e) => if n ≤ xs.length ∧ n ≤ ys.length then match eqIs P e (xs.take n) (ys.take n), eqFs P fs (i + n) (xs.drop n) (ys.drop n) with
      | some a, some b => some (.mkAnd0 a b)
      | _, _ => none
      else none
    | none => match xs, ys with
      | x :: xs, y :: ys => match eq1 P f.type x y, eqFs P fs (i + 1) xs ys with
        | some a, some b => some (.mkAnd0 a b)
        | _, _ => none
      | _, _ => none
    else none
theorem partN {T : TypeId} {n : Nat} {e : TypeId} (h : arrTy P T = some (n, e)) (cs : Array Value) (i : Nat) : (part T cs i).run P w = .ok (.agg (cs.extract i (i + n))) w ∧ P.underlying T = some (.array n e) ∧ P.cellsOf e = 1 ∧ ∃ j, P.info? e = some j := by
  unfold arrTy at h
  split at h
  · rename_i n' e' hu
    split at h
    · rename_i hc
      cases h
      obtain ⟨h1, h2, h3⟩ := hc
      have ha : (isAgg T).run P w = .ok true w := by simp [isAgg, underlying, hu]
      have hs : (sizeOf T).run P w = .ok n w := by
        simp only [Option.map_eq_some_iff] at h3
        obtain ⟨j, hj, hj2⟩ := h3
        simp [sizeOf, typeInfo, hj, hj2]
      refine ⟨?_, hu, h1, Option.isSome_iff_exists.1 h2⟩
      simp only [part, Sem.run_bind, ha, Result.andThen_ok, if_true, hs, Sem.run_pure]
    · cases h
  · cases h
theorem eqFs_ok (d : Nat) {L M : List SV} : ∀ {fs : List Field} {i : Nat} {xs ys : List SV} {r : SB}, eqFs P fs i xs ys = some r → L.drop i = xs → M.drop i = ys →
    (Op.eqFields (d + 2) (SV.denL E β L).toArray (SV.denL E β M).toArray fs).run P w = .ok (r.den E) w
  | [], i, xs, ys, r, h, _, _ => by
    simp only [eqFs] at h
    split at h
    · cases h; rfl
    · cases h
  | f :: fs, i, xs, ys, r, h, h1, h2 => by
    simp only [eqFs] at h
    split at h
    · rename_i hc
      split at h
      · rename_i n e harr
        split at h
        · rename_i hlen
          split at h
          · rename_i a b ha hb
            cases h
            obtain ⟨p1, q1, q2, j, q3⟩ := partN (w := w) harr (SV.denL E β L).toArray f.offset
            obtain ⟨p2, _⟩ := partN (w := w) harr (SV.denL E β M).toArray f.offset
            have x1 : (SV.denL E β L).toArray.extract f.offset (f.offset + n) = (SV.denL E β (xs.take n)).toArray := by
              rw [hc.1, ← h1, SV.denL_map, SV.denL_map]
              apply Array.ext'
              simp [List.map_take, List.map_drop]
            have x2 : (SV.denL E β M).toArray.extract f.offset (f.offset + n) = (SV.denL E β (ys.take n)).toArray := by
              rw [hc.1, ← h2, SV.denL_map, SV.denL_map]
              apply Array.ext'
              simp [List.map_take, List.map_drop]
            have e1 : (Op.equalIn (d + 2) f.type (.agg (SV.denL E β (xs.take n)).toArray) (.agg (SV.denL E β (ys.take n)).toArray)).run P w = .ok (a.den E) w := by
              rw [run_equalIn_array w (d + 1) _ _ q1 q3, List.range_eq_range']
              have := eqIs_ok (E := E) (β := β) (w := w) d q2 (i := 0) ha rfl rfl
              rw [List.length_take, Nat.min_eq_left hlen.1] at this
              exact this
            have hrec := eqFs_ok d (L := L) (M := M) (i := i + n) hb (by rw [← List.drop_drop, h1]) (by rw [← List.drop_drop, h2])
            simp only [Op.eqFields, hc.2, if_true, Sem.run_bind, p1, p2, x1, x2, Result.andThen_ok, e1, ne_eq, not_false_eq_true, SB.den_mkAnd0]
            cases a.den E with
            | true => simpa using hrec
            | false => simp
          · cases h
        · cases h
      · split at h
        · rename_i x xs' y ys'
          split at h
          · rename_i a b ha hb
            cases h
            have n1 : (SV.denL E β L).toArray[i]? = some (x.den E β) := by
              have : L[i]? = some x := by rw [← List.head?_drop, h1]; rfl
              simp [SV.denL_map, this]
            have n2 : (SV.denL E β M).toArray[i]? = some (y.den E β) := by
              have : M[i]? = some y := by rw [← List.head?_drop, h2]; rfl
              simp [SV.denL_map, this]
            obtain ⟨e1, e2⟩ := eq1_ok (E := E) (β := β) (w := w) ha (d + 1)
            have hrec := eqFs_ok d (L := L) (M := M) (i := i + 1) hb (by rw [← List.tail_drop, h1]; rfl) (by rw [← List.tail_drop, h2]; rfl)
            simp only [Op.eqFields, hc.2, if_true, Sem.run_bind, hc.1, part1 e2 n1, part1 e2 n2, Result.andThen_ok, e1, ne_eq, not_false_eq_true, SB.den_mkAnd0]
            cases a.den E with
            | true => simpa using hrec
            | false => simp
          · cases h
        · cases h
    · cases h
def aggEq (P : Program) (T : TypeId) (x y : SV) : Option SB :=
  match x, y with
  | .agg l, .agg m => if P.eqGuardType P.depth T = false then match P.underlying T with
    | some (.struct fs) => if P.stoodInHeld T = false then eqFs P fs.toList 0 l m else none
    | some (.array n e) => if P.cellsOf e = 1 ∧ n = l.length then match P.info? e with
      | some _ => eqIs P e l m
      | none => none
      else none
    | _ => none
    else none
  | _, _ => none
theorem aggEq_ok {T : TypeId} {x y : SV} {r : SB} (hr : aggEq P T x y = some r) : ∃ xs ys, x.den E β = .agg xs ∧ y.den E β = .agg ys ∧ P.eqGuardType P.depth T = false ∧ (Op.equalIn 10000 T (.agg xs) (.agg ys)).run P w = .ok (r.den E) w := by
  unfold aggEq at hr
  split at hr
  · rename_i l m
    split at hr
    · rename_i hg
      split at hr
      · rename_i fs hfs
        split at hr
        · rename_i hs
          refine ⟨_, _, rfl, rfl, hg, ?_⟩
          have hf : P.fieldsOf T = fs := by unfold Program.fieldsOf; rw [hfs]
          rw [run_equalIn_struct w 9999 T _ _ (by rw [hf]; exact hfs) hs, hf]
          exact eqFs_ok 9997 hr rfl rfl
        · cases hr
      · rename_i n e hu
        split at hr
        · rename_i hc
          split at hr
          · rename_i i hi
            refine ⟨_, _, rfl, rfl, hg, ?_⟩
            rw [run_equalIn_array w 9999 _ _ hu hi, List.range_eq_range', hc.2]
            exact eqIs_ok 9998 hc.1 hr rfl rfl
          · cases hr
        · cases hr
      · cases hr
    · cases hr
  · cases hr
end Go.Sy
