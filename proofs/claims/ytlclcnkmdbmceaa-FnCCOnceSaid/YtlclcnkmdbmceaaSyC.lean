/- More pure operations of the symbolic executor: equality, unary, conversions, structs, arrays, slices. -/
import Derived.Test.YtlclcnkmdbmceaaSyB
set_option linter.unusedVariables false
set_option linter.unusedSimpArgs false
namespace Go.Sy
open Go
variable {E : Env} {β : Nat → Bk} {P : Program} {w : World}

def descIs (P : Program) (T : TypeId) (p : TypeDesc → Bool) : Bool :=
  match P.underlying T with
  | some d => p d
  | none => false
def isPtrTo (P : Program) (T : TypeId) : Bool :=
  match P.underlying T with
  | some (.pointer e) => match P.info? e with
    | some i => decide (i.size ≠ 0)
    | none => false
  | _ => false
def isCells (h : List SBlk) (b : Nat) : Bool :=
  match h[b]? with
  | some (.cells _ _) => true
  | _ => false
def ptrEq (P : Program) (h : List SBlk) (x y : SV) : Option Bool :=
  match x, y with
  | .nilptr, .nilptr => some true
  | .nilptr, .ptr _ _ => some false
  | .ptr _ _, .nilptr => some false
  | .ptr b o, .ptr c q =>
    if b = c then
      if o = q then some true
      else match o.row, q.row with
        | .c m, .c n => some (m.toNat * o.stride + o.col == n.toNat * q.stride + q.col)
        | _, _ => none
    else if isCells h b && isCells h c then some false else none
  | _, _ => none
def eqv (P : Program) (h : List SBlk) (T : TypeId) (x y : SV) : Option SB :=
  match x, y with
  | .bool a, .bool b => if descIs P T (fun | .bool => true | _ => false) then some (.mkBeq a b) else none
  | .str a, .str b => if descIs P T (fun | .string => true | _ => false) then some (.c (a == b)) else none
  | .nilif, .nilif => if descIs P T (fun | .interface _ => true | _ => false) then some (.c true) else none
  | .nilif, .ifc _ _ => if descIs P T (fun | .interface _ => true | _ => false) then some (.c false) else none
  | .ifc _ _, .nilif => if descIs P T (fun | .interface _ => true | _ => false) then some (.c false) else none
  | .ifc t u, .ifc s v =>
    if descIs P T (fun | .interface _ => true | _ => false) then
      if t = s then
        match P.info? t with
        | some i => if i.comparable && isPtrTo P t then (ptrEq P h u v).map .c else none
        | none => none
      else some (.c false)
    else none
  | .nilfunc, .nilfunc => if descIs P T (fun | .func _ _ _ => true | _ => false) then some (.c true) else none
  | .nilfunc, .func _ _ _ => if descIs P T (fun | .func _ _ _ => true | _ => false) then some (.c false) else none
  | .func _ _ _, .nilfunc => if descIs P T (fun | .func _ _ _ => true | _ => false) then some (.c false) else none
  | .nilslice, .nilslice => if descIs P T (fun | .slice _ => true | _ => false) then some (.c true) else none
  | .nilslice, .slice _ _ _ _ => if descIs P T (fun | .slice _ => true | _ => false) then some (.c false) else none
  | .slice _ _ _ _, .nilslice => if descIs P T (fun | .slice _ => true | _ => false) then some (.c false) else none
  | .nilmap, .nilmap => if descIs P T (fun | .map _ _ => true | _ => false) then some (.c true) else none
  | .nilmap, .map _ => if descIs P T (fun | .map _ _ => true | _ => false) then some (.c false) else none
  | .map _, .nilmap => if descIs P T (fun | .map _ _ => true | _ => false) then some (.c false) else none
  | x, y => if isPtrTo P T then (ptrEq P h x y).map .c else none

theorem isCells_ok {h : List SBlk} (hw : HOk E β h w) {b : Nat} (hb : isCells h b = true) : ∃ l S, h[b]? = some (.cells l S) ∧ ∃ cs T, w.heap[(β b).a]? = some (.cells cs T (0, 0)) := by
  unfold isCells at hb
  split at hb
  · rename_i l T hl
    have := hw.ok b _ hl
    exact ⟨_, _, hl, _, _, this.2⟩
  · cases hb
theorem sameAddr_ne {a b : Addr} (hne : a.block ≠ b.block) {cs ds : Array Value} {S T : TypeId} (ha : w.heap[a.block]? = some (.cells cs S (0, 0))) (hb : w.heap[b.block]? = some (.cells ds T (0, 0))) :
    (sameAddr a b).run P w = .ok false w := by
  have hbeq : (a.block == b.block) = false := by simpa using hne
  have fz : ∀ (x : Addr) (cs : Array Value) (S : TypeId), w.heap[x.block]? = some (.cells cs S (0, 0)) → ∀ o s, w.frozen? ⟨x.block, o, s⟩ = false := by
    intro x cs S hx o s; simp [World.frozen?, hx]
  have fa : w.frozen? a = false := by have := fz a cs S ha a.off a.spot; exact this
  have sa : w.shape? a.block = some (S, cs.size) := by simp [World.shape?, ha]
  have sb : w.shape? b.block = some (T, ds.size) := by simp [World.shape?, hb]
  have fb : w.frozen? b = false := by have := fz b ds T hb b.off b.spot; exact this
  simp [sameAddr, hbeq, fa, noView, viewAt, sa, sb, mayBeOne, stringish, fz a cs S ha, fb, fz b ds T hb]
theorem ptrEq_ok {h : List SBlk} (hw : HOk E β h w) {T : TypeId} (hT : isPtrTo P T = true) {x y : SV} {r : Bool} (hr : ptrEq P h x y = some r) (d : Nat) :
    (Op.equalIn (d + 1) T (x.den E β) (y.den E β)).run P w = .ok r w := by
  unfold isPtrTo at hT
  split at hT
  · rename_i e he
    split at hT
    · rename_i i hi
      have hs : i.size ≠ 0 := by simpa using hT
      unfold ptrEq at hr
      split at hr
      · simp at hr; subst hr; simp [SV.den, Op.equalIn, underlying, he]
      · simp at hr; subst hr; simp [SV.den, Op.equalIn, underlying, he]
      · simp at hr; subst hr; simp [SV.den, Op.equalIn, underlying, he]
      · rename_i b o c q
        have hz : (sizeOf e).run P w = .ok i.size w := by simp [sizeOf, typeInfo, hi]
        have hgo : (Op.equalIn (d + 1) T ((SV.ptr b o).den E β) ((SV.ptr c q).den E β)).run P w = (sameAddr ⟨(β b).a, (β b).o + o.den E, none⟩ ⟨(β c).a, (β c).o + q.den E, none⟩).run P w := by
          simp [SV.den, Op.equalIn, underlying, he, hz, hs]
        rw [hgo]
        split at hr
        · rename_i hbc
          subst hbc
          have h1 : (sameAddr ⟨(β b).a, (β b).o + o.den E, none⟩ ⟨(β b).a, (β b).o + q.den E, none⟩).run P w = .ok (decide (o.den E = q.den E)) w := by
            simp [sameAddr]
            by_cases hh : o.den E = q.den E <;> simp [hh]
          rw [h1]
          split at hr
          · rename_i hoq; subst hoq; simp at hr; subst hr; simp
          · split at hr
            · rename_i m n hm hn
              simp at hr; subst hr
              simp only [Off.den, hm, hn, SE.den]
              rfl
            · cases hr
        · rename_i hbc
          split at hr
          · rename_i hcc
            simp at hr; subst hr
            simp only [Bool.and_eq_true] at hcc
            obtain ⟨_, _, hb, cs, S, hcs⟩ := isCells_ok hw hcc.1
            obtain ⟨_, _, hc, ds, U, hds⟩ := isCells_ok hw hcc.2
            exact sameAddr_ne (a := ⟨(β b).a, (β b).o + o.den E, none⟩) (b := ⟨(β c).a, (β c).o + q.den E, none⟩) (fun hh => hbc (hw.inj hb hc trivial trivial rfl rfl hh)) hcs hds
          · cases hr
      · cases hr
    · cases hT
  · cases hT

theorem descIs_some {T : TypeId} {p : TypeDesc → Bool} (h : descIs P T p = true) : ∃ d, P.underlying T = some d ∧ p d = true := by
  unfold descIs at h
  split at h
  · rename_i d hd; exact ⟨d, hd, h⟩
  · cases h
theorem bytes_beq (a b : List UInt8) : ((⟨a.toArray⟩ : ByteArray) == ⟨b.toArray⟩) = (a == b) := by
  show (a.toArray == b.toArray) = _
  simp
theorem eqvIn_ok {h : List SBlk} (hw : HOk E β h w) {T : TypeId} {x y : SV} {r : SB} (hr : eqv P h T x y = some r) (n : Nat) :
    (Op.equalIn (n + 1 + 1) T (x.den E β) (y.den E β)).run P w = .ok (r.den E) w := by
  unfold eqv at hr
  split at hr
  case h_1 a b =>
    split at hr
    · rename_i hd; obtain ⟨d, hd, hp⟩ := descIs_some hd
      simp at hr; subst hr
      split at hp <;> simp at hp
      rw [Op.equalIn]; simp [SV.den, underlying, hd, SB.den_mkBeq]
    · cases hr
  case h_2 a b =>
    split at hr
    · rename_i hd; obtain ⟨d, hd, hp⟩ := descIs_some hd
      simp at hr; subst hr
      split at hp <;> simp at hp
      rw [Op.equalIn]; simp only [SV.den, underlying, hd]
      simp [SB.den, hd, bytes_beq]
    · cases hr
  case h_6 t u s v =>
    split at hr
    · rename_i hd; obtain ⟨d, hd, hp⟩ := descIs_some hd
      split at hp <;> simp at hp
      split at hr
      · rename_i hts
        subst hts
        split at hr
        · rename_i i hi
          split at hr
          · rename_i hc
            simp only [Bool.and_eq_true] at hc
            simp only [Option.map_eq_some_iff] at hr
            obtain ⟨rb, hrb, rfl⟩ := hr
            have := ptrEq_ok (w := w) hw hc.2 hrb n
            rw [Op.equalIn]
            simp [SV.den, underlying, hd, typeInfo, hi, hc.1, this, SB.den]
          · cases hr
        · cases hr
      · rename_i hts
        simp at hr; subst hr
        rw [Op.equalIn]; simp [SV.den, underlying, hd, hts, SB.den]
    · cases hr
  case h_16 x y _ _ _ _ _ _ _ _ _ _ _ _ _ _ _ =>
    split at hr
    · rename_i hp
      simp only [Option.map_eq_some_iff] at hr
      obtain ⟨rb, hrb, rfl⟩ := hr
      exact ptrEq_ok hw hp hrb (n + 1)
    · cases hr
  all_goals
    split at hr
    · rename_i hd; obtain ⟨d, hd, hp⟩ := descIs_some hd
      simp at hr; subst hr
      split at hp <;> simp at hp
      rw [Op.equalIn]; simp [SV.den, underlying, hd, SB.den]
    · cases hr
theorem eqv_ok {h : List SBlk} (hw : HOk E β h w) {T : TypeId} {x y : SV} {r : SB} (hr : eqv P h T x y = some r) :
    (Op.equal T (x.den E β) (y.den E β)).run P w = .ok (r.den E) w := eqvIn_ok hw hr 9998
end Go.Sy
