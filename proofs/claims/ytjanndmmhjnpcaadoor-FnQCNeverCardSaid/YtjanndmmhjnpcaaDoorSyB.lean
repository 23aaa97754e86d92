/- The pure operations of the symbolic executor, and that they say what the model's operations say. -/
import Derived.Test.YtjanndmmhjnpcaaDoorSyA
set_option autoImplicit true
set_option relaxedAutoImplicit true
set_option linter.unusedVariables false
set_option linter.unusedSimpArgs false
namespace Go.Sy
open Go
abbrev Fx := List (SB × Bool)
def lift0 : Value → Option SV
  | .bool b => some (.bool (.c b))
  | .int k n => some (.int k (.c n))
  | .float k b => some (.flt k b)
  | .string s => some (.str s.data.toList)
  | .pointer none => some .nilptr
  | .slice none 0 0 => some .nilslice
  | .map none => some .nilmap
  | .nilFunc => some .nilfunc
  | .nilIface => some .nilif
  | _ => none
def liftL : List Value → Option (List SV)
  | [] => some []
  | v :: r => match lift0 v, liftL r with
    | some s, some t => some (s :: t)
    | _, _ => none
def lift : Value → Option SV
  | .agg cs => (liftL cs.toList).map .agg
  | .tuple cs => (liftL cs.toList).map .tup
  | .iface t v => (lift0 v).map (.ifc t)
  | v => lift0 v
variable {E : Env} {β : Nat → Bk}
theorem lift0_ok {v : Value} {s : SV} (h : lift0 v = some s) : s.den E β = v := by
  unfold lift0 at h
  split at h <;> simp at h <;> subst h <;> simp [SV.den, SB.den, SE.den]
theorem liftL_ok : ∀ {l : List Value} {t : List SV}, liftL l = some t → SV.denL E β t = l
  | [], t, h => by simp [liftL] at h; subst h; rfl
  | v :: r, t, h => by
    simp only [liftL] at h
    split at h
    · rename_i s u hs hu
      simp at h; subst h
      simp only [SV.denL, lift0_ok hs, liftL_ok hu]
    · cases h
theorem lift_ok {v : Value} {s : SV} (h : lift v = some s) : s.den E β = v := by
  unfold lift at h
  split at h
  · rename_i cs
    simp only [Option.map_eq_some_iff] at h
    obtain ⟨l, hl, rfl⟩ := h
    simp only [SV.den, liftL_ok hl]
  · rename_i cs
    simp only [Option.map_eq_some_iff] at h
    obtain ⟨l, hl, rfl⟩ := h
    simp only [SV.den, liftL_ok hl]
  · rename_i t v
    simp only [Option.map_eq_some_iff] at h
    obtain ⟨l, hl, rfl⟩ := h
    simp only [SV.den, lift0_ok hl]
  · exact lift0_ok h
abbrev Gm := List (Nat × Nat)
def Gm.ok (gm : Gm) (β : Nat → Bk) : Prop := ∀ p ∈ gm, (β p.2).a = p.1 ∧ (β p.2).o = 0
def Gm.get (g : Nat) : Gm → Option Nat
  | [] => none
  | (a, b) :: r => if a = g then some b else Gm.get g r
theorem Gm.get_ok {g b : Nat} : ∀ {gm : Gm}, gm.ok β → Gm.get g gm = some b → (β b).a = g ∧ (β b).o = 0
  | [], _, h => by simp [Gm.get] at h
  | (a, c) :: r, hg, h => by
    simp only [Gm.get] at h
    split at h
    · rename_i ha; simp at h; subst h; subst ha; exact hg (a, c) (by simp)
    · exact Gm.get_ok (fun p hp => hg p (by simp [hp])) h
inductive Tr where
  | nil
  | node (v : Option SV) (l r : Tr)
def Tr.get : Tr → Nat → Option SV
  | .nil, _ => none
  | .node v l r, i => bif Nat.beq i 0 then v else bif Nat.beq (i % 2) 1 then l.get (i / 2) else r.get (i / 2 - 1)
def Tr.set : Nat → Tr → Nat → SV → Tr
  | 0, t, _, _ => t
  | f + 1, t, i, v => match t with
    | .nil => bif Nat.beq i 0 then .node (some v) .nil .nil else bif Nat.beq (i % 2) 1 then .node none (Tr.set f .nil (i / 2) v) .nil else .node none .nil (Tr.set f .nil (i / 2 - 1) v)
    | .node u l r => bif Nat.beq i 0 then .node (some v) l r else bif Nat.beq (i % 2) 1 then .node u (Tr.set f l (i / 2) v) r else .node u l (Tr.set f r (i / 2 - 1) v)
theorem beq_t {a b : Nat} (h : a = b) : Nat.beq a b = true := by subst h; exact Nat.beq_refl a
theorem beq_f {a b : Nat} (h : a ≠ b) : Nat.beq a b = false := by
  cases hh : Nat.beq a b with
  | true => exact (h (Nat.eq_of_beq_eq_true hh)).elim
  | false => rfl
theorem Tr.get_set : ∀ (f : Nat) (t : Tr) (i j : Nat) (v : SV), i < f → (Tr.set f t i v).get j = if j = i then some v else t.get j
  | 0, t, i, j, v, h => by omega
  | f + 1, t, i, j, v, h => by
    have step : ∀ (u : Option SV) (l r : Tr), (bif Nat.beq i 0 then Tr.node (some v) l r else bif Nat.beq (i % 2) 1 then .node u (Tr.set f l (i / 2) v) r else .node u l (Tr.set f r (i / 2 - 1) v)).get j = if j = i then some v else (Tr.node u l r).get j := by
      intro u l r
      by_cases hi : i = 0
      · subst hi
        simp only [Nat.beq_refl, cond_true, Tr.get]
        by_cases hj : j = 0
        · subst hj; simp
        · simp [beq_f hj, hj]
      · rw [beq_f hi]
        by_cases h1 : i % 2 = 1
        · rw [beq_t h1]
          simp only [cond_false, cond_true, Tr.get]
          by_cases hj : j = 0
          · subst hj
            have : (0 : Nat) ≠ i := fun hh => hi hh.symm
            simp [this]
          · rw [beq_f hj]
            by_cases hj1 : j % 2 = 1
            · rw [beq_t hj1]
              simp only [cond_false, cond_true]
              rw [Tr.get_set f l (i / 2) (j / 2) v (by omega)]
              by_cases hij : j = i
              · subst hij; simp
              · rw [if_neg (by omega), if_neg hij]
            · rw [beq_f hj1]
              simp only [cond_false]
              rw [if_neg (by intro hh; subst hh; exact hj1 h1)]
        · rw [beq_f h1]
          simp only [cond_false, Tr.get]
          by_cases hj : j = 0
          · subst hj
            have : (0 : Nat) ≠ i := fun hh => hi hh.symm
            simp [this]
          · rw [beq_f hj]
            by_cases hj1 : j % 2 = 1
            · rw [beq_t hj1]
              simp only [cond_false, cond_true]
              rw [if_neg (by intro hh; subst hh; exact h1 hj1)]
            · rw [beq_f hj1]
              simp only [cond_false]
              rw [Tr.get_set f r (i / 2 - 1) (j / 2 - 1) v (by omega)]
              by_cases hij : j = i
              · subst hij; simp
              · rw [if_neg (by omega), if_neg hij]
    cases t with
    | nil =>
      have := step none .nil .nil
      have e : (Tr.node none .nil .nil).get j = (Tr.nil).get j := by
        simp only [Tr.get]
        cases Nat.beq j 0 <;> cases Nat.beq (j % 2) 1 <;> rfl
      rw [e] at this
      exact this
    | node u l r => exact step u l r
mutual
def SV.ub : SV → Nat
  | .ptr b _ => b + 1
  | .slice b _ _ _ => b + 1
  | .map b => b + 1
  | .own b => b + 1
  | .q b _ => b + 1
  | .func _ f c => Nat.max (SV.ubL f) (SV.ubL c)
  | .ifc _ v => v.ub
  | .agg l => SV.ubL l
  | .tup l => SV.ubL l
  | _ => 0
def SV.ubL : List SV → Nat
  | [] => 0
  | v :: r => Nat.max v.ub (SV.ubL r)
end
theorem max_le {a b n : Nat} (h : Nat.max a b ≤ n) : a ≤ n ∧ b ≤ n := ⟨Nat.le_trans (Nat.le_max_left a b) h, Nat.le_trans (Nat.le_max_right a b) h⟩
mutual
theorem SV.ub_ok {n : Nat} : ∀ (v : SV), v.ub ≤ n → v.bnd n = true
  | .ptr b o, h | .slice b o _ _, h | .map b, h | .own b, h | .q b _, h => by simp only [SV.ub] at h; simp only [SV.bnd, decide_eq_true_eq]; omega
  | .func _ f c, h => by simp only [SV.ub] at h; simp only [SV.bnd, Bool.and_eq_true]; exact ⟨SV.ubL_ok f (max_le h).1, SV.ubL_ok c (max_le h).2⟩
  | .ifc _ v, h => by simp only [SV.ub] at h; simp only [SV.bnd]; exact SV.ub_ok v h
  | .agg l, h => by simp only [SV.ub] at h; simp only [SV.bnd]; exact SV.ubL_ok l h
  | .tup l, h => by simp only [SV.ub] at h; simp only [SV.bnd]; exact SV.ubL_ok l h
  | .int .., _ | .bool _, _ | .flt .., _ | .str _, _ | .nilptr, _ | .nilslice, _ | .nilmap, _ | .nilfunc, _ | .nilif, _ | .opq _, _ | .fx .., _ | .fw .., _ | .pa .., _ | .sa .., _ => by simp [SV.bnd]
theorem SV.ubL_ok {n : Nat} : ∀ (l : List SV), SV.ubL l ≤ n → SV.bndL n l = true
  | [], _ => rfl
  | v :: r, h => by simp only [SV.ubL] at h; simp only [SV.bndL, Bool.and_eq_true]; exact ⟨SV.ub_ok v (max_le h).1, SV.ubL_ok r (max_le h).2⟩
end
structure Tm where
  n : Nat
  o : Bool
  t : Tr
  ub : Nat
  ok : ∀ i v, t.get i = some v → v.ub ≤ ub
def Tm.get (x : Tm) (i : Nat) : SV := bif Nat.ble x.n i then .tup [] else match x.t.get i with
  | some v => v
  | none => bif x.o then .opq i else .tup []
def Tm.get? (x : Tm) (i : Nat) : Option SV := bif Nat.ble x.n i then none else some (x.get i)
def Tm.empty (n : Nat) (o : Bool) : Tm := ⟨n, o, .nil, 0, fun i v h => by cases h⟩
def Tm.put (x : Tm) (i : Nat) (v : SV) : Tm := ⟨x.n, x.o, Tr.set (i + 1) x.t i v, Nat.max x.ub v.ub, fun j u h => by
  rw [Tr.get_set (i + 1) x.t i j v (by omega)] at h
  split at h
  · cases h; exact Nat.le_max_right _ _
  · exact Nat.le_trans (x.ok j u h) (Nat.le_max_left _ _)⟩
def Tm.den (E : Env) (β : Nat → Bk) (x : Tm) : Array Value := ((List.range x.n).map fun i => (x.get i).den E β).toArray
def Tm.bnd (n : Nat) (x : Tm) : Bool := Nat.ble x.ub n
def Tr.vb (n : Nat) : Tr → Bool
  | .nil => true
  | .node v l r => (match v with | some u => u.vb n | none => true) && (l.vb n && r.vb n)
theorem Tr.vb_get {n : Nat} : ∀ (t : Tr) (i : Nat) (v : SV), t.vb n = true → t.get i = some v → v.vb n = true
  | .nil, i, v, _, h => by cases h
  | .node u l r, i, v, h, hg => by
    simp only [Tr.vb, Bool.and_eq_true] at h
    simp only [Tr.get] at hg
    cases h0 : Nat.beq i 0 with
    | true => rw [h0] at hg; simp only [cond_true] at hg; subst hg; exact h.1
    | false =>
      rw [h0] at hg
      cases h1 : Nat.beq (i % 2) 1 with
      | true => rw [h1] at hg; simp only [cond_false, cond_true] at hg; exact Tr.vb_get l _ v h.2.1 hg
      | false => rw [h1] at hg; simp only [cond_false] at hg; exact Tr.vb_get r _ v h.2.2 hg
def Tm.vb (n : Nat) (x : Tm) : Bool := x.t.vb n
theorem Tm.get_vb {n : Nat} {x : Tm} (h : x.vb n = true) (i : Nat) : (x.get i).vb n = true := by
  unfold Tm.get
  cases Nat.ble x.n i with
  | true => rfl
  | false =>
    simp only [cond_false]
    cases hg : x.t.get i with
    | some v => exact Tr.vb_get _ _ _ h hg
    | none => cases x.o <;> rfl
theorem Tm.den_ag {n : Nat} {E' : Env} (H : AgE n E E') {x : Tm} (h : x.vb n = true) : x.den E' β = x.den E β := by
  unfold Tm.den
  congr 1
  apply List.map_congr_left
  intro i _
  exact SV.den_ag H β _ (Tm.get_vb h i)
theorem Tm.get_bnd {n : Nat} {x : Tm} (h : x.bnd n = true) (i : Nat) : (x.get i).bnd n = true := by
  have h := Nat.le_of_ble_eq_true h
  unfold Tm.get
  cases Nat.ble x.n i with
  | true => rfl
  | false =>
    simp only [cond_false]
    cases hh : x.t.get i with
    | none => simp only; cases x.o <;> rfl
    | some v => exact SV.ub_ok v (Nat.le_trans (x.ok i v hh) h)
theorem Tm.den_agree {β β' : Nat → Bk} {n : Nat} (h : ∀ i, i < n → β' i = β i) {x : Tm} (hx : x.bnd n = true) : x.den E β' = x.den E β := by
  unfold Tm.den
  congr 1
  apply List.map_congr_left
  intro i _
  exact SV.den_agree h (x.get i) (Tm.get_bnd hx i)
theorem Tm.get_put (x : Tm) (i j : Nat) (v : SV) : (x.put i v).get j = if j = i ∧ j < x.n then v else x.get j := by
  unfold Tm.get Tm.put
  simp only
  by_cases hj : x.n ≤ j
  · rw [show Nat.ble x.n j = true from Nat.ble_eq_true_of_le hj]
    rw [if_neg (by omega)]; rfl
  · have hb : Nat.ble x.n j = false := by
      cases hh : Nat.ble x.n j with
      | true => exact (hj (Nat.le_of_ble_eq_true hh)).elim
      | false => rfl
    rw [hb, Tr.get_set (i + 1) x.t i j v (by omega)]
    by_cases hij : j = i
    · rw [if_pos hij, if_pos ⟨hij, by omega⟩]; rfl
    · rw [if_neg hij, if_neg (by omega)]
theorem Tm.den_put (x : Tm) (i : Nat) (v : SV) : (x.put i v).den E β = (x.den E β).setIfInBounds i (v.den E β) := by
  apply Array.ext'
  have hn : (x.put i v).n = x.n := rfl
  simp only [Tm.den, hn, Array.toList_setIfInBounds]
  apply List.ext_getElem?
  intro j
  simp only [List.getElem?_map, List.getElem?_set, List.length_map, List.length_range]
  by_cases hj : j < x.n
  · rw [List.getElem?_range hj]
    simp only [Option.map_some, Tm.get_put]
    by_cases hij : i = j
    · subst hij; simp [hj]
    · rw [if_neg (by omega), if_neg hij]
  · rw [List.getElem?_eq_none (by simpa using hj)]
    simp only [Option.map_none]
    split
    · split
      · omega
      · rfl
    · rfl
theorem Tm.den_getD (x : Tm) (t : Nat) : (x.den E β).getD t undef = (x.get t).den E β := by
  simp only [Tm.den, Array.getD_eq_getD_getElem?, List.getElem?_toArray, List.getElem?_map]
  by_cases ht : t < x.n
  · rw [List.getElem?_range ht]; rfl
  · rw [List.getElem?_eq_none (by simpa using ht)]
    have : Nat.ble x.n t = true := Nat.ble_eq_true_of_le (by omega)
    simp [Tm.get, this, SV.den, SV.denL, undef]
theorem Tm.den_get? (x : Tm) (t : Nat) : (x.den E β)[t]? = (x.get? t).map (SV.den E β) := by
  simp only [Tm.den, List.getElem?_toArray, List.getElem?_map, Tm.get?]
  by_cases ht : t < x.n
  · rw [List.getElem?_range ht]
    have : Nat.ble x.n t = false := by
      cases hh : Nat.ble x.n t with
      | true => have := Nat.le_of_ble_eq_true hh; omega
      | false => rfl
    rw [this]; rfl
  · rw [List.getElem?_eq_none (by simpa using ht)]
    have : Nat.ble x.n t = true := Nat.ble_eq_true_of_le (by omega)
    rw [this]; rfl
def Tm.puts (x : Tm) : Nat → List SV → Tm
  | _, [] => x
  | j, v :: r => Tm.puts (x.put j v) (j + 1) r
def Tm.entry (args : List SV) (n : Nat) : Tm := (Tm.empty (args.length + (n - args.length)) false).puts 0 args
theorem Tm.puts_n : ∀ (l : List SV) (x : Tm) (j : Nat), (x.puts j l).n = x.n
  | [], x, j => rfl
  | v :: r, x, j => by simp only [Tm.puts, Tm.puts_n r]; rfl
theorem Tm.puts_get : ∀ (l : List SV) (x : Tm) (j i : Nat), j + l.length ≤ x.n → (x.puts j l).get i = if j ≤ i ∧ i < j + l.length then l.getD (i - j) (.tup []) else x.get i
  | [], x, j, i, _ => by simp only [Tm.puts, List.length_nil]; rw [if_neg (by omega)]
  | v :: r, x, j, i, h => by
    simp only [List.length_cons] at h
    simp only [Tm.puts]
    rw [Tm.puts_get r (x.put j v) (j + 1) i (by show _ ≤ x.n; omega), Tm.get_put]
    simp only [List.length_cons]
    by_cases h1 : j + 1 ≤ i ∧ i < j + 1 + r.length
    · rw [if_pos h1, if_pos (by omega)]
      have : i - j = (i - (j + 1)) + 1 := by omega
      rw [this]; rfl
    · rw [if_neg h1]
      by_cases h2 : i = j
      · subst h2; rw [if_pos ⟨rfl, by omega⟩, if_pos (by omega)]; simp
      · rw [if_neg (by omega), if_neg (by omega)]
theorem Tm.entry_den (args : List SV) (n : Nat) : (Tm.entry args n).den E β = (SV.denL E β args).toArray ++ Array.replicate (n - (SV.denL E β args).toArray.size) undef := by
  have hl : (SV.denL E β args).length = args.length := by rw [SV.denL_map]; simp
  apply Array.ext'
  simp only [Array.toList_append, Array.toList_replicate, List.size_toArray, hl]
  unfold Tm.den Tm.entry
  rw [Tm.puts_n]
  apply List.ext_getElem?
  intro i
  simp only [List.getElem?_map, Tm.empty]
  rw [SV.denL_map]
  by_cases hi : i < args.length + (n - args.length)
  · rw [List.getElem?_range hi]
    simp only [Option.map_some]
    rw [show (Tm.puts { n := args.length + (n - args.length), o := false, t := Tr.nil, ub := 0, ok := _ } 0 args).get i = _ from Tm.puts_get args _ 0 i (by show 0 + args.length ≤ args.length + (n - args.length); omega)]
    by_cases ha : i < args.length
    · rw [if_pos ⟨by omega, by omega⟩, List.getElem?_append_left (by simpa using ha)]
      simp [List.getD_eq_getElem?_getD, ha]
    · rw [if_neg (by omega), List.getElem?_append_right (by simpa using ha)]
      have hb : Nat.ble (args.length + (n - args.length)) i = false := by
        cases hh : Nat.ble (args.length + (n - args.length)) i with
        | true => have := Nat.le_of_ble_eq_true hh; omega
        | false => rfl
      simp only [List.length_map, Tm.get, hb, cond_false, Tr.get]
      rw [List.getElem?_replicate, if_pos (by omega)]
      simp [SV.den, SV.denL, undef]
  · rw [List.getElem?_eq_none (by simpa using hi), List.getElem?_eq_none (by simp; omega)]
    rfl
def ev (gm : Gm) (tmps : Tm) : Operand → Option SV
  | .tmp t => some (tmps.get t)
  | .const v => lift v
  | .global g => (Gm.get g gm).map fun b => .ptr b Off.z
  | .func f => some (.func (.func f) [] [])
def actD (E : Env) (β : Nat → Bk) (tmps : Tm) (ds : List Deferred) : Act := ⟨tmps.den E β, ds⟩
theorem ev_ok {gm : Gm} (hg : gm.ok β) {tmps : Tm} {ds : List Deferred} {x : Operand} {s : SV} (h : ev gm tmps x = some s) :
    (actD E β tmps ds).eval x = s.den E β := by
  cases x with
  | tmp t => simp [ev] at h; subst h; exact Tm.den_getD tmps t
  | const v => simp only [ev] at h; simp only [Act.eval, lift_ok h]
  | global g =>
    simp only [ev, Option.map_eq_some_iff] at h
    obtain ⟨b, hb, rfl⟩ := h
    simp [Act.eval, SV.den, Off.den, Off.z, SE.den, (Gm.get_ok hg hb).1, (Gm.get_ok hg hb).2]
  | func f => simp [ev] at h; subst h; simp [Act.eval, SV.den, SV.denL]
inductive RP where
  | val (v : SV)
  | fork (b : SB)
  | dead
  | no
def onB (F : Fx) (b : SB) (t f : RP) : RP :=
  match dec F b with
  | some true => t
  | some false => f
  | none => .fork b
def binInt (F : Fx) (op : BinOp) (k : IntKind) (a b : SE) : RP :=
  match op with
  | .add => .val (.int k (wrapR F k (.mkAdd a b)))
  | .sub => .val (.int k (wrapR F k (.mkSub a b)))
  | .mul => .val (.int k (wrapR F k (.mkMul a b)))
  | .quo => onB F (.mkEq b (.c 0)) .dead (.val (.int k (wrapR F k (.mkTdiv a b))))
  | .rem => onB F (.mkEq b (.c 0)) .dead (.val (.int k (.mkTmod a b)))
  | .and => .val (.int k (.mkBits .and k a b))
  | .or => .val (.int k (.mkBits .or k a b))
  | .xor => .val (.int k (.mkBits .xor k a b))
  | .andNot => .val (.int k (.mkBits .andNot k a b))
  | .eql => .val (.bool (.mkEq a b))
  | .neq => .val (.bool (.mkNot (.mkEq a b)))
  | .lss => .val (.bool (.mkLt a b))
  | .leq => .val (.bool (.mkLe a b))
  | .gtr => .val (.bool (.mkLt b a))
  | .geq => .val (.bool (.mkLe b a))
  | _ => .no
theorem onB_val {F : Fx} (hF : Facts E F) {b : SB} {t f : RP} {v : SV} (h : onB F b t f = .val v) : (b.den E = true ∧ t = .val v) ∨ (b.den E = false ∧ f = .val v) := by
  unfold onB at h
  split at h
  · rename_i hd; exact .inl ⟨dec_ok hF hd, h⟩
  · rename_i hd; exact .inr ⟨dec_ok hF hd, h⟩
  · cases h
variable {P : Program} {w : World}
theorem binInt_ok {F : Fx} (hF : Facts E F) {op : BinOp} {k : IntKind} {a b : SE} {v : SV} (T : TypeId) (h : binInt F op k a b = .val v) :
    (binOp op T (.int k (a.den E)) (.int k (b.den E))).run P w = .ok (v.den E β) w := by
  have key : ∀ {x : SV}, RP.val x = RP.val v → x = v := fun h => by cases h; rfl
  cases op <;> simp only [binInt] at h
  case quo =>
    rcases onB_val hF h with ⟨_, h⟩ | ⟨h0, h⟩
    · cases h
    · cases h
      rw [SB.den_mkEq] at h0
      have h0' : b.den E ≠ 0 := by simpa [SE.den] using h0
      simp [binOp, Op.intDiv, h0', SV.den, wrapR_ok hF, SE.den_mkTdiv]
  case rem =>
    rcases onB_val hF h with ⟨_, h⟩ | ⟨h0, h⟩
    · cases h
    · cases h
      rw [SB.den_mkEq] at h0
      have h0' : b.den E ≠ 0 := by simpa [SE.den] using h0
      simp [binOp, Op.intDiv, h0', SV.den, SE.den_mkTmod]
  all_goals first
    | cases h; done
    | (cases h; simp [binOp, Op.intArith, Op.intBits, Op.intCmp, SV.den, wrapR_ok hF, SE.den_mkAdd, SE.den_mkSub, SE.den_mkMul, SE.den_mkBits, Go.bits, SB.den_mkEq, SB.den_mkNot, SB.den_mkLt, SB.den_mkLe]; done)
    | (cases h; simp [binOp, Op.intArith, Op.intBits, Op.intCmp, SV.den, wrapR_ok hF, SE.den_mkAdd, SE.den_mkSub, SE.den_mkMul, SE.den_mkBits, Go.bits, SB.den_mkEq, SB.den_mkNot, SB.den_mkLt, SB.den_mkLe]; rfl)
def shiftS (F : Fx) (op : BinOp) (k : IntKind) (a b : SE) : RP :=
  match op with
  | .shl => onB F (.mkLt b (.c 0)) .dead (.val (.int k (.mkShl k a b)))
  | .shr => onB F (.mkLt b (.c 0)) .dead (.val (.int k (.mkShr k a b)))
  | _ => .no
theorem shiftS_ok {F : Fx} (hF : Facts E F) {op : BinOp} {k j : IntKind} {a b : SE} {v : SV} (T : TypeId) (h : shiftS F op k a b = .val v) :
    (binOp op T (.int k (a.den E)) (.int j (b.den E))).run P w = .ok (v.den E β) w := by
  cases op <;> simp only [shiftS] at h <;> first | cases h; done | skip
  all_goals
    rcases onB_val hF h with ⟨_, h⟩ | ⟨h0, h⟩
    · cases h
    · cases h
      rw [SB.den_mkLt] at h0
      have h0' : ¬ b.den E < 0 := of_decide_eq_false h0
      simp [binOp, Op.shift, h0', SV.den, SE.den_mkShl, SE.den_mkShr]
end Go.Sy
