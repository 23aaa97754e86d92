/- Behind a call that was told by patterns: the heap. -/
import Derived.Test.YtjanndmmhjnpcaaDoorSyU
set_option autoImplicit true
set_option relaxedAutoImplicit true
set_option linter.unusedVariables false
set_option linter.unusedSimpArgs false
namespace Go.Sy
open Go
variable {E : Env} {β : Nat → Bk} {P : Program} {w : World}
def SBlk.same : SBlk → SBlk → Bool
  | .cells l T, .cells l' T' => SV.sameL l l' && T == T'
  | .arr a ks n, .arr a' ks' n' => a == a' && ks == ks' && n == n'
  | .any, .any => true
  | .row a ks n l T, .row a' ks' n' l' T' => a == a' && ks == ks' && n == n' && SV.sameL l l' && T == T'
  | .dead, .dead => true
  | .pr k l, .pr k' l' => k == k' && l == l'
  | _, _ => false
theorem SBlk.same_ok {x y : SBlk} (h : SBlk.same x y = true) : x = y := by
  cases x <;> cases y <;> simp only [SBlk.same, Bool.and_eq_true, beq_iff_eq, Bool.false_eq_true] at h
  · obtain ⟨h1, rfl⟩ := h; rw [SV.sameL_ok h1]
  · obtain ⟨⟨rfl, rfl⟩, rfl⟩ := h; rfl
  · rfl
  · obtain ⟨⟨⟨⟨rfl, rfl⟩, rfl⟩, h1⟩, rfl⟩ := h; rw [SV.sameL_ok h1]
  · rfl
  · obtain ⟨rfl, rfl⟩ := h; rfl
def SBlk.inst (S : Sub) : SBlk → SBlk
  | .cells l T => .cells (SV.instL S l) T
  | .arr a ks n => .arr (a.inst S) ks (n.inst S)
  | .any => .any
  | .row a ks n l T => .row (a.inst S) ks (n.inst S) (SV.instL S l) T
  | .dead => .dead
  | .pr k l => .pr k (l.inst S)
def SBlk.okS (S : Sub) : SBlk → Bool
  | .cells l _ => SV.okSL S l
  | .row _ _ _ l _ => SV.okSL S l
  | _ => true
theorem instL_length (S : Sub) : ∀ (l : List SV), (SV.instL S l).length = l.length
  | [] => rfl
  | v :: r => by simp [SV.instL, instL_length S r]
theorem SBlk.inst_ok {S : Sub} {β0 : Nat → Bk} (hB : Bmap S β β0) {s : SBlk} (hs : s.okS S = true) {x y : Bk} (hl : Bk.like x y) (hq : x.q = y.q) (w : World) : SBlk.ok E β y w (s.inst S) ↔ SBlk.ok (E.sub β S) β0 x w s := by
  cases s with
  | cells l T =>
    simp only [SBlk.okS] at hs
    simp only [SBlk.inst, SBlk.ok, hl.o, hl.a, SV.instL_ok hB l hs]
  | arr a ks n => simp only [SBlk.inst, SBlk.ok, hl.o, hl.a, hq, AE.inst_ok (β := β) S a, SE.inst_ok (β := β) S n]
  | any => simp only [SBlk.inst, SBlk.ok]
  | row a ks n l T =>
    simp only [SBlk.okS] at hs
    simp only [SBlk.inst, SBlk.ok, hl.o, hl.like_v, hq, rowCells, AE.inst_ok (β := β) S a, SE.inst_ok (β := β) S n, SV.instL_ok hB l hs, instL_length]
  | dead => simp only [SBlk.inst, SBlk.ok]
  | pr k l => simp only [SBlk.inst, SBlk.ok, hl.o, hl.a, hl.like_v, SL.inst_ok (β := β) S l]; rfl
theorem SBlk.inst_at {S : Sub} {s : SBlk} {x y : Bk} (hl : Bk.like x y) : (∀ p, (s.inst S).at E y p ↔ s.at (E.sub β S) x p) ∧ ((s.inst S).wr y ↔ s.wr x) := by
  cases s <;> simp [SBlk.inst, SBlk.real, SBlk.wr, SBlk.at, hl.z, hl.a, hl.like_v, SL.inst_ok (E := E) (β := β) S]
  intro p; rfl
def inv (S : Sub) (m i : Nat) : Option Nat := (List.range m).find? fun j => decide (fnd j S.k = some (some i))
theorem inv_some {S : Sub} {m i j : Nat} (h : inv S m i = some j) : j < m ∧ fnd j S.k = some (some i) := by
  unfold inv at h
  exact ⟨List.mem_range.1 (List.mem_of_find?_eq_some h), by simpa using List.find?_some h⟩
theorem inv_none {S : Sub} {m i j : Nat} (h : inv S m i = none) (hj : j < m) : fnd j S.k ≠ some (some i) := by
  unfold inv at h
  have := List.find?_eq_none.1 h j (List.mem_range.2 hj)
  simpa using this
def Sub.news (S : Sub) (m n : Nat) : Nat → Sub
  | 0 => S
  | t + 1 => let T := S.news m n t; { T with k := (m + t, some (n + t)) :: T.k }
def postOld (S S' : Sub) (pat post : List SBlk) (i : Nat) (s : SBlk) : SBlk :=
  match inv S pat.length i with
  | some j => match pat[j]?, post[j]? with
    | some p, some q => if SBlk.same p q then s else q.inst S'
    | _, _ => .dead
  | none => s
def newHeap (S S' : Sub) (h pat post : List SBlk) : List SBlk :=
  h.zipIdx.map (fun p => postOld S S' pat post p.2 p.1) ++ (post.drop pat.length).map (·.inst S')
def chkOld (S S' : Sub) (h : List SBlk) (pat post : List SBlk) (j : Nat) : Bool :=
  match pat[j]?, post[j]? with
  | some p, some q => match fnd j S.k with
    | none => isDead q
    | some none => isDead q || SBlk.same p q
    | some (some b) => SBlk.same p q || (!isAny p && q.okS S' && match h[b]? with | some (.row _ _ _ (_ :: _) _) => isDead q | _ => true)
  | _, _ => false
def keysOk (S : Sub) (m n : Nat) : Bool := S.k.all fun p => decide (p.1 < m) && match p.2 with | some c => decide (c < n) | none => true
def chkPost (S S' : Sub) (h pat post : List SBlk) : Bool :=
  decide (pat.length ≤ post.length) && (List.range pat.length).all (chkOld S S' h pat post) && (post.drop pat.length).all (SBlk.okS S') && keysOk S pat.length h.length &&
    S.o.all (fun p => p.2.bnd h.length) && S.t.isNone && pat.all (SBlk.bnd pat.length)
theorem news_io (S : Sub) (m n : Nat) : ∀ t, (S.news m n t).i = S.i ∧ (S.news m n t).b = S.b ∧ (S.news m n t).a = S.a ∧ (S.news m n t).o = S.o ∧ (S.news m n t).t = S.t
  | 0 => ⟨rfl, rfl, rfl, rfl, rfl⟩
  | t + 1 => by simpa [Sub.news] using news_io S m n t
theorem fnd_news (S : Sub) (m n : Nat) : ∀ t j, fnd j (S.news m n t).k = if m ≤ j ∧ j < m + t then some (some (n + (j - m))) else fnd j S.k
  | 0, j => by rw [if_neg (by omega)]; rfl
  | t + 1, j => by
    simp only [Sub.news, fnd]
    by_cases h : m + t = j
    · subst h
      rw [if_pos rfl, if_pos (by omega)]
      have : m + t - m = t := by omega
      rw [this]
    · rw [if_neg h, fnd_news S m n t j]
      by_cases h2 : m ≤ j ∧ j < m + t
      · rw [if_pos h2, if_pos (by omega)]
      · rw [if_neg h2, if_neg (by omega)]
theorem fnd_mem {α : Type} {n : Nat} {v : α} : ∀ {l : List (Nat × α)}, fnd n l = some v → (n, v) ∈ l
  | [], h => by simp [fnd] at h
  | (k, u) :: r, h => by
    simp only [fnd] at h
    split at h
    · rename_i hk; cases h; subst hk; simp
    · simp [fnd_mem h]
theorem keysOk_get {S : Sub} {m n j : Nat} {x : Option Nat} (h : keysOk S m n = true) (hj : fnd j S.k = some x) : j < m ∧ ∀ c, x = some c → c < n := by
  have := List.all_eq_true.1 h (j, x) (fnd_mem hj)
  simp only [Bool.and_eq_true, decide_eq_true_eq] at this
  refine ⟨this.1, fun c hc => ?_⟩
  subst hc
  simpa using this.2
def bcall (β β0 : Nat → Bk) (m n : Nat) (i : Nat) : Bk := if i < n then β i else β0 (m + (i - n))
theorem sub_env {S S' : Sub} {β' : Nat → Bk} {n : Nat} (hi : S'.i = S.i) (hb : S'.b = S.b) (ha : S'.a = S.a) (ho : S'.o = S.o ∧ S'.t = S.t) (ht : S.t = none) (hag : ∀ i, i < n → β' i = β i) (hobnd : S.o.all (fun p => p.2.bnd n) = true) : E.sub β' S' = E.sub β S := by
  unfold Env.sub
  rw [hi, hb, ha, ho.1, ho.2, ht]
  congr 1
  funext j
  cases h : fnd j S.o with
  | none => rfl
  | some v =>
    have := List.all_eq_true.1 hobnd (j, v) (fnd_mem h)
    simp only [SV.den_agree hag v this]
def xb : Nat := 500
def Env.upd (E : Env) (n m : Nat) (V : Env) : Env where
  i j := if n ≤ j ∧ j < n + m then V.i (xb + (j - n)) else E.i j
  b j := if n ≤ j ∧ j < n + m then V.b (xb + (j - n)) else E.b j
  a j := if n ≤ j ∧ j < n + m then V.a (xb + (j - n)) else E.a j
  o := E.o
  fn := E.fn
theorem Env.upd_zero (E : Env) (n : Nat) (V : Env) : E.upd n 0 V = E := by
  have h : ∀ j, ¬ (n ≤ j ∧ j < n + 0) := fun j => by omega
  unfold Env.upd
  simp only [h, if_false]
theorem Env.upd_ag (E : Env) (n m : Nat) (V : Env) : AgE n E (E.upd n m V) :=
  ⟨fun j hj => by simp only [Env.upd, show ¬ (n ≤ j ∧ j < n + m) by omega, if_false], fun j hj => by simp only [Env.upd, show ¬ (n ≤ j ∧ j < n + m) by omega, if_false], fun j hj => by simp only [Env.upd, show ¬ (n ≤ j ∧ j < n + m) by omega, if_false], rfl, rfl⟩
def Sub.fresh (S : Sub) (nv : Nat) : Nat → Sub
  | 0 => S
  | t + 1 => let T := S.fresh nv t; { T with i := (xb + t, .v (nv + t)) :: T.i, b := (xb + t, .v (nv + t)) :: T.b, a := (xb + t, .v (nv + t)) :: T.a }
theorem fresh_ko (S : Sub) (nv : Nat) : ∀ m, (S.fresh nv m).k = S.k ∧ (S.fresh nv m).o = S.o ∧ (S.fresh nv m).t = S.t
  | 0 => ⟨rfl, rfl, rfl⟩
  | t + 1 => by simpa [Sub.fresh] using fresh_ko S nv t
theorem fnd_fresh (S : Sub) (nv : Nat) : ∀ m j, fnd j (S.fresh nv m).i = (if xb ≤ j ∧ j < xb + m then some (.v (nv + (j - xb))) else fnd j S.i) ∧ fnd j (S.fresh nv m).b = (if xb ≤ j ∧ j < xb + m then some (.v (nv + (j - xb))) else fnd j S.b) ∧
    fnd j (S.fresh nv m).a = (if xb ≤ j ∧ j < xb + m then some (.v (nv + (j - xb))) else fnd j S.a)
  | 0, j => by simp only [Sub.fresh, show ¬ (xb ≤ j ∧ j < xb + 0) by omega, if_false, and_self]
  | t + 1, j => by
    obtain ⟨h1, h2, h3⟩ := fnd_fresh S nv t j
    simp only [Sub.fresh, fnd]
    by_cases h : xb + t = j
    · subst h
      simp only [if_true, show xb ≤ xb + t ∧ xb + t < xb + (t + 1) by omega, and_self]
      have : xb + t - xb = t := by omega
      rw [this]
      exact ⟨rfl, rfl, rfl⟩
    · simp only [h, if_false, h1, h2, h3]
      by_cases h4 : xb ≤ j ∧ j < xb + t
      · simp only [h4, show xb ≤ j ∧ j < xb + (t + 1) by omega, and_self, if_true]
      · simp only [h4, show ¬ (xb ≤ j ∧ j < xb + (t + 1)) by omega, if_false, and_self]
def Sub.vb (S : Sub) (n : Nat) : Bool := S.i.all (fun p => p.2.vb n) && (S.b.all (fun p => p.2.vb n) && (S.a.all (fun p => p.2.vb n) && S.o.all (fun p => p.2.vb n)))
theorem sub_fresh {S S' : Sub} {β' : Nat → Bk} {n nv m : Nat} {V : Env} (hk : S'.i = S.i ∧ S'.b = S.b ∧ S'.a = S.a ∧ S'.o = S.o ∧ S'.t = S.t) (ht : S.t = none) (hag : ∀ i, i < n → β' i = β i) (hobnd : S.o.all (fun p => p.2.bnd n) = true) (hv : S.vb nv = true) :
    AgE nv ((E.sub β S).upd xb m V) ((E.upd nv m V).sub β' (S'.fresh nv m)) := by
  have hE := Env.upd_ag E nv m V
  obtain ⟨k1, k2, k3, k4, k5⟩ := hk
  unfold Sub.vb at hv
  simp only [Bool.and_eq_true] at hv
  obtain ⟨v1, v2, v3, v4⟩ := hv
  have hin : ∀ j, xb ≤ j ∧ j < xb + m → nv ≤ nv + (j - xb) ∧ nv + (j - xb) < nv + m := fun j hj => by omega
  have hs : ∀ j, nv + (j - xb) - nv = j - xb := fun j => by omega
  refine ⟨fun j hj => ?_, fun j hj => ?_, fun j hj => ?_, ?_, rfl⟩
  · simp only [Env.sub, (fnd_fresh S' nv m j).1, k1]
    by_cases h : xb ≤ j ∧ j < xb + m
    · simp only [h, and_self, if_true, SE.den, Env.upd, hin j h, hs]
    · simp only [h, if_false, Env.upd]
      cases hf : fnd j S.i with
      | none => exact hE.i j hj
      | some e => exact SE.den_ag hE e (List.all_eq_true.1 v1 _ (fnd_mem hf))
  · simp only [Env.sub, (fnd_fresh S' nv m j).2.1, k2]
    by_cases h : xb ≤ j ∧ j < xb + m
    · simp only [h, and_self, if_true, SB.den, Env.upd, hin j h, hs]
    · simp only [h, if_false, Env.upd]
      cases hf : fnd j S.b with
      | none => exact hE.b j hj
      | some e => exact SB.den_ag hE e (List.all_eq_true.1 v2 _ (fnd_mem hf))
  · simp only [Env.sub, (fnd_fresh S' nv m j).2.2, k3]
    by_cases h : xb ≤ j ∧ j < xb + m
    · simp only [h, and_self, if_true, Env.upd]
      funext q
      simp only [AE.den, Env.upd, hin j h, hs, and_self, if_true]
    · simp only [h, if_false, Env.upd]
      cases hf : fnd j S.a with
      | none => exact hE.a j hj
      | some e => exact AE.den_ag hE e (List.all_eq_true.1 v3 _ (fnd_mem hf))
  · funext j
    simp only [Env.sub, Env.upd, (fresh_ko S' nv m).2.1, (fresh_ko S' nv m).2.2, k4, k5, ht]
    cases hf : fnd j S.o with
    | none => rfl
    | some v =>
      show SV.den (E.upd nv m V) β' v = SV.den E β v
      rw [SV.den_ag hE β' v (List.all_eq_true.1 v4 _ (fnd_mem hf)), SV.den_agree hag v (List.all_eq_true.1 hobnd (j, v) (fnd_mem hf))]
theorem any_notPr {S : Sub} {F : List (SB × Bool)} {h : List SBlk} {b : Nat} {s : SBlk} (hs : h[b]? = some s) (hc : chkBlk S F .any h (some b) = true) : s.isPr = false := by
  unfold chkBlk at hc
  simp only [hs] at hc
  cases s <;> first | rfl | cases hc
theorem isDead_eq {q : SBlk} (h : isDead q = true) : q = .dead := by cases q <;> first | rfl | cases h
theorem call_heap {F : List (SB × Bool)} (hF : ∀ p ∈ F, p.1.den E = p.2) {S Sf : Sub} {E' E2 : Env} {h pat post : List SBlk} (hw : HOk E β h w) (hbnd : h.all (SBlk.bnd h.length) = true) (hc : chkHeap S F pat h = true)
    (hp : chkPost S Sf h pat post = true) (hSf : Sf.k = (S.news pat.length h.length (post.length - pat.length)).k) {β0 : Nat → Bk} {w' : World} (h0 : HOk E2 β0 post w') (hx : Ext (E.sub β S) pat (bsub E β h S) w E2 post β0 w')
    (hst : ∀ (i : Nat) (s : SBlk), h[i]? = some s → (∀ γ bk w, SBlk.ok E' γ bk w s ↔ SBlk.ok E γ bk w s) ∧ ∀ bk x, s.at E' bk x ↔ s.at E bk x)
    (hpa : ∀ (i : Nat) (q : SBlk), pat[i]? = some q → (∀ γ bk w, SBlk.ok E2 γ bk w q ↔ SBlk.ok (E.sub β S) γ bk w q) ∧ ∀ bk x, q.at E2 bk x ↔ q.at (E.sub β S) bk x)
    (hpo : ∀ (i : Nat) (q : SBlk), post[i]? = some q → (∀ γ bk w, SBlk.ok (E'.sub (bcall β β0 pat.length h.length) Sf) γ bk w q ↔ SBlk.ok E2 γ bk w q) ∧ ∀ bk x, q.at (E'.sub (bcall β β0 pat.length h.length) Sf) bk x ↔ q.at E2 bk x) :
    let β' := bcall β β0 pat.length h.length
    HOk E' β' (newHeap S Sf h pat post) w' ∧ Ext E h β w E' (newHeap S Sf h pat post) β' w' ∧ Bmap Sf β' β0 ∧ (∀ i, i < h.length → β' i = β i) := by
  intro β'
  have hinj : injB S pat.length = true := by unfold chkHeap at hc; rw [Bool.and_eq_true] at hc; exact hc.2
  unfold chkPost at hp
  simp only [Bool.and_eq_true, decide_eq_true_eq] at hp
  obtain ⟨⟨⟨⟨⟨⟨hlen, hold⟩, hnew⟩, hkeys⟩, hobnd⟩, hSt⟩, hpb⟩ := hp
  have hag : ∀ i, i < h.length → β' i = β i := fun i hi => by simp only [β', bcall, hi, if_true]
  have hagN : ∀ t, β' (h.length + t) = β0 (pat.length + t) := fun t => by
    have : ¬ (h.length + t < h.length) := by omega
    have e : h.length + t - h.length = t := by omega
    simp only [β', bcall, this, if_false, e]
  have hf : ∀ j, j < pat.length → fnd j Sf.k = fnd j S.k := fun j hj => by
    rw [hSf, fnd_news, if_neg (by omega)]
  have hBm : Bmap Sf β' β0 := by
    intro j x hj
    by_cases hjm : j < pat.length
    · rw [hf j hjm] at hj
      have e0 : β0 j = bsub E β h S j := hx.agree j hjm
      cases x with
      | none => simp only; rw [e0, bsub_nil hj]; rfl
      | some c =>
        have hcn := (keysOk_get hkeys hj).2 c rfl
        simp only
        rw [e0, hag c hcn]
        exact bsub_like hj
    · rw [hSf, fnd_news] at hj
      split at hj
      · rename_i hr
        cases hj
        simp only
        rw [hagN (j - pat.length)]
        have : pat.length + (j - pat.length) = j := by omega
        rw [this]
        exact ⟨rfl, rfl, rfl, rfl, rfl⟩
      · have := (keysOk_get hkeys hj).1; omega
  have hget1 : ∀ i s', i < h.length → (newHeap S Sf h pat post)[i]? = some s' → ∃ s, h[i]? = some s ∧ s' = postOld S Sf pat post i s := fun i s' hi hs => by
    unfold newHeap at hs
    rw [List.getElem?_append_left (by simpa using hi), List.getElem?_map, List.getElem?_zipIdx] at hs
    cases hh : h[i]? with
    | none => rw [hh] at hs; cases hs
    | some s => rw [hh] at hs; simp at hs; exact ⟨s, rfl, hs.symm⟩
  have hget2 : ∀ t s', (newHeap S Sf h pat post)[h.length + t]? = some s' → ∃ q, post[pat.length + t]? = some q ∧ s' = q.inst Sf ∧ q.okS Sf = true := fun t s' hs => by
    unfold newHeap at hs
    rw [List.getElem?_append_right (by simp), List.getElem?_map] at hs
    simp only [List.length_map, List.length_zipIdx, Nat.add_sub_cancel_left, List.getElem?_drop] at hs
    cases hh : post[pat.length + t]? with
    | none => rw [hh] at hs; cases hs
    | some q =>
      rw [hh] at hs; simp at hs
      refine ⟨q, rfl, hs.symm, List.all_eq_true.1 hnew q ?_⟩
      exact List.mem_of_getElem? (i := t) (by rw [List.getElem?_drop]; exact hh)
  -- what is written is no block of another name
  have apart : ∀ i s, h[i]? = some s → (∀ j p, pat[j]? = some p → p.wr (bsub E β h S j) → fnd j S.k ≠ some (some i)) → ∀ x, s.at E (β i) x → w'.heap[x]? = w.heap[x]? := by
    intro i s hs hn x hat
    refine hx.same x (hw.lt i s x hs hat) fun j p hp hwr hpat => ?_
    obtain ⟨b, t, f1, f2, _, f3, _⟩ := chk_at hF hc hp hpat
    have := hw.dis i b s t x hs f2 hat f3
    subst this
    exact hn j p hp hwr f1
  have cls : ∀ i s', (newHeap S Sf h pat post)[i]? = some s' →
      (∃ s, h[i]? = some s ∧ s' = s ∧ β' i = β i ∧ (∀ j, j < pat.length → fnd j S.k ≠ some (some i)) ∧ SBlk.ok E' β' (β' i) w' s') ∨
      (∃ j q, post[j]? = some q ∧ (∀ x, s'.at E' (β' i) x → q.at E2 (β0 j) x) ∧ SBlk.ok E' β' (β' i) w' s' ∧
        ((j < pat.length ∧ fnd j S.k = some (some i) ∧ i < h.length ∧ (s'.wr (β i) → ∃ s, h[i]? = some s ∧ s.wr (β i))) ∨ (pat.length ≤ j ∧ i = h.length + (j - pat.length)))) := by
    intro i s' hs'
    rcases Nat.lt_or_ge i h.length with hi | hi
    · obtain ⟨s, hs, he⟩ := hget1 i s' hi hs'
      have hsb : s.bnd h.length = true := List.all_eq_true.1 hbnd s (List.mem_of_getElem? hs)
      rw [hag i hi]
      have keep : (∀ j p, pat[j]? = some p → p.wr (bsub E β h S j) → fnd j S.k ≠ some (some i)) → SBlk.ok E' β' (β i) w' s := fun hn => by
        rw [(hst i s hs).1, SBlk.ok_agree hag s hsb]
        exact SBlk.ok_frame (apart i s hs hn) (hw.ok i s hs)
      unfold postOld at he
      split at he
      · rename_i j hj
        obtain ⟨hjm, hjk⟩ := inv_some hj
        have hco := List.all_eq_true.1 hold j (List.mem_range.2 hjm)
        unfold chkOld at hco
        split at hco
        · rename_i p q hpj hqj
          rw [hpj, hqj] at he
          simp only at he
          have hone := chk_one hc hpj
          unfold chkOne at hone
          simp only [hjk] at hone hco
          have hjs : ∀ j', j' < pat.length → fnd j' S.k = some (some i) → j' = j := fun j' h1 h2 => injB_ok hinj h1 hjm h2 hjk
          have e0 : β0 j = bsub E β h S j := hx.agree j hjm
          have hlike := bsub_like (E := E) (β := β) (h := h) hjk
          have hiff := blk_iff (E := E) (β := β) hF hjk hs hone
          right
          refine ⟨j, q, hqj, ?_⟩
          split at he
          · rename_i hsame
            have hpq := SBlk.same_ok hsame
            subst hpq
            subst he
            by_cases hany : p = .any
            · subst hany
              refine ⟨fun x hx' => ?_, keep fun j' p' hp' hwr h2 => ?_, .inl ⟨hjm, hjk, hi, fun hr => ⟨s', hs, hr⟩⟩⟩
              · rw [(hst i s' hs).2] at hx'
                have hnp : s'.isPr = false := any_notPr hs hone
                exact ⟨trivial, by rw [e0, hlike.a]; exact SBlk.at_eq hx' hnp⟩
              · have hjj := hjs j' (lt_len hp') h2
                subst hjj
                rw [hpj] at hp'; cases hp'; exact hwr.elim
            · refine ⟨fun x hx' => ?_, ?_, .inl ⟨hjm, hjk, hi, fun hr => ⟨s', hs, hr⟩⟩⟩
              · rw [(hst i s' hs).2] at hx'
                rw [(hpa j p hpj).2, e0]
                exact hiff.2.2.2.1 hany x hx'
              · have h1 := h0.ok j p hqj
                have hpbj : p.bnd pat.length = true := List.all_eq_true.1 hpb p (List.mem_of_getElem? hpj)
                rw [(hpa j p hpj).1, SBlk.ok_agree (fun k hk => hx.agree k hk) p hpbj, e0] at h1
                rw [(hst i s' hs).1]
                exact (SBlk.ok_agree hag s' hsb (β i) w').2 (hiff.2.1 hany w' h1)
          · rename_i hsame
            rw [Bool.or_eq_true] at hco
            rcases hco with hco | hco
            · exact (hsame hco).elim
            · simp only [Bool.and_eq_true, Bool.not_eq_true'] at hco
              obtain ⟨⟨hna, hqs⟩, htail⟩ := hco
              have hany : p ≠ .any := by intro hh; subst hh; cases hna
              by_cases hqd : isDead q = true
              · have := isDead_eq hqd
                subst this
                subst he
                exact ⟨fun x hx' => hx'.1.elim, trivial, .inl ⟨hjm, hjk, hi, fun hr => hr.elim⟩⟩
              · have hQ : (β0 j).q = (β i).q := by
                  rw [e0]
                  unfold bsub siteQ
                  rw [hjk]
                  simp only [hs]
                  rw [hs] at htail
                  cases s with
                  | row a ks n tail T =>
                    cases tail with
                    | nil => rfl
                    | cons v r => simp only at htail; exact (hqd htail).elim
                  | _ => rfl
                have hl0 : Bk.like (β0 j) (β i) := by rw [e0]; exact hlike
                have hin := SBlk.inst_at (E := E') (β := β') (S := Sf) (s := q) hl0
                subst he
                refine ⟨fun x hx' => ?_, ?_, .inl ⟨hjm, hjk, hi, fun hr => ?_⟩⟩
                · exact ((hpo j q hqj).2 _ _).1 ((hin.1 x).1 hx')
                · rw [SBlk.inst_ok hBm hqs hl0 hQ w', (hpo j q hqj).1]
                  exact h0.ok j q hqj
                · have hqr := hin.2.1 hr
                  obtain ⟨t, ht1, ht2⟩ := hx.kind j q hjm hqj (by rw [← e0]; exact hqr)
                  rw [hpj] at ht1; cases ht1
                  exact ⟨s, hs, hiff.2.2.2.2 ht2⟩
        · cases hco
      · rename_i hj
        subst he
        left
        exact ⟨s', hs, rfl, rfl, fun j h1 h2 => inv_none hj h1 h2, keep fun j' p' hp' _ h2 => inv_none hj (lt_len hp') h2⟩
    · obtain ⟨t, rfl⟩ : ∃ t, i = h.length + t := ⟨i - h.length, by omega⟩
      obtain ⟨q, h1, h2, h3⟩ := hget2 t s' hs'
      right
      have hin := SBlk.inst_at (E := E') (β := β') (S := Sf) (s := q) (x := β0 (pat.length + t)) (y := β0 (pat.length + t)) ⟨rfl, rfl, rfl, rfl, rfl⟩
      refine ⟨pat.length + t, q, h1, fun x hx' => ?_, ?_, .inr ⟨by omega, by omega⟩⟩
      · rw [hagN t, h2] at hx'
        exact ((hpo _ q h1).2 _ _).1 ((hin.1 x).1 hx')
      · rw [hagN t, h2, SBlk.inst_ok hBm h3 (x := β0 (pat.length + t)) ⟨rfl, rfl, rfl, rfl, rfl⟩ rfl w', (hpo _ q h1).1]
        exact h0.ok _ q h1
  have cross : ∀ (i : Nat) (s : SBlk) (j : Nat) (q : SBlk) (x : Nat), h[i]? = some s → s.at E (β i) x → (∀ j, j < pat.length → fnd j S.k ≠ some (some i)) → post[j]? = some q → q.at E2 (β0 j) x → False := by
    intro i s j q x hs hat hun hq hqa
    rcases hx.fresh j q x hq hqa with hf | ⟨k, p, hp1, hp2, _⟩
    · have := hw.lt i s x hs hat; omega
    · obtain ⟨b, u, f1, f2, _, f3, _⟩ := chk_at hF hc hp1 hp2
      have := hw.dis i b s u x hs f2 hat f3
      subst this
      exact hun k (lt_len hp1) f1
  refine ⟨⟨fun i j s t x hi hj hri hrj => ?_, fun i s x hi hr => ?_, fun i s hi => ?_⟩, ⟨?_, hag, fun i s hi hs hr => ?_, fun i s x hs hr => ?_, hx.size, fun c hc' hn => ?_, hx.os, hx.tape, hx.output⟩, hBm, hag⟩
  · rcases cls i s hi with ⟨s0, i2, rfl, i4, i5, _⟩ | ⟨j1, q1, i2, i3, _, i4⟩ <;> rcases cls j t hj with ⟨t0, j2, rfl, j4, j5, _⟩ | ⟨j3, q2, j4, j5, _, j6⟩
    · rw [i4, (hst i s i2).2] at hri; rw [j4, (hst j t j2).2] at hrj
      exact hw.dis i j s t x i2 j2 hri hrj
    · rw [i4, (hst i s i2).2] at hri
      exact (cross i s j3 q2 x i2 hri i5 j4 (j5 x hrj)).elim
    · rw [j4, (hst j t j2).2] at hrj
      exact (cross j t j1 q1 x j2 hrj j5 i2 (i3 x hri)).elim
    · have hjj := h0.dis j1 j3 q1 q2 x i2 j4 (i3 x hri) (j5 x hrj)
      subst hjj
      rcases i4 with ⟨a1, a2, _⟩ | ⟨a1, a2⟩ <;> rcases j6 with ⟨b1, b2, _⟩ | ⟨b1, b2⟩
      · rw [a2] at b2; cases b2; rfl
      · omega
      · omega
      · omega
  · rcases cls i s hi with ⟨s0, i2, rfl, i4, i5, _⟩ | ⟨j1, q1, i2, i3, _, i4⟩
    · rw [i4, (hst i s i2).2] at hr
      exact Nat.lt_of_lt_of_le (hw.lt i s x i2 hr) hx.size
    · exact h0.lt j1 q1 x i2 (i3 x hr)
  · rcases cls i s hi with ⟨s0, i2, rfl, i4, i5, i6⟩ | ⟨j1, q1, i2, i3, i6, i4⟩
    · exact i6
    · exact i6
  · unfold newHeap; simp
  · rcases cls i s hs with ⟨s0, i2, rfl, i4, i5, _⟩ | ⟨j1, q1, i2, i3, _, i4⟩
    · exact ⟨s, i2, hr⟩
    · rcases i4 with ⟨_, _, _, a3⟩ | ⟨a1, a2⟩
      · exact a3 hr
      · omega
  · rcases cls i s hs with ⟨s0, i2, rfl, i4, i5, _⟩ | ⟨j1, q1, i2, i3, _, i4⟩
    · rw [i4, (hst i s i2).2] at hr
      exact .inr ⟨i, s, i2, hr, .inr rfl⟩
    · rcases hx.fresh j1 q1 x i2 (i3 x hr) with hf' | ⟨k, p, hp1, hp2, hp3⟩
      · exact .inl hf'
      · obtain ⟨b, u, f1, f2, _, f3, f4⟩ := chk_at hF hc hp1 hp2
        refine .inr ⟨b, u, f2, f3, ?_⟩
        rcases hp3 with hp3 | rfl
        · exact .inl (f4 hp3)
        · rcases i4 with ⟨_, a2, _⟩ | ⟨a1, _⟩
          · rw [f1] at a2; cases a2; exact .inr rfl
          · have := lt_len hp1; omega
  · refine hx.same c hc' fun j p hp hwr hat => ?_
    obtain ⟨b, u, f1, f2, _, f3, f4⟩ := chk_at hF hc hp hat
    exact hn b u f2 (f4 hwr) f3
end Go.Sy
