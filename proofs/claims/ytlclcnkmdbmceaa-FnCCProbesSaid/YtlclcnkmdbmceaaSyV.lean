/- Behind a call that was told by patterns: the heap. -/
import Derived.Test.YtlclcnkmdbmceaaSyU
set_option linter.unusedVariables false
set_option linter.unusedSimpArgs false
namespace Go.Sy
open Go
variable {E : Env} {β : Nat → Bk} {P : Program} {w : World}

def SBlk.same : SBlk → SBlk → Bool
  | .cells l T, .cells l' T' => SV.sameL l l' && T == T'
  | .arr a ks n, .arr a' ks' n' => a == a' && ks == ks' && n == n'
  | .any, .any => true
  | .row a ks n l T, .row a' ks' n' l' T' => a == a' && ks == ks' && n == n' && SV.sameL l l' && T == T'
  | .dead, .dead => true
  | _, _ => false
theorem SBlk.same_ok {x y : SBlk} (h : SBlk.same x y = true) : x = y := by
  cases x <;> cases y <;> simp only [SBlk.same, Bool.and_eq_true, beq_iff_eq, Bool.false_eq_true] at h
  · obtain ⟨h1, rfl⟩ := h; rw [SV.sameL_ok h1]
  · obtain ⟨⟨rfl, rfl⟩, rfl⟩ := h; rfl
  · rfl
  · obtain ⟨⟨⟨⟨rfl, rfl⟩, rfl⟩, h1⟩, rfl⟩ := h; rw [SV.sameL_ok h1]
  · rfl
def SBlk.inst (S : Sub) : SBlk → SBlk
  | .cells l T => .cells (SV.instL S l) T
  | .arr a ks n => .arr (a.inst S) ks (n.inst S)
  | .any => .any
  | .row a ks n l T => .row (a.inst S) ks (n.inst S) (SV.instL S l) T
  | .dead => .dead
def SBlk.okS (S : Sub) : SBlk → Bool
  | .cells l _ => SV.okSL S l
  | .row _ _ _ l _ => SV.okSL S l
  | _ => true
theorem instL_length (S : Sub) : ∀ (l : List SV), (SV.instL S l).length = l.length
  | [] => rfl
  | v :: r => by simp [SV.instL, instL_length S r]
theorem SBlk.inst_ok {S : Sub} {β0 : Nat → Bk} (hB : Bmap S β β0) {s : SBlk} (hs : s.okS S = true) {x y : Bk} (hl : Bk.like x y) (hq : x.q = y.q) (w : World) : SBlk.ok E β y w (s.inst S) ↔ SBlk.ok (E.sub β S) β0 x w s := by
  cases s with
  | cells l T =>
    simp only [SBlk.okS] at hs
    simp only [SBlk.inst, SBlk.ok, hl.o, hl.a, SV.instL_ok hB l hs]
  | arr a ks n => simp only [SBlk.inst, SBlk.ok, hl.o, hl.a, hq, AE.inst_ok (β := β) S a, SE.inst_ok (β := β) S n]
  | any => simp only [SBlk.inst, SBlk.ok]
  | row a ks n l T =>
    simp only [SBlk.okS] at hs
    simp only [SBlk.inst, SBlk.ok, hl.o, hl.like_v, hq, rowCells, AE.inst_ok (β := β) S a, SE.inst_ok (β := β) S n, SV.instL_ok hB l hs, instL_length]
  | dead => simp only [SBlk.inst, SBlk.ok]
theorem SBlk.inst_real {S : Sub} {s : SBlk} {x y : Bk} (hl : Bk.like x y) : ((s.inst S).real y ↔ s.real x) ∧ ((s.inst S).wr y ↔ s.wr x) := by
  cases s <;> simp [SBlk.inst, SBlk.real, SBlk.wr, hl.z]

/-- Which block of the pattern is put by a block. -/
def inv (S : Sub) (m i : Nat) : Option Nat := (List.range m).find? fun j => decide (fnd j S.k = some (some i))
theorem inv_some {S : Sub} {m i j : Nat} (h : inv S m i = some j) : j < m ∧ fnd j S.k = some (some i) := by
  unfold inv at h
  exact ⟨List.mem_range.1 (List.mem_of_find?_eq_some h), by simpa using List.find?_some h⟩
theorem inv_none {S : Sub} {m i j : Nat} (h : inv S m i = none) (hj : j < m) : fnd j S.k ≠ some (some i) := by
  unfold inv at h
  have := List.find?_eq_none.1 h j (List.mem_range.2 hj)
  simpa using this
/-- The names of new blocks. -/
def Sub.news (S : Sub) (m n : Nat) : Nat → Sub
  | 0 => S
  | t + 1 => let T := S.news m n t; { T with k := (m + t, some (n + t)) :: T.k }
def postOld (S S' : Sub) (pat post : List SBlk) (i : Nat) (s : SBlk) : SBlk :=
  match inv S pat.length i with
  | some j => match pat[j]?, post[j]? with
    | some p, some q => if SBlk.same p q then s else q.inst S'
    | _, _ => .dead
  | none => s
def newHeap (S S' : Sub) (h pat post : List SBlk) : List SBlk :=
  h.zipIdx.map (fun p => postOld S S' pat post p.2 p.1) ++ (post.drop pat.length).map (·.inst S')
/-- What a block of the pattern asks behind the call. -/
def chkOld (S S' : Sub) (h : List SBlk) (pat post : List SBlk) (j : Nat) : Bool :=
  match pat[j]?, post[j]? with
  | some p, some q => match fnd j S.k with
    | none => isDead q
    | some none => isDead q || SBlk.same p q
    | some (some b) => SBlk.same p q || (!isAny p && q.okS S' && match h[b]? with | some (.row _ _ _ (_ :: _) _) => isDead q | _ => true)
  | _, _ => false
def keysOk (S : Sub) (m n : Nat) : Bool := S.k.all fun p => decide (p.1 < m) && match p.2 with | some c => decide (c < n) | none => true
def chkPost (S S' : Sub) (h pat post : List SBlk) : Bool :=
  decide (pat.length ≤ post.length) && (List.range pat.length).all (chkOld S S' h pat post) && (post.drop pat.length).all (SBlk.okS S') && keysOk S pat.length h.length &&
    S.o.all (fun p => p.2.bnd h.length) && S.t.isNone && pat.all (SBlk.bnd pat.length)
theorem news_io (S : Sub) (m n : Nat) : ∀ t, (S.news m n t).i = S.i ∧ (S.news m n t).b = S.b ∧ (S.news m n t).a = S.a ∧ (S.news m n t).o = S.o ∧ (S.news m n t).t = S.t
  | 0 => ⟨rfl, rfl, rfl, rfl, rfl⟩
  | t + 1 => by simpa [Sub.news] using news_io S m n t
theorem fnd_news (S : Sub) (m n : Nat) : ∀ t j, fnd j (S.news m n t).k = if m ≤ j ∧ j < m + t then some (some (n + (j - m))) else fnd j S.k
  | 0, j => by rw [if_neg (by omega)]; rfl
  | t + 1, j => by
    simp only [Sub.news, fnd]
    by_cases h : m + t = j
    · subst h
      rw [if_pos rfl, if_pos (by omega)]
      have : m + t - m = t := by omega
      rw [this]
    · rw [if_neg h, fnd_news S m n t j]
      by_cases h2 : m ≤ j ∧ j < m + t
      · rw [if_pos h2, if_pos (by omega)]
      · rw [if_neg h2, if_neg (by omega)]
theorem fnd_mem {α : Type} {n : Nat} {v : α} : ∀ {l : List (Nat × α)}, fnd n l = some v → (n, v) ∈ l
  | [], h => by simp [fnd] at h
  | (k, u) :: r, h => by
    simp only [fnd] at h
    split at h
    · rename_i hk; cases h; subst hk; simp
    · simp [fnd_mem h]
theorem keysOk_get {S : Sub} {m n j : Nat} {x : Option Nat} (h : keysOk S m n = true) (hj : fnd j S.k = some x) : j < m ∧ ∀ c, x = some c → c < n := by
  have := List.all_eq_true.1 h (j, x) (fnd_mem hj)
  simp only [Bool.and_eq_true, decide_eq_true_eq] at this
  refine ⟨this.1, fun c hc => ?_⟩
  subst hc
  simpa using this.2
/-- The names behind the call. -/
def bcall (β β0 : Nat → Bk) (m n : Nat) (i : Nat) : Bk := if i < n then β i else β0 (m + (i - n))
theorem sub_env {S S' : Sub} {β' : Nat → Bk} {n : Nat} (hi : S'.i = S.i) (hb : S'.b = S.b) (ha : S'.a = S.a) (ho : S'.o = S.o ∧ S'.t = S.t) (ht : S.t = none) (hag : ∀ i, i < n → β' i = β i) (hobnd : S.o.all (fun p => p.2.bnd n) = true) : E.sub β' S' = E.sub β S := by
  unfold Env.sub
  rw [hi, hb, ha, ho.1, ho.2, ht]
  congr 1
  funext j
  cases h : fnd j S.o with
  | none => rfl
  | some v =>
    have := List.all_eq_true.1 hobnd (j, v) (fnd_mem h)
    simp only [SV.den_agree hag v this]
theorem call_heap {F : List (SB × Bool)} (hF : ∀ p ∈ F, p.1.den E = p.2) {S : Sub} {h pat post : List SBlk} (hw : HOk E β h w) (hbnd : h.all (SBlk.bnd h.length) = true) (hc : chkHeap S F pat h = true)
    (hp : chkPost S (S.news pat.length h.length (post.length - pat.length)) h pat post = true) {β0 : Nat → Bk} {w' : World} (h0 : HOk (E.sub β S) β0 post w') (hx : Ext pat (bsub E β h S) w post β0 w') :
    let S' := S.news pat.length h.length (post.length - pat.length)
    let β' := bcall β β0 pat.length h.length
    HOk E β' (newHeap S S' h pat post) w' ∧ Ext h β w (newHeap S S' h pat post) β' w' ∧ Bmap S' β' β0 ∧ E.sub β' S' = E.sub β S ∧ (∀ i, i < h.length → β' i = β i) := by
  intro S' β'
  have hinj : injB S pat.length = true := by unfold chkHeap at hc; rw [Bool.and_eq_true] at hc; exact hc.2
  unfold chkPost at hp
  simp only [Bool.and_eq_true, decide_eq_true_eq] at hp
  obtain ⟨⟨⟨⟨⟨⟨hlen, hold⟩, hnew⟩, hkeys⟩, hobnd⟩, hSt⟩, hpb⟩ := hp
  have hSt : S.t = none := by simpa using hSt
  have hag : ∀ i, i < h.length → β' i = β i := fun i hi => by simp only [β', bcall, hi, if_true]
  have hagN : ∀ t, β' (h.length + t) = β0 (pat.length + t) := fun t => by
    have : ¬ (h.length + t < h.length) := by omega
    have e : h.length + t - h.length = t := by omega
    simp only [β', bcall, this, if_false, e]
  have hf : ∀ j, j < pat.length → fnd j S'.k = fnd j S.k := fun j hj => by
    show fnd j (S.news _ _ _).k = _
    rw [fnd_news, if_neg (by omega)]
  have hBm : Bmap S' β' β0 := by
    intro j x hj
    by_cases hjm : j < pat.length
    · rw [hf j hjm] at hj
      have e0 : β0 j = bsub E β h S j := hx.agree j hjm
      cases x with
      | none => simp only; rw [e0, bsub_nil (.inl hj)]; rfl
      | some c =>
        have hcn := (keysOk_get hkeys hj).2 c rfl
        simp only
        rw [e0, hag c hcn]
        exact bsub_like hj
    · have hj' : fnd j (S.news pat.length h.length (post.length - pat.length)).k = some x := hj
      rw [fnd_news] at hj'
      split at hj'
      · rename_i hr
        cases hj'
        simp only
        rw [hagN (j - pat.length)]
        have : pat.length + (j - pat.length) = j := by omega
        rw [this]
        exact ⟨rfl, rfl, rfl, rfl, rfl⟩
      · have := (keysOk_get hkeys hj').1; omega
  have hE : E.sub β' S' = E.sub β S := by
    obtain ⟨a1, a2, a3, a4⟩ := news_io S pat.length h.length (post.length - pat.length)
    exact sub_env a1 a2 a3 a4 hSt hag hobnd
  have hget1 : ∀ i s', i < h.length → (newHeap S S' h pat post)[i]? = some s' → ∃ s, h[i]? = some s ∧ s' = postOld S S' pat post i s := fun i s' hi hs => by
    unfold newHeap at hs
    rw [List.getElem?_append_left (by simpa using hi), List.getElem?_map, List.getElem?_zipIdx] at hs
    cases hh : h[i]? with
    | none => rw [hh] at hs; cases hs
    | some s => rw [hh] at hs; simp at hs; exact ⟨s, rfl, hs.symm⟩
  have hget2 : ∀ t s', (newHeap S S' h pat post)[h.length + t]? = some s' → ∃ q, post[pat.length + t]? = some q ∧ s' = q.inst S' ∧ q.okS S' = true := fun t s' hs => by
    unfold newHeap at hs
    rw [List.getElem?_append_right (by simp), List.getElem?_map] at hs
    simp only [List.length_map, List.length_zipIdx, Nat.add_sub_cancel_left, List.getElem?_drop] at hs
    cases hh : post[pat.length + t]? with
    | none => rw [hh] at hs; cases hs
    | some q =>
      rw [hh] at hs; simp at hs
      refine ⟨q, rfl, hs.symm, List.all_eq_true.1 hnew q ?_⟩
      exact List.mem_of_getElem? (i := t) (by rw [List.getElem?_drop]; exact hh)
  -- what is written is no block of another name
  have apart : ∀ i s, h[i]? = some s → s.real (β i) → (∀ j p, pat[j]? = some p → p.wr (bsub E β h S j) → fnd j S.k ≠ some (some i)) → w'.heap[(β i).a]? = w.heap[(β i).a]? := by
    intro i s hs hr hn
    refine hx.same _ (hw.lt i s hs hr) fun j p hp hwr he => ?_
    obtain ⟨b, t, f1, f2, _, f3, _⟩ := chk_real hF hc hp (SBlk.wr_real hwr)
    rw [(bsub_like (E := E) (β := β) (h := h) f1).a] at he
    have := hw.inj i b s t hs f2 hr f3 he
    subst this
    exact hn j p hp hwr f1
  have old : ∀ i s s', i < h.length → h[i]? = some s → s' = postOld S S' pat post i s →
      (s'.real (β i) → s.real (β i) ∧ ∀ j, j < pat.length → fnd j S.k = some (some i) → ∃ q, post[j]? = some q ∧ q.real (β0 j)) ∧ (s'.wr (β i) → s.wr (β i)) ∧ SBlk.ok E β' (β i) w' s' := by
    intro i s s' hi hs he
    have hsb : s.bnd h.length = true := List.all_eq_true.1 hbnd s (List.mem_of_getElem? hs)
    unfold postOld at he
    split at he
    · rename_i j hj
      obtain ⟨hjm, hjk⟩ := inv_some hj
      have hco := List.all_eq_true.1 hold j (List.mem_range.2 hjm)
      unfold chkOld at hco
      split at hco
      · rename_i p q hpj hqj
        rw [hpj, hqj] at he
        simp only at he
        have hone := chk_one hc hpj
        unfold chkOne at hone
        simp only [hjk] at hone hco
        have hjs : ∀ j', j' < pat.length → fnd j' S.k = some (some i) → j' = j := fun j' h1 h2 => injB_ok hinj h1 hjm h2 hjk
        have e0 : β0 j = bsub E β h S j := hx.agree j hjm
        have hlike := bsub_like (E := E) (β := β) (h := h) hjk
        have hd : p.real nilBk ∨ p.real { a := 0, z := false } := by
          unfold chkBlk at hone
          cases p <;> simp_all [SBlk.real]
        have hiff := blk_iff (E := E) (β := β) hF hjk hs hone hd
        split at he
        · rename_i hsame
          have hpq := SBlk.same_ok hsame
          subst hpq
          subst he
          by_cases hany : p = .any
          · subst hany
            refine ⟨fun hr => ⟨hr, fun j' h1 h2 => ?_⟩, id, ?_⟩
            · rw [hjs j' h1 h2]; exact ⟨_, hqj, trivial⟩
            · refine (SBlk.ok_agree hag s' hsb (β i) w').2 (SBlk.ok_frame (fun hr => apart i s' hs hr fun j' p' hp' hwr h2 => ?_) (hw.ok i s' hs))
              have hjj := hjs j' (List.getElem?_eq_some_iff.1 hp').1 h2
              subst hjj
              rw [hpj] at hp'; cases hp'; exact hwr.elim
          · refine ⟨fun hr => ⟨hr, fun j' h1 h2 => ?_⟩, id, ?_⟩
            · rw [hjs j' h1 h2]; exact ⟨p, hqj, by rw [e0]; exact hiff.2.2.2.1 hany hr⟩
            · have h1 := h0.ok j p hqj
              have hpbj : p.bnd pat.length = true := List.all_eq_true.1 hpb p (List.mem_of_getElem? hpj)
              rw [SBlk.ok_agree (fun k hk => hx.agree k hk) p hpbj, e0] at h1
              exact (SBlk.ok_agree hag s' hsb (β i) w').2 (hiff.2.1 hany w' h1)
        · rename_i hsame
          rw [Bool.or_eq_true] at hco
          rcases hco with hco | hco
          · exact (hsame hco).elim
          · simp only [Bool.and_eq_true, Bool.not_eq_true'] at hco
            obtain ⟨⟨hna, hqs⟩, htail⟩ := hco
            have hany : p ≠ .any := by intro hh; subst hh; cases hna
            by_cases hqd : isDead q = true
            · have : q = .dead := by cases q <;> simp_all [isDead]
              subst this
              subst he
              exact ⟨fun hr => hr.elim, fun hr => hr.elim, trivial⟩
            · have hQ : (β0 j).q = (β i).q := by
                rw [e0]
                unfold bsub siteQ
                rw [hjk]
                simp only [hs]
                rw [hs] at htail
                cases s with
                | row a ks n tail T =>
                  cases tail with
                  | nil => rfl
                  | cons v r => simp only at htail; exact (hqd htail).elim
                | _ => rfl
              have hl0 : Bk.like (β0 j) (β i) := by rw [e0]; exact hlike
              have hin := SBlk.inst_real (S := S') (s := q) hl0
              subst he
              refine ⟨fun hr => ?_, fun hr => ?_, ?_⟩
              · have hqr := hin.1.1 hr
                obtain ⟨t, ht1, ht2⟩ := hx.kindr j q hjm hqj (by rw [← e0]; exact hqr)
                rw [hpj] at ht1; cases ht1
                exact ⟨hiff.2.2.1 ht2, fun j' h1 h2 => by rw [hjs j' h1 h2]; exact ⟨q, hqj, hqr⟩⟩
              · have hqr := hin.2.1 hr
                obtain ⟨t, ht1, ht2⟩ := hx.kind j q hjm hqj (by rw [← e0]; exact hqr)
                rw [hpj] at ht1; cases ht1
                exact hiff.2.2.2.2 ht2
              · rw [SBlk.inst_ok hBm hqs hl0 hQ w', hE]
                exact h0.ok j q hqj
      · cases hco
    · rename_i hj
      subst he
      refine ⟨fun hr => ⟨hr, fun j h1 h2 => (inv_none hj h1 h2).elim⟩, id, ?_⟩
      exact (SBlk.ok_agree hag s' hsb (β i) w').2 (SBlk.ok_frame (fun hr => apart i s' hs hr fun j' p' hp' _ h2 => inv_none hj (List.getElem?_eq_some_iff.1 hp').1 h2) (hw.ok i s' hs))
  -- a block's number: an old one, or a new one
  have cases' : ∀ i s', (newHeap S S' h pat post)[i]? = some s' → (i < h.length ∧ (∃ s, h[i]? = some s ∧ s' = postOld S S' pat post i s) ∧ β' i = β i) ∨
      (∃ t q, i = h.length + t ∧ post[pat.length + t]? = some q ∧ s' = q.inst S' ∧ q.okS S' = true ∧ β' i = β0 (pat.length + t)) := fun i s' hs => by
    rcases Nat.lt_or_ge i h.length with hi | hi
    · exact .inl ⟨hi, hget1 i s' hi hs, hag i hi⟩
    · obtain ⟨t, rfl⟩ : ∃ t, i = h.length + t := ⟨i - h.length, by omega⟩
      obtain ⟨q, h1, h2, h3⟩ := hget2 t s' hs
      exact .inr ⟨t, q, rfl, h1, h2, h3, hagN t⟩
  have newreal : ∀ t q, post[pat.length + t]? = some q → (q.inst S').real (β0 (pat.length + t)) → q.real (β0 (pat.length + t)) := fun t q hq hr =>
    (SBlk.inst_real (S := S') (s := q) (x := β0 (pat.length + t)) (y := β0 (pat.length + t)) ⟨rfl, rfl, rfl, rfl, rfl⟩).1.1 hr
  have cross : ∀ i s s' t q, i < h.length → h[i]? = some s → s' = postOld S S' pat post i s → s'.real (β i) → post[pat.length + t]? = some q → q.real (β0 (pat.length + t)) → (β i).a = (β0 (pat.length + t)).a → False := by
    intro i s s' t q hi hs he hr hq hqr ha
    obtain ⟨o1, o2, o3⟩ := old i s s' hi hs he
    obtain ⟨r1, r2⟩ := o1 hr
    rcases hx.fresh (pat.length + t) q (by omega) hq hqr with hf | ⟨j, p, hp1, hp2, hp3⟩
    · have := hw.lt i s hs r1; omega
    · obtain ⟨b, u, f1, f2, _, f3, _⟩ := chk_real hF hc hp1 (SBlk.wr_real hp2)
      have hjm := (List.getElem?_eq_some_iff.1 hp1).1
      have hb : b = i := by
        refine hw.inj b i u s f2 hs f3 r1 ?_
        rw [← (bsub_like (E := E) (β := β) (h := h) f1).a, hp3, ha]
      subst hb
      obtain ⟨q', g1, g2⟩ := r2 j hjm f1
      have := h0.inj j (pat.length + t) q' q g1 hq g2 hqr (by rw [hx.agree j hjm]; exact hp3)
      omega
  refine ⟨⟨fun i j s t hi hj hri hrj he => ?_, fun i s hi hr => ?_, fun i s hi => ?_⟩, ⟨?_, hag, fun i s hi hs hr => ?_, fun i s hi hs hr => ?_, fun i s hi hs hr => ?_, hx.size, fun c hc' hn => ?_, hx.os, hx.tape, hx.output⟩, hBm, hE, hag⟩
  · rcases cases' i s hi with ⟨i1, ⟨s0, i2, i3⟩, i4⟩ | ⟨t1, q1, i1, i2, i3, _, i4⟩ <;> rcases cases' j t hj with ⟨j1, ⟨t0, j2, j3⟩, j4⟩ | ⟨t2, q2, j1, j2, j3, _, j4⟩
    · rw [i4] at hri he; rw [j4] at hrj he
      exact hw.inj i j s0 t0 i2 j2 ((old i s0 s i1 i2 i3).1 hri).1 ((old j t0 t j1 j2 j3).1 hrj).1 he
    · rw [i4] at hri he; rw [j4] at hrj he
      subst j3
      exact (cross i s0 s t2 q2 i1 i2 i3 hri j2 (newreal t2 q2 j2 hrj) he).elim
    · rw [i4] at hri he; rw [j4] at hrj he
      subst i3
      exact (cross j t0 t t1 q1 j1 j2 j3 hrj i2 (newreal t1 q1 i2 hri) he.symm).elim
    · rw [i4] at hri he; rw [j4] at hrj he
      subst i3 j3
      have := h0.inj (pat.length + t1) (pat.length + t2) q1 q2 i2 j2 (newreal t1 q1 i2 hri) (newreal t2 q2 j2 hrj) he
      omega
  · rcases cases' i s hi with ⟨i1, ⟨s0, i2, i3⟩, i4⟩ | ⟨t1, q1, i1, i2, i3, _, i4⟩
    · rw [i4] at hr ⊢
      exact Nat.lt_of_lt_of_le (hw.lt i s0 i2 ((old i s0 s i1 i2 i3).1 hr).1) hx.size
    · rw [i4] at hr ⊢
      subst i3
      exact h0.lt _ q1 i2 (newreal t1 q1 i2 hr)
  · rcases cases' i s hi with ⟨i1, ⟨s0, i2, i3⟩, i4⟩ | ⟨t1, q1, i1, i2, i3, i5, i4⟩
    · rw [i4]; exact (old i s0 s i1 i2 i3).2.2
    · rw [i4, i3, SBlk.inst_ok hBm i5 (x := β0 (pat.length + t1)) ⟨rfl, rfl, rfl, rfl, rfl⟩ rfl w', hE]
      exact h0.ok _ q1 i2
  · unfold newHeap; simp
  · obtain ⟨s0, i2, i3⟩ := hget1 i s hi hs
    exact ⟨s0, i2, (old i s0 s hi i2 i3).2.1 hr⟩
  · obtain ⟨s0, i2, i3⟩ := hget1 i s hi hs
    exact ⟨s0, i2, ((old i s0 s hi i2 i3).1 hr).1⟩
  · rcases cases' i s hs with ⟨i1, _⟩ | ⟨t1, q1, i1, i2, i3, i5, i4⟩
    · omega
    · rw [i4] at hr ⊢
      subst i3
      rcases hx.fresh _ q1 (by omega) i2 (newreal t1 q1 i2 hr) with hf' | ⟨j, p, hp1, hp2, hp3⟩
      · exact .inl hf'
      · obtain ⟨b, u, f1, f2, _, f3, f4⟩ := chk_real hF hc hp1 (SBlk.wr_real hp2)
        exact .inr ⟨b, u, f2, f4 hp2, by rw [← hp3, (bsub_like (E := E) (β := β) (h := h) f1).a]⟩
  · refine hx.same c hc' fun j p hp hwr he => ?_
    obtain ⟨b, u, f1, f2, _, f3, f4⟩ := chk_real hF hc hp (SBlk.wr_real hwr)
    rw [(bsub_like (E := E) (β := β) (h := h) f1).a] at he
    exact hn b u f2 (f4 hwr) he
end Go.Sy
