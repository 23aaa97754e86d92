/- What fits a pattern of a heap; what stands behind a call that was told by patterns. -/
import Derived.Test.YtjanndmmhjnpcaaDoorSyT
set_option autoImplicit true
set_option relaxedAutoImplicit true
set_option linter.unusedVariables false
set_option linter.unusedSimpArgs false
namespace Go.Sy
open Go
variable {E : Env} {β : Nat → Bk} {P : Program} {w : World}
def nilBk : Bk := { a := 0 }
def siteQ (E : Env) (β : Nat → Bk) (h : List SBlk) (b : Nat) : Nat → Value :=
  match h[b]? with
  | some (.row a ks n tail _) => rowQ E β (β b).q n ks.length tail
  | _ => (β b).q
def bsub (E : Env) (β : Nat → Bk) (h : List SBlk) (S : Sub) (j : Nat) : Bk :=
  match fnd j S.k with
  | some (some b) => { β b with q := siteQ E β h b }
  | some none => nilBk
  | none => β j
theorem bsub_like {h : List SBlk} {S : Sub} {j b : Nat} (hj : fnd j S.k = some (some b)) : Bk.like (bsub E β h S j) (β b) := by
  unfold bsub; rw [hj]; exact ⟨rfl, rfl, rfl, rfl, rfl⟩
theorem bsub_nil {h : List SBlk} {S : Sub} {j : Nat} (hj : fnd j S.k = some none) : bsub E β h S j = nilBk := by
  unfold bsub; rw [hj]
theorem bsub_map {h : List SBlk} {S : Sub} : Bmap S β (bsub E β h S) := by
  intro j x hj
  cases x with
  | none => simp only; rw [bsub_nil hj]; rfl
  | some b => exact bsub_like hj
theorem Bk.like.like_v {x y : Bk} (h : Bk.like x y) : x.v = y.v := by unfold Bk.v; rw [h.z, h.a, h.n, h.c, h.o]
def chkBlk (S : Sub) (F : List (SB × Bool)) (pat : SBlk) (h : List SBlk) (x : Option Nat) : Bool :=
  match x with
  | none => match pat with
    | .row a ks n [] T => n.inst S == .c 0
    | .pr k (.i n _) => decide (1000 ≤ k) && n.inst S == .c 0
    | _ => false
  | some b => match pat, h[b]? with
    | .any, some (.cells ..) => true
    | .any, some (.arr ..) => true
    | .any, some .any => true
    | .cells l T, some (.cells l' T') => SV.okSL S l && SV.sameL (SV.instL S l) l' && T == T'
    | .arr a ks n, some (.arr a' ks' n') => a.inst S == a' && ks == ks' && n.inst S == n'
    | .row a ks n [] T, some (.row a' ks' n' tail T') => ks == ks' && T == T' && ks.length != 0 && tail.length % ks.length == 0 && (tail.isEmpty || nonneg F n') && tailOk ks 0 tail &&
        a.inst S == tailA a' n' ks.length tail && n.inst S == rowsN n' ks.length tail
    | .row a ks n (x :: l) T, some (.row a' ks' n' tail T') => ks == ks' && T == T' && n == .c 0 && n' == .c 0 && SV.okSL S (x :: l) && SV.sameL (SV.instL S (x :: l)) tail
    | .pr k l, some (.pr k' l') => k == k' && l.inst S == l'
    | _, _ => false
theorem rowsN_den {n : SE} {K m : Nat} {tail : List SV} (hK : K ≠ 0) (hm : tail.length = m * K) (hn : tail = [] ∨ 0 ≤ n.den E) : ((rowsN n K tail).den E).toNat = (n.den E).toNat + m := by
  unfold rowsN
  rw [SE.den_mkAdd, hm, Nat.mul_div_cancel _ (Nat.pos_of_ne_zero hK)]
  simp only [SE.den]
  rcases hn with h | h
  · subst h
    have : m = 0 := by
      rcases Nat.eq_zero_or_pos m with h | h
      · exact h
      · have := Nat.mul_pos h (Nat.pos_of_ne_zero hK)
        simp at hm; omega
    omega
  · omega
theorem blk_iff {F : List (SB × Bool)} (hF : ∀ p ∈ F, p.1.den E = p.2) {S : Sub} {h : List SBlk} {pat s : SBlk} {j b : Nat} (hj : fnd j S.k = some (some b)) (hs : h[b]? = some s) (hc : chkBlk S F pat h (some b) = true) :
    (∀ w' : World, SBlk.ok E β (β b) w' s → SBlk.ok (E.sub β S) (bsub E β h S) (bsub E β h S j) w' pat) ∧
    (pat ≠ .any → ∀ w' : World, SBlk.ok (E.sub β S) (bsub E β h S) (bsub E β h S j) w' pat → SBlk.ok E β (β b) w' s) ∧
    (∀ x, pat.at (E.sub β S) (bsub E β h S j) x → s.at E (β b) x) ∧ (pat ≠ .any → ∀ x, s.at E (β b) x → pat.at (E.sub β S) (bsub E β h S j) x) ∧ (pat.wr (bsub E β h S j) → s.wr (β b)) := by
  have hl := bsub_like (E := E) (β := β) (h := h) hj
  unfold chkBlk at hc
  simp only [hs] at hc
  split at hc
  all_goals try (cases hc; done)
  · rename_i hx; cases hx; exact ⟨fun w' _ => trivial, fun hh => (hh rfl).elim, fun x hx => ⟨trivial, hx.2.trans hl.a⟩, fun hh => (hh rfl).elim, fun hh => hh.elim⟩
  · rename_i hx; cases hx; exact ⟨fun w' _ => trivial, fun hh => (hh rfl).elim, fun x hx => ⟨trivial, hx.2.trans hl.a⟩, fun hh => (hh rfl).elim, fun hh => hh.elim⟩
  · rename_i hx; cases hx; exact ⟨fun w' _ => trivial, fun hh => (hh rfl).elim, fun x hx => ⟨trivial, hx.2.trans hl.a⟩, fun hh => (hh rfl).elim, fun hh => hh.elim⟩
  · rename_i l T l' T' hx
    cases hx
    simp only [Bool.and_eq_true, beq_iff_eq] at hc
    obtain ⟨⟨h1, h2⟩, rfl⟩ := hc
    have e := SV.instL_ok (E := E) (bsub_map (E := E) (β := β) (h := h) (S := S)) l h1
    rw [SV.sameL_ok h2] at e
    refine ⟨fun w' hh => ?_, fun _ w' hh => ?_, fun x hx => ⟨trivial, hx.2.trans hl.a⟩, fun _ x hx => ⟨trivial, hx.2.trans hl.a.symm⟩, fun _ => trivial⟩
    · simp only [SBlk.ok, hl.o, hl.a, ← e] at hh ⊢; exact hh
    · simp only [SBlk.ok, hl.o, hl.a, ← e] at hh ⊢; exact hh
  · rename_i a ks n a' ks' n' hx
    cases hx
    simp only [Bool.and_eq_true, beq_iff_eq] at hc
    obtain ⟨⟨h1, h2⟩, h3⟩ := hc
    subst h2
    have hq : (bsub E β h S j).q = (β b).q := by
      unfold bsub siteQ; rw [hj]; simp only [hs]
    have e1 := AE.inst_ok (E := E) (β := β) S a
    have e2 := SE.inst_ok (E := E) (β := β) S n
    rw [h1] at e1
    rw [h3] at e2
    refine ⟨fun w' hh => ?_, fun _ w' hh => ?_, fun x hx => ⟨trivial, hx.2.trans hl.a⟩, fun _ x hx => ⟨trivial, hx.2.trans hl.a.symm⟩, fun hh => hh.elim⟩
    · simp only [SBlk.ok, hl.o, hl.a, hq, ← e1, ← e2] at hh ⊢; exact hh
    · simp only [SBlk.ok, hl.o, hl.a, hq, ← e1, ← e2] at hh ⊢; exact hh
  · rename_i a ks n T a' ks' n' tail T' hx
    cases hx
    simp only [Bool.and_eq_true, beq_iff_eq, bne_iff_ne, ne_eq] at hc
    obtain ⟨⟨⟨⟨⟨⟨⟨h1, h2⟩, h3⟩, h4⟩, h5⟩, h6⟩, h7⟩, h8⟩ := hc
    subst h1; subst h2
    have hq : (bsub E β h S j).q = rowQ E β (β b).q n' ks.length tail := by
      unfold bsub siteQ; rw [hj]; simp only [hs]
    have e1 := AE.inst_ok (E := E) (β := β) S a
    have e2 := SE.inst_ok (E := E) (β := β) S n
    rw [h7] at e1
    rw [h8] at e2
    have hn : tail = [] ∨ 0 ≤ n'.den E := by
      rw [Bool.or_eq_true] at h5
      rcases h5 with h | h
      · left; cases tail <;> simp_all
      · right; exact nonneg_ok hF h
    obtain ⟨m, hm⟩ : ∃ m, tail.length = m * ks.length := ⟨tail.length / ks.length, by rw [Nat.div_mul_cancel (Nat.dvd_of_mod_eq_zero h4)]⟩
    have hnn : (n.den (E.sub β S)).toNat = (n'.den E).toNat + m := by rw [← e2]; exact rowsN_den h3 hm hn
    have hcells : rowCells (E.sub β S) (bsub E β h S) (bsub E β h S j).q a ks (n.den (E.sub β S)).toNat [] = rowCells E β (β b).q a' ks (n'.den E).toNat tail := by
      rw [rowCells_norm hm hn h6, hnn, hq]
      simp only [rowCells, SV.denL, List.append_nil, ← e1]
    have hreal : (SBlk.row a ks n [] T).real (bsub E β h S j) ↔ (SBlk.row a' ks n' tail T).real (β b) := by simp only [SBlk.real, hl.z]
    have hwr : (SBlk.row a ks n [] T).wr (bsub E β h S j) ↔ (SBlk.row a' ks n' tail T).wr (β b) := by simp only [SBlk.wr, hl.z]
    refine ⟨fun w' hh => ?_, fun _ w' hh => ?_, fun x hx => ⟨hreal.1 hx.1, hx.2.trans hl.a⟩, fun _ x hx => ⟨hreal.2 hx.1, hx.2.trans hl.a.symm⟩, hwr.1⟩
    · obtain ⟨h0, m', hm', hh⟩ := hh
      have : m' = m := Nat.eq_of_mul_eq_mul_right (Nat.pos_of_ne_zero h3) (hm'.symm.trans hm)
      subst this
      refine ⟨by rw [hl.o]; exact h0, 0, by simp, ?_⟩
      rw [hcells, hl.like_v, hnn]; exact hh
    · obtain ⟨h0, m', hm', hh⟩ := hh
      have hm0 : m' = 0 := by
        have : 0 = m' * ks.length := hm'
        rcases Nat.mul_eq_zero.1 this.symm with h | h
        · exact h
        · exact (h3 h).elim
      subst hm0
      rw [hl.o] at h0
      refine ⟨h0, m, hm, ?_⟩
      rw [hcells, hl.like_v, hnn] at hh; exact hh
  · rename_i a ks n x l T a' ks' n' tail T' hx
    cases hx
    simp only [Bool.and_eq_true, beq_iff_eq] at hc
    obtain ⟨⟨⟨⟨⟨h1, h2⟩, h3⟩, h4⟩, h5⟩, h6⟩ := hc
    subst h1; subst h2; subst h3; subst h4
    have e := SV.instL_ok (E := E) (bsub_map (E := E) (β := β) (h := h) (S := S)) (x :: l) h5
    have hle : tail.length = (x :: l).length := by
      have := congrArg List.length e
      rw [SV.sameL_ok h6] at this
      simp only [SV.denL_map, List.length_map] at this
      exact this
    rw [SV.sameL_ok h6] at e
    have hreal : (SBlk.row a ks (.c 0) (x :: l) T).real (bsub E β h S j) ↔ (SBlk.row a' ks (.c 0) tail T).real (β b) := by simp only [SBlk.real, hl.z]
    have hwr : (SBlk.row a ks (.c 0) (x :: l) T).wr (bsub E β h S j) ↔ (SBlk.row a' ks (.c 0) tail T).wr (β b) := by simp only [SBlk.wr, hl.z]
    have hcells : rowCells (E.sub β S) (bsub E β h S) (bsub E β h S j).q a ks ((SE.c 0).den (E.sub β S)).toNat (x :: l) = rowCells E β (β b).q a' ks ((SE.c 0).den E).toNat tail := by
      simp only [rowCells, SE.den, Int.toNat_zero, Nat.zero_mul, List.range_zero, List.map_nil, List.nil_append, ← e]
    refine ⟨fun w' hh => ?_, fun _ w' hh => ?_, fun x hx => ⟨hreal.1 hx.1, hx.2.trans hl.a⟩, fun _ x hx => ⟨hreal.2 hx.1, hx.2.trans hl.a.symm⟩, hwr.1⟩
    · obtain ⟨h0, m', hm', hh⟩ := hh
      refine ⟨by rw [hl.o]; exact h0, m', by rw [← hle]; exact hm', ?_⟩
      rw [hcells, hl.like_v]; exact hh
    · obtain ⟨h0, m', hm', hh⟩ := hh
      rw [hl.o] at h0
      refine ⟨h0, m', by rw [hle]; exact hm', ?_⟩
      rw [hcells, hl.like_v] at hh; exact hh
  · rename_i k l k' l' hx
    cases hx
    simp only [Bool.and_eq_true, beq_iff_eq] at hc
    obtain ⟨rfl, rfl⟩ := hc
    have e := SL.inst_ok (E := E) (β := β) S l
    refine ⟨fun w' hh => ?_, fun _ w' hh => ?_, fun x hh => ?_, fun _ x hh => ?_, fun _ => trivial⟩
    · simp only [SBlk.ok, hl.o, hl.a, hl.like_v, ← e] at hh ⊢; exact hh
    · simp only [SBlk.ok, hl.o, hl.a, hl.like_v, ← e] at hh ⊢; exact hh
    · simp only [SBlk.at, hl.a, hl.like_v, ← e] at hh ⊢; exact hh
    · simp only [SBlk.at, hl.a, hl.like_v, ← e] at hh ⊢; exact hh
def injB (S : Sub) (m : Nat) : Bool :=
  (List.range m).all fun i => (List.range m).all fun j => i == j || match fnd i S.k, fnd j S.k with | some (some b), some (some c) => b != c | _, _ => true
def isDead : SBlk → Bool
  | .dead => true
  | _ => false
def isAny : SBlk → Bool
  | .any => true
  | _ => false
def chkOne (S : Sub) (F : List (SB × Bool)) (h : List SBlk) (p : SBlk × Nat) : Bool :=
  match fnd p.2 S.k with
  | some x => chkBlk S F p.1 h x
  | none => isDead p.1
def chkHeap (S : Sub) (F : List (SB × Bool)) (pat h : List SBlk) : Bool :=
  pat.zipIdx.all (chkOne S F h) && injB S pat.length
theorem injB_ok {S : Sub} {m i j b : Nat} (h : injB S m = true) (hi : i < m) (hj : j < m) (h1 : fnd i S.k = some (some b)) (h2 : fnd j S.k = some (some b)) : i = j := by
  have := List.all_eq_true.1 (List.all_eq_true.1 h i (List.mem_range.2 hi)) j (List.mem_range.2 hj)
  rw [h1, h2] at this
  simp at this
  exact this
theorem chk_one {S : Sub} {F : List (SB × Bool)} {pat h : List SBlk} (hc : chkHeap S F pat h = true) {j : Nat} {p : SBlk} (hp : pat[j]? = some p) : chkOne S F h (p, j) = true := by
  unfold chkHeap at hc
  rw [Bool.and_eq_true] at hc
  have := List.all_eq_true.1 hc.1 (p, j)
  refine this ?_
  rw [List.mem_zipIdx_iff_getElem?]
  exact hp
theorem dead_at {p : SBlk} {bk : Bk} {x : Nat} (h : isDead p = true) : ¬ p.at E bk x := by cases p <;> simp_all [isDead, SBlk.at, SBlk.real]
theorem nil_at {S : Sub} {F : List (SB × Bool)} {h : List SBlk} {p : SBlk} {x : Nat} (hc : chkBlk S F p h none = true) : ¬ p.at (E.sub β S) nilBk x := by
  unfold chkBlk at hc
  simp only at hc
  split at hc
  · exact fun hx => by simp [SBlk.at, SBlk.real, nilBk] at hx
  · rename_i k n r
    simp only [Bool.and_eq_true, decide_eq_true_eq, beq_iff_eq] at hc
    have e2 := SE.inst_ok (E := E) (β := β) S n
    rw [hc.2] at e2
    simp only [SBlk.at, SL.den, ← e2]
    exact E.fn.fn k _ _ _ hc.1
  · cases hc
theorem nil_ok {S : Sub} {F : List (SB × Bool)} {h : List SBlk} {p : SBlk} {β' : Nat → Bk} (hc : chkBlk S F p h none = true) : SBlk.ok (E.sub β S) β' nilBk w p := by
  unfold chkBlk at hc
  simp only at hc
  split at hc
  · rename_i a ks n T
    have e2 := SE.inst_ok (E := E) (β := β) S n
    rw [beq_iff_eq.1 hc] at e2
    refine ⟨rfl, 0, by simp, ?_⟩
    simp only [← e2, SE.den, rowCells, Bk.v, nilBk]
    simpa [SV.denL] using World.ownsRow_nil w 0 T ks.length
  · rename_i k n r
    simp only [Bool.and_eq_true, decide_eq_true_eq, beq_iff_eq] at hc
    have e2 := SE.inst_ok (E := E) (β := β) S n
    rw [hc.2] at e2
    simp only [SBlk.ok, SL.den, ← e2]
    exact E.fn.pn k _ _ _ hc.1
  · cases hc
theorem chk_at {F : List (SB × Bool)} (hF : ∀ p ∈ F, p.1.den E = p.2) {S : Sub} {pat h : List SBlk} (hc : chkHeap S F pat h = true) {j : Nat} {p : SBlk} (hp : pat[j]? = some p) {x : Nat} (hr : p.at (E.sub β S) (bsub E β h S j) x) :
    ∃ b s, fnd j S.k = some (some b) ∧ h[b]? = some s ∧ chkBlk S F p h (some b) = true ∧ s.at E (β b) x ∧ (p.wr (bsub E β h S j) → s.wr (β b)) := by
  have h1 := chk_one hc hp
  unfold chkOne at h1
  simp only at h1
  split at h1
  · rename_i y hy
    cases y with
    | none =>
      rw [bsub_nil hy] at hr
      exact (nil_at h1 hr).elim
    | some b =>
      cases hb : h[b]? with
      | none => unfold chkBlk at h1; simp only [hb] at h1; cases p <;> simp_all
      | some s =>
        have := blk_iff (E := E) (β := β) hF hy hb h1
        exact ⟨b, s, hy, hb, h1, this.2.2.1 x hr, this.2.2.2.2⟩
  · exact (dead_at h1 hr).elim
theorem hok_match {F : List (SB × Bool)} (hF : ∀ p ∈ F, p.1.den E = p.2) {S : Sub} {pat h : List SBlk} (hw : HOk E β h w) (hc : chkHeap S F pat h = true) : HOk (E.sub β S) (bsub E β h S) pat w := by
  have hinj : injB S pat.length = true := by unfold chkHeap at hc; rw [Bool.and_eq_true] at hc; exact hc.2
  refine ⟨fun i j s t x hi hj hri hrj => ?_, fun i s x hi hr => ?_, fun i s hi => ?_⟩
  · obtain ⟨b, s', f1, f2, _, f3, _⟩ := chk_at hF hc hi hri
    obtain ⟨c, t', g1, g2, _, g3, _⟩ := chk_at hF hc hj hrj
    have := hw.dis b c s' t' x f2 g2 f3 g3
    subst this
    exact injB_ok hinj (lt_len hi) (lt_len hj) f1 g1
  · obtain ⟨b, s', f1, f2, _, f3, _⟩ := chk_at hF hc hi hr
    exact hw.lt b s' x f2 f3
  · have h1 := chk_one hc hi
    unfold chkOne at h1
    simp only at h1
    split at h1
    · rename_i x hx
      cases x with
      | none =>
        rw [bsub_nil hx]
        exact nil_ok h1
      | some b =>
        cases hb : h[b]? with
        | none => unfold chkBlk at h1; simp only [hb] at h1; cases s <;> simp_all
        | some t => exact (blk_iff (E := E) (β := β) hF hx hb h1).1 w (hw.ok b t hb)
    · cases s <;> simp_all [isDead, SBlk.ok]
end Go.Sy
