/- Stores and new blocks. -/
import Derived.Test.YtjanndmmhjnpcaaDoorSyG
set_option autoImplicit true
set_option relaxedAutoImplicit true
set_option linter.unusedVariables false
set_option linter.unusedSimpArgs false
namespace Go.Sy
open Go
variable {E : Env} {β : Nat → Bk} {P : Program} {w : World}
def wset (w : World) (b : Nat) (o : Obj) : World := { w with heap := w.heap.setIfInBounds b o }
theorem wset_wset (b : Nat) (o o' : Obj) : wset (wset w b o) b o' = wset w b o' := by simp [wset]
theorem wset_same {b : Nat} {o : Obj} (h : b < w.heap.size) : (wset w b o).heap[b]? = some o := by simp [wset, h]
theorem wset_other {b c : Nat} {o : Obj} (h : c ≠ b) : (wset w b o).heap[c]? = w.heap[c]? := by simp [wset, Array.getElem?_setIfInBounds, Ne.symm h]
theorem setCell_wset {b off : Nat} {cs : Array Value} {S : TypeId} {fz : Nat × Nat} (h : w.heap[b]? = some (.cells cs S fz)) (v : Value) :
    w.setCell ⟨b, off, none⟩ v = wset w b (.cells (cs.setIfInBounds off v) S fz) := by
  have hlt : b < w.heap.size := (Array.getElem?_eq_some_iff.1 h).1
  unfold World.setCell wset
  congr 1
  apply Array.ext_getElem?
  intro i
  rw [Array.getElem?_modify, Array.getElem?_setIfInBounds]
  by_cases hi : b = i
  · subst hi
    have hb := (Array.getElem?_eq_some_iff.1 h).2
    simp [hlt, hb]
  · simp [hi]
def SV.isCell : SV → Bool
  | .agg _ | .tup _ | .opq _ | .q _ _ => false
  | _ => true
theorem isCell_ok {v : SV} (h : v.isCell = true) : (v.den E β).oneCell' = true := by
  cases v <;> simp [SV.isCell] at h <;> simp [SV.den, Value.oneCell']
  case own b => cases hz : (β b).z <;> simp [Bk.v, hz]
  case pa e o => by_cases h : 0 ≤ e.den E <;> simp [h]
  case sa e o l c => by_cases h : 0 ≤ e.den E <;> simp [h]
theorem storeCells_ok {b off : Nat} {S : TypeId} : ∀ (vs : List SV) (l : List SV) (j : Nat) (w : World), w.heap[b]? = some (.cells (SV.denL E β l).toArray S (0, 0)) →
    off + j + vs.length ≤ l.length → vs.all SV.isCell = true →
    (storeCells ⟨b, off, none⟩ (SV.denL E β vs) j).run P w = .ok () (wset w b (.cells (SV.denL E β (putAll off l j vs)).toArray S (0, 0)))
  | [], l, j, w, h, _, _ => by
    have hlt : b < w.heap.size := (Array.getElem?_eq_some_iff.1 h).1
    have : wset w b (.cells (SV.denL E β l).toArray S (0, 0)) = w := by
      unfold wset
      have : w.heap.setIfInBounds b (.cells (SV.denL E β l).toArray S (0, 0)) = w.heap := by
        apply Array.ext_getElem?
        intro i
        rw [Array.getElem?_setIfInBounds]
        by_cases hi : b = i
        · subst hi
          have hb := (Array.getElem?_eq_some_iff.1 h).2
          simp [hlt, hb]
        · simp [hi]
      rw [this]
    simp [SV.denL, storeCells, putAll, this]
  | v :: r, l, j, w, h, hlen, hall => by
    simp only [List.all_cons, Bool.and_eq_true] at hall
    simp only [List.length_cons] at hlen
    have hlt : b < w.heap.size := (Array.getElem?_eq_some_iff.1 h).1
    have hcell : w.cell? ⟨b, off + j, none⟩ = some ((SV.denL E β l)[off + j]'(by rw [denL_length]; omega)) := by
      simp only [World.cell?, h]
      simp
    have hfz : w.frozen? ⟨b, off + j, none⟩ = false := by simp [World.frozen?, h]
    have h1 : (store (Addr.add ⟨b, off, none⟩ j) (v.den E β)).run P w = .ok () (wset w b (.cells (SV.denL E β (l.set (off + j) v)).toArray S (0, 0))) := by
      rw [addr_add, run_store P w _ _ _ (isCell_ok hall.1)]
      simp only [stored, hcell, hfz]
      rw [setCell_wset h, denL_set]
      simp
    simp only [SV.denL, storeCells, Sem.run_bind, h1, Result.andThen_ok, putAll]
    rw [storeCells_ok r (l.set (off + j) v) (j + 1) _ (wset_same hlt) (by simp; omega) hall.2, wset_wset]
structure Ext (E : Env) (h : List SBlk) (β : Nat → Bk) (w : World) (E' : Env) (h' : List SBlk) (β' : Nat → Bk) (w' : World) : Prop where
  len : h.length ≤ h'.length
  agree : ∀ i, i < h.length → β' i = β i
  kind : ∀ (i : Nat) (s' : SBlk), i < h.length → h'[i]? = some s' → s'.wr (β i) → ∃ s, h[i]? = some s ∧ s.wr (β i)
  fresh : ∀ (i : Nat) (s' : SBlk) (x : Nat), h'[i]? = some s' → s'.at E' (β' i) x → w.heap.size ≤ x ∨ ∃ j t, h[j]? = some t ∧ t.at E (β j) x ∧ (t.wr (β j) ∨ j = i)
  size : w.heap.size ≤ w'.heap.size
  same : ∀ b, b < w.heap.size → (∀ (i : Nat) (s : SBlk), h[i]? = some s → s.wr (β i) → ¬ s.at E (β i) b) → w'.heap[b]? = w.heap[b]?
  os : w'.os = w.os
  tape : w'.tape = w.tape
  output : w'.output = w.output
theorem Ext.refl (E : Env) (h : List SBlk) (β : Nat → Bk) (w : World) : Ext E h β w E h β w :=
  ⟨Nat.le_refl _, fun _ _ => rfl, fun i s _ h1 h2 => ⟨s, h1, h2⟩, fun i s x h1 h2 => .inr ⟨i, s, h1, h2, .inr rfl⟩, Nat.le_refl _, fun _ _ _ => rfl, rfl, rfl, rfl⟩
theorem lt_len {α : Type} {l : List α} {i : Nat} {x : α} (h : l[i]? = some x) : i < l.length := (List.getElem?_eq_some_iff.1 h).1
theorem Ext.trans {E1 E2 E3 : Env} {h1 h2 h3 : List SBlk} {β1 β2 β3 : Nat → Bk} {w1 w2 w3 : World} (a : Ext E1 h1 β1 w1 E2 h2 β2 w2) (b : Ext E2 h2 β2 w2 E3 h3 β3 w3) : Ext E1 h1 β1 w1 E3 h3 β3 w3 where
  len := Nat.le_trans a.len b.len
  agree i hi := by rw [b.agree i (Nat.lt_of_lt_of_le hi a.len), a.agree i hi]
  kind i s' hi h hw := by
    have hi2 := Nat.lt_of_lt_of_le hi a.len
    obtain ⟨s, h1, h2⟩ := b.kind i s' hi2 h (by rw [a.agree i hi]; exact hw)
    rw [a.agree i hi] at h2
    exact a.kind i s hi h1 h2
  fresh i s x hg hx := by
    rcases b.fresh i s x hg hx with h4 | ⟨j, t, h5, h6, h7⟩
    · exact .inl (Nat.le_trans a.size h4)
    · rcases a.fresh j t x h5 h6 with h8 | ⟨k, u, h9, h10, h11⟩
      · exact .inl h8
      · refine .inr ⟨k, u, h9, h10, ?_⟩
        rcases h11 with h11 | rfl
        · exact .inl h11
        · rcases h7 with h7 | rfl
          · rw [a.agree k (lt_len h9)] at h7
            obtain ⟨v, g1, g2⟩ := a.kind k t (lt_len h9) h5 h7
            rw [h9] at g1
            cases g1
            exact .inl g2
          · exact .inr rfl
  size := Nat.le_trans a.size b.size
  same c hc hn := by
    rw [b.same c (Nat.lt_of_lt_of_le hc a.size), a.same c hc hn]
    intro i s hi hk hat
    rcases a.fresh i s c hi hat with h | ⟨j, t, h1, h2, h3⟩
    · omega
    · rcases h3 with h3 | rfl
      · exact hn j t h1 h3 h2
      · rw [a.agree j (lt_len h1)] at hk
        obtain ⟨v, g1, g2⟩ := a.kind j s (lt_len h1) hi hk
        rw [h1] at g1
        cases g1
        exact hn j t h1 g2 h2
  os := b.os.trans a.os
  tape := b.tape.trans a.tape
  output := b.output.trans a.output
theorem HOk.put {h : List SBlk} (hw : HOk E β h w) {b : Nat} {s0 s1 : SBlk} (hb : h[b]? = some s0) (hwr : s0.wr (β b)) (hat : ∀ x, s1.at E (β b) x → s0.at E (β b) x) {w' : World} (hsz : w'.heap.size = w.heap.size)
    (hsame : ∀ x, ¬ s0.at E (β b) x → w'.heap[x]? = w.heap[x]?) (hos : w'.os = w.os) (htp : w'.tape = w.tape) (hop : w'.output = w.output) (hok : s1.ok E β (β b) w') : HOk E β (h.set b s1) w' ∧ Ext E h β w E (h.set b s1) β w' := by
  have hbl : b < h.length := lt_len hb
  have back : ∀ (i : Nat) (s : SBlk) (x : Nat), (h.set b s1)[i]? = some s → s.at E (β i) x → ∃ t : SBlk, h[i]? = some t ∧ t.at E (β i) x := fun i s x hs hr => by
    by_cases hib : b = i
    · subst hib
      rw [List.getElem?_set_self hbl] at hs
      cases hs
      exact ⟨_, hb, hat x hr⟩
    · rw [List.getElem?_set_ne hib] at hs; exact ⟨s, hs, hr⟩
  refine ⟨⟨fun i j s t x hi hj hri hrj => ?_, fun i s x hi hr => ?_, fun i s hs => ?_⟩, ⟨by simp, fun _ _ => rfl, fun i s hi hk hr => ?_, fun i s x hk hx => ?_, by rw [hsz]; exact Nat.le_refl _, fun c hc hn => hsame c (hn b s0 hb hwr), hos, htp, hop⟩⟩
  · obtain ⟨s', h1, h2⟩ := back i s x hi hri
    obtain ⟨t', h3, h4⟩ := back j t x hj hrj
    exact hw.dis i j s' t' x h1 h3 h2 h4
  · obtain ⟨s', h1, h2⟩ := back i s x hi hr
    rw [hsz]; exact hw.lt i s' x h1 h2
  · by_cases hib : b = i
    · subst hib
      rw [List.getElem?_set_self hbl] at hs
      cases hs
      exact hok
    · rw [List.getElem?_set_ne hib] at hs
      exact SBlk.ok_frame (fun x hr => hsame x fun hx => hib (hw.dis b i _ _ x hb hs hx hr)) (hw.ok i s hs)
  · by_cases hib : b = i
    · subst hib; exact ⟨_, hb, hwr⟩
    · rw [List.getElem?_set_ne hib] at hk; exact ⟨s, hk, hr⟩
  · obtain ⟨t, h1, h2⟩ := back i s x hk hx
    exact .inr ⟨i, t, h1, h2, .inr rfl⟩
def sStore (P : Program) (h : List SBlk) (T : TypeId) (x v : SV) : Option (List SBlk) :=
  match x with
  | .ptr b o =>
    match h[b]?, constRow o, sizeT P T, v.cells with
    | some (.cells l S), some p, some n, some vs =>
      if vs.length = n ∧ p + n ≤ l.length ∧ vs.all SV.isCell = true then some (h.set b (.cells (putAll p l 0 vs) S)) else none
    | _, _, _, _ => none
  | _ => none
theorem HOk.set {h : List SBlk} (hw : HOk E β h w) {b : Nat} {l l' : List SV} {S : TypeId} (hb : h[b]? = some (.cells l S)) :
    HOk E β (h.set b (.cells l' S)) (wset w (β b).a (.cells (SV.denL E β l').toArray S (0, 0))) ∧ Ext E h β w E (h.set b (.cells l' S)) β (wset w (β b).a (.cells (SV.denL E β l').toArray S (0, 0))) := by
  refine HOk.put (s1 := .cells l' S) hw hb trivial (fun x hx => hx) (by simp [wset]) (fun x hx => wset_other fun hh => hx ⟨trivial, hh⟩) rfl rfl rfl ?_
  simp only [SBlk.ok]
  exact ⟨(hw.ok b _ hb).1, wset_same (hw.lta hb trivial rfl)⟩
theorem sStore_ok {h h' : List SBlk} (hw : HOk E β h w) {T : TypeId} {x v : SV} (hr : sStore P h T x v = some h') :
    ∃ w', (Instr.storeAt T (x.den E β) (v.den E β)).run P w = .ok () w' ∧ HOk E β h' w' ∧ Ext E h β w E h' β w' := by
  unfold sStore at hr
  split at hr
  · rename_i b o
    split at hr
    · rename_i l S p n vs hb hp hn hvs
      split at hr
      · rename_i hc
        cases hr
        obtain ⟨h1, h2⟩ := HOk.set (l' := putAll p l 0 vs) hw hb
        refine ⟨_, ?_, h1, h2⟩
        have hblk := hw.ok b _ hb
        simp only [SBlk.ok] at hblk
        have hsz : (v.den E β).cells.size = n := by rw [cells_ok hvs]; simp [denL_length, hc.1]
        simp only [Instr.storeAt, SV.den, Instr.sureAddr, Sem.run_bind, Sem.run_pure, Result.andThen_ok, storeVar, sizeT_ok hn, hsz, constRow_ok hp]
        simp only [ne_eq, not_true_eq_false, if_false]
        rw [cells_ok hvs]
        have := storeCells_ok (E := E) (β := β) (P := P) (b := (β b).a) (off := p) (S := S) vs l 0 w hblk.2 (by omega) hc.2.2
        rw [hblk.1, Nat.zero_add]
        simpa using this
      · cases hr
    · cases hr
  · cases hr
def upB (β : Nat → Bk) (n : Nat) (m : Bk) (i : Nat) : Bk := if i = n then m else β i
theorem upB_self (β : Nat → Bk) (n : Nat) (m : Bk) : upB β n m n = m := by simp [upB]
theorem upB_ne {β : Nat → Bk} {n : Nat} {m : Bk} {i : Nat} (h : i ≠ n) : upB β n m i = β i := by simp [upB, h]
theorem HOk.more {h : List SBlk} (hw : HOk E β h w) (hbnd : h.all (SBlk.bnd h.length) = true) {s0 : SBlk} {bk : Bk} {w' : World} (hos : w'.os = w.os) (htp : w'.tape = w.tape) (hop : w'.output = w.output) (hsz : w.heap.size ≤ w'.heap.size)
    (hold : ∀ c, c < w.heap.size → w'.heap[c]? = w.heap[c]?) (hnew : ∀ x, s0.at E bk x → w.heap.size ≤ x ∧ x < w'.heap.size) (hok : s0.ok E (upB β h.length bk) bk w') :
    HOk E (upB β h.length bk) (h ++ [s0]) w' ∧ Ext E h β w E (h ++ [s0]) (upB β h.length bk) w' := by
  have hag : ∀ i, i < h.length → upB β h.length bk i = β i := fun i hi => upB_ne (by omega)
  have lt2 : ∀ i s, (h ++ [s0])[i]? = some s → (i < h.length ∧ h[i]? = some s ∧ upB β h.length bk i = β i) ∨ (i = h.length ∧ s = s0 ∧ upB β h.length bk i = bk) := fun i s hs => by
    rcases Nat.lt_or_ge i h.length with h1 | h1
    · rw [List.getElem?_append_left h1] at hs; exact .inl ⟨h1, hs, hag i h1⟩
    · have hi : i = h.length := by
        have := (List.getElem?_eq_some_iff.1 hs).1
        simp at this; omega
      subst hi
      rw [List.getElem?_append_right h1] at hs
      simp at hs
      exact .inr ⟨rfl, hs.symm, upB_self _ _ _⟩
  refine ⟨⟨fun i j s t x hi hj hri hrj => ?_, fun i s x hi hr => ?_, fun i s hs => ?_⟩, ⟨by simp, hag, fun i s hi hk hr => ?_, fun i s x h2 hr => ?_, hsz, fun c hc hn => hold c hc, hos, htp, hop⟩⟩
  · rcases lt2 i s hi with ⟨h1, h2, h3⟩ | ⟨h1, h2, h3⟩ <;> rcases lt2 j t hj with ⟨h4, h5, h6⟩ | ⟨h4, h5, h6⟩ <;> rw [h3] at hri <;> rw [h6] at hrj
    · exact hw.dis i j s t x h2 h5 hri hrj
    · have := hw.lt i s x h2 hri
      rw [h5] at hrj
      have := (hnew x hrj).1; omega
    · have := hw.lt j t x h5 hrj
      rw [h2] at hri
      have := (hnew x hri).1; omega
    · omega
  · rcases lt2 i s hi with ⟨h1, h2, h3⟩ | ⟨h1, h2, h3⟩ <;> rw [h3] at hr
    · have := hw.lt i s x h2 hr; omega
    · rw [h2] at hr; exact (hnew x hr).2
  · rcases lt2 i s hs with ⟨h1, h2, h3⟩ | ⟨h1, h2, h3⟩ <;> rw [h3]
    · have hsb : s.bnd h.length = true := List.all_eq_true.1 hbnd s (List.mem_of_getElem? h2)
      rw [SBlk.ok_agree hag s hsb]
      exact SBlk.ok_frame (fun x hr => hold _ (hw.lt i s x h2 hr)) (hw.ok i s h2)
    · rw [h2]; exact hok
  · rw [List.getElem?_append_left hi] at hk; exact ⟨s, hk, hr⟩
  · rcases lt2 i s h2 with ⟨h3, h4, h5⟩ | ⟨h3, h4, h5⟩
    · rw [h5] at hr; exact .inr ⟨i, s, h4, hr, .inr rfl⟩
    · rw [h5, h4] at hr; exact .inl (hnew x hr).1
theorem HOk.push {h : List SBlk} (hw : HOk E β h w) (hbnd : h.all (SBlk.bnd h.length) = true) {l : List SV} {S : TypeId} (hl : SV.bndL h.length l = true) :
    HOk E (upB β h.length { a := w.heap.size }) (h ++ [.cells l S]) (w.alloc (.cells (SV.denL E β l).toArray S)) ∧
    Ext E h β w E (h ++ [.cells l S]) (upB β h.length { a := w.heap.size }) (w.alloc (.cells (SV.denL E β l).toArray S)) := by
  have hag : ∀ i, i < h.length → upB β h.length { a := w.heap.size } i = β i := fun i hi => upB_ne (by omega)
  have hold : ∀ c, c < w.heap.size → (w.alloc (.cells (SV.denL E β l).toArray S)).heap[c]? = w.heap[c]? := fun c hc => by
    show (w.heap.push _)[c]? = _
    rw [Array.getElem?_push, if_neg (by omega)]
  refine HOk.more hw hbnd rfl rfl rfl (by simp) hold (fun x hx => by have := hx.2; simp only at this; subst this; simp) ?_
  simp only [SBlk.ok]
  refine ⟨trivial, ?_⟩
  rw [SV.denL_agree hag l hl]
  show (w.heap.push _)[w.heap.size]? = _
  simp
end Go.Sy
