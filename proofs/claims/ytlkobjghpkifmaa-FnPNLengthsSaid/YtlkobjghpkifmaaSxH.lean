/- Stores and new blocks. -/
import Derived.Test.YtlkobjghpkifmaaSxG
set_option linter.unusedVariables false
set_option linter.unusedSimpArgs false
namespace Go.Sx
open Go
variable {E : Env} {β : Nat → Nat} {P : Program} {w : World}

def wset (w : World) (b : Nat) (o : Obj) : World := { w with heap := w.heap.setIfInBounds b o }
theorem wset_wset (b : Nat) (o o' : Obj) : wset (wset w b o) b o' = wset w b o' := by simp [wset]
theorem wset_same {b : Nat} {o : Obj} (h : b < w.heap.size) : (wset w b o).heap[b]? = some o := by simp [wset, h]
theorem wset_other {b c : Nat} {o : Obj} (h : c ≠ b) : (wset w b o).heap[c]? = w.heap[c]? := by simp [wset, Array.getElem?_setIfInBounds, Ne.symm h]
theorem setCell_wset {b off : Nat} {cs : Array Value} {S : TypeId} {fz : Nat × Nat} (h : w.heap[b]? = some (.cells cs S fz)) (v : Value) :
    w.setCell ⟨b, off, none⟩ v = wset w b (.cells (cs.setIfInBounds off v) S fz) := by
  have hlt : b < w.heap.size := (Array.getElem?_eq_some_iff.1 h).1
  unfold World.setCell wset
  congr 1
  apply Array.ext_getElem?
  intro i
  rw [Array.getElem?_modify, Array.getElem?_setIfInBounds]
  by_cases hi : b = i
  · subst hi
    have hb := (Array.getElem?_eq_some_iff.1 h).2
    simp [hlt, hb]
  · simp [hi]
def SV.isCell : SV → Bool
  | .agg _ | .tup _ | .opq _ => false
  | _ => true
theorem isCell_ok {v : SV} (h : v.isCell = true) : (v.den E β).oneCell' = true := by
  cases v <;> simp [SV.isCell] at h <;> simp [SV.den, Value.oneCell']
theorem storeCells_ok {b off : Nat} {S : TypeId} : ∀ (vs : List SV) (l : List SV) (j : Nat) (w : World), w.heap[b]? = some (.cells (SV.denL E β l).toArray S (0, 0)) →
    off + j + vs.length ≤ l.length → vs.all SV.isCell = true →
    (storeCells ⟨b, off, none⟩ (SV.denL E β vs) j).run P w = .ok () (wset w b (.cells (SV.denL E β (putAll off l j vs)).toArray S (0, 0)))
  | [], l, j, w, h, _, _ => by
    have hlt : b < w.heap.size := (Array.getElem?_eq_some_iff.1 h).1
    have : wset w b (.cells (SV.denL E β l).toArray S (0, 0)) = w := by
      unfold wset
      have : w.heap.setIfInBounds b (.cells (SV.denL E β l).toArray S (0, 0)) = w.heap := by
        apply Array.ext_getElem?
        intro i
        rw [Array.getElem?_setIfInBounds]
        by_cases hi : b = i
        · subst hi
          have hb := (Array.getElem?_eq_some_iff.1 h).2
          simp [hlt, hb]
        · simp [hi]
      rw [this]
    simp [SV.denL, storeCells, putAll, this]
  | v :: r, l, j, w, h, hlen, hall => by
    simp only [List.all_cons, Bool.and_eq_true] at hall
    simp only [List.length_cons] at hlen
    have hlt : b < w.heap.size := (Array.getElem?_eq_some_iff.1 h).1
    have hcell : w.cell? ⟨b, off + j, none⟩ = some ((SV.denL E β l)[off + j]'(by rw [denL_length]; omega)) := by
      simp only [World.cell?, h]
      simp
    have hfz : w.frozen? ⟨b, off + j, none⟩ = false := by simp [World.frozen?, h]
    have h1 : (store (Addr.add ⟨b, off, none⟩ j) (v.den E β)).run P w = .ok () (wset w b (.cells (SV.denL E β (l.set (off + j) v)).toArray S (0, 0))) := by
      rw [addr_add, run_store P w _ _ _ (isCell_ok hall.1)]
      simp only [stored, hcell, hfz]
      rw [setCell_wset h, denL_set]
      simp
    simp only [SV.denL, storeCells, Sem.run_bind, h1, Result.andThen_ok, putAll]
    rw [storeCells_ok r (l.set (off + j) v) (j + 1) _ (wset_same hlt) (by simp; omega) hall.2, wset_wset]

/-- How a later symbolic heap stands to an earlier one; blocks of cells may have changed, new blocks may be there, all else is as it was. -/
structure Ext (h : List SBlk) (β : Nat → Nat) (w : World) (h' : List SBlk) (β' : Nat → Nat) (w' : World) : Prop where
  len : h.length ≤ h'.length
  agree : ∀ i, i < h.length → β' i = β i
  kind : ∀ i, i < h.length → isCells h' i = true → isCells h i = true
  fresh : ∀ i, h.length ≤ i → i < h'.length → w.heap.size ≤ β' i
  size : w.heap.size ≤ w'.heap.size
  same : ∀ b, b < w.heap.size → (∀ i, i < h.length → isCells h i = true → b ≠ β i) → w'.heap[b]? = w.heap[b]?
  os : w'.os = w.os
  tape : w'.tape = w.tape
  output : w'.output = w.output
theorem Ext.refl (h : List SBlk) (β : Nat → Nat) (w : World) : Ext h β w h β w :=
  ⟨Nat.le_refl _, fun _ _ => rfl, fun _ _ h => h, fun i h1 h2 => by omega, Nat.le_refl _, fun _ _ _ => rfl, rfl, rfl, rfl⟩
theorem Ext.trans {h1 h2 h3 : List SBlk} {β1 β2 β3 : Nat → Nat} {w1 w2 w3 : World} (a : Ext h1 β1 w1 h2 β2 w2) (b : Ext h2 β2 w2 h3 β3 w3) : Ext h1 β1 w1 h3 β3 w3 where
  len := Nat.le_trans a.len b.len
  agree i hi := by rw [b.agree i (Nat.lt_of_lt_of_le hi a.len), a.agree i hi]
  kind i hi h := a.kind i hi (b.kind i (Nat.lt_of_lt_of_le hi a.len) h)
  fresh i hl hg := by
    rcases Nat.lt_or_ge i h2.length with h | h
    · rw [b.agree i h]; exact a.fresh i hl h
    · exact Nat.le_trans a.size (b.fresh i h hg)
  size := Nat.le_trans a.size b.size
  same c hc hn := by
    rw [b.same c (Nat.lt_of_lt_of_le hc a.size), a.same c hc hn]
    intro i hi hk
    rcases Nat.lt_or_ge i h1.length with h | h
    · rw [a.agree i h]; exact hn i h (a.kind i h hk)
    · have := a.fresh i h hi; omega
  os := b.os.trans a.os
  tape := b.tape.trans a.tape
  output := b.output.trans a.output

def sStore (P : Program) (h : List SBlk) (T : TypeId) (x v : SV) : Option (List SBlk) :=
  match x with
  | .ptr b o =>
    match h[b]?, constRow o, sizeT P T, v.cells with
    | some (.cells l S), some p, some n, some vs =>
      if vs.length = n ∧ p + n ≤ l.length ∧ vs.all SV.isCell = true then some (h.set b (.cells (putAll p l 0 vs) S)) else none
    | _, _, _, _ => none
  | _ => none
theorem isCells_set {h : List SBlk} {b : Nat} {l : List SV} {S : TypeId} {i : Nat} (hb : isCells h b = true) (hi : isCells (h.set b (.cells l S)) i = true) : isCells h i = true := by
  by_cases hib : b = i
  · subst hib; exact hb
  · unfold isCells at *
    rw [List.getElem?_set_ne hib] at hi
    exact hi
theorem HOk.set {h : List SBlk} (hw : HOk E β h w) {b : Nat} {l l' : List SV} {S : TypeId} (hb : h[b]? = some (.cells l S)) :
    HOk E β (h.set b (.cells l' S)) (wset w (β b) (.cells (SV.denL E β l').toArray S (0, 0))) ∧ Ext h β w (h.set b (.cells l' S)) β (wset w (β b) (.cells (SV.denL E β l').toArray S (0, 0))) := by
  have hbl : b < h.length := (List.getElem?_eq_some_iff.1 hb).1
  have hsz : (wset w (β b) (.cells (SV.denL E β l').toArray S (0, 0))).heap.size = w.heap.size := by simp [wset]
  refine ⟨⟨fun i j hi hj => ?_, fun i hi => ?_, fun i s hs => ?_⟩, ⟨by simp, fun _ _ => rfl, fun i hi hk => ?_, fun i h1 h2 => ?_, by rw [hsz]; exact Nat.le_refl _, fun c hc hn => ?_, rfl, rfl, rfl⟩⟩
  · simp only [List.length_set] at hi hj; exact hw.inj i j hi hj
  · simp only [List.length_set] at hi; rw [hsz]; exact hw.lt i hi
  · by_cases hib : b = i
    · subst hib
      rw [List.getElem?_set_self hbl] at hs
      cases hs
      simp only [SBlk.ok]
      exact wset_same (hw.lt b hbl)
    · rw [List.getElem?_set_ne hib] at hs
      have hil : i < h.length := (List.getElem?_eq_some_iff.1 hs).1
      rw [wset_other (fun hh => hib (hw.inj b i hbl hil hh.symm))]
      exact hw.ok i s hs
  · exact isCells_set (by simp [isCells, hb]) hk
  · simp only [List.length_set] at h2; omega
  · exact wset_other (hn b hbl (by simp [isCells, hb]))
theorem sStore_ok {h h' : List SBlk} (hw : HOk E β h w) {T : TypeId} {x v : SV} (hr : sStore P h T x v = some h') :
    ∃ w', (Instr.storeAt T (x.den E β) (v.den E β)).run P w = .ok () w' ∧ HOk E β h' w' ∧ Ext h β w h' β w' := by
  unfold sStore at hr
  split at hr
  · rename_i b o
    split at hr
    · rename_i l S p n vs hb hp hn hvs
      split at hr
      · rename_i hc
        cases hr
        obtain ⟨h1, h2⟩ := HOk.set (l' := putAll p l 0 vs) hw hb
        refine ⟨_, ?_, h1, h2⟩
        have hblk := hw.ok b _ hb
        simp only [SBlk.ok] at hblk
        have hsz : (v.den E β).cells.size = n := by rw [cells_ok hvs]; simp [denL_length, hc.1]
        simp only [Instr.storeAt, SV.den, Instr.sureAddr, Sem.run_bind, Sem.run_pure, Result.andThen_ok, storeVar, sizeT_ok hn, hsz, constRow_ok hp]
        simp only [ne_eq, not_true_eq_false, if_false]
        rw [cells_ok hvs]
        have := storeCells_ok (E := E) (β := β) (P := P) (b := β b) (off := p) (S := S) vs l 0 w hblk (by omega) hc.2.2
        simpa using this
      · cases hr
    · cases hr
  · cases hr

def upB (β : Nat → Nat) (n m : Nat) (i : Nat) : Nat := if i = n then m else β i
theorem upB_self (β : Nat → Nat) (n m : Nat) : upB β n m n = m := by simp [upB]
theorem upB_ne {β : Nat → Nat} {n m i : Nat} (h : i ≠ n) : upB β n m i = β i := by simp [upB, h]
/-- A new block of cells. -/
theorem HOk.push {h : List SBlk} (hw : HOk E β h w) (hbnd : h.all (SBlk.bnd h.length) = true) {l : List SV} {S : TypeId} (hl : SV.bndL h.length l = true) :
    HOk E (upB β h.length w.heap.size) (h ++ [.cells l S]) (w.alloc (.cells (SV.denL E β l).toArray S)) ∧
    Ext h β w (h ++ [.cells l S]) (upB β h.length w.heap.size) (w.alloc (.cells (SV.denL E β l).toArray S)) := by
  have hag : ∀ i, i < h.length → upB β h.length w.heap.size i = β i := fun i hi => upB_ne (by omega)
  have hold : ∀ c, c < w.heap.size → (w.alloc (.cells (SV.denL E β l).toArray S)).heap[c]? = w.heap[c]? := fun c hc => by
    show (w.heap.push _)[c]? = _
    rw [Array.getElem?_push, if_neg (by omega)]
  refine ⟨⟨fun i j hi hj hij => ?_, fun i hi => ?_, fun i s hs => ?_⟩, ⟨by simp, hag, fun i hi hk => ?_, fun i h1 h2 => ?_, by simp, fun c hc hn => hold c hc, rfl, rfl, rfl⟩⟩
  · simp only [List.length_append, List.length_singleton] at hi hj
    by_cases h1 : i = h.length
    · by_cases h2 : j = h.length
      · omega
      · have := hw.lt j (by omega); rw [hag j (by omega), h1, upB_self] at hij; omega
    · by_cases h2 : j = h.length
      · have := hw.lt i (by omega); rw [hag i (by omega), h2, upB_self] at hij; omega
      · rw [hag i (by omega), hag j (by omega)] at hij; exact hw.inj i j (by omega) (by omega) hij
  · simp only [List.length_append, List.length_singleton] at hi
    by_cases h1 : i = h.length
    · rw [h1, upB_self]; simp
    · have := hw.lt i (by omega); rw [hag i (by omega)]; simp; omega
  · rcases Nat.lt_or_ge i h.length with h1 | h1
    · rw [List.getElem?_append_left h1] at hs
      have hsb : s.bnd h.length = true := List.all_eq_true.1 hbnd s (List.mem_of_getElem? hs)
      rw [hag i h1, SBlk.ok_agree hag s hsb, hold _ (hw.lt i h1)]
      exact hw.ok i s hs
    · have hi : i = h.length := by
        have := (List.getElem?_eq_some_iff.1 hs).1
        simp at this; omega
      subst hi
      rw [List.getElem?_append_right h1] at hs
      simp at hs
      subst hs
      rw [upB_self]
      simp only [SBlk.ok]
      rw [SV.denL_agree hag l hl]
      show (w.heap.push _)[w.heap.size]? = _
      simp
  · unfold isCells at hk ⊢
    rw [List.getElem?_append_left hi] at hk
    exact hk
  · simp only [List.length_append, List.length_singleton] at h2
    have : i = h.length := by omega
    rw [this, upB_self]
    exact Nat.le_refl _
end Go.Sx
