/- A drawn region inside a round, by an invariant over what has been carried out. -/
import Derived.OrdersIn
import Derived.OwnWalkIn
import Derived.Great.Frames
set_option autoImplicit true
set_option relaxedAutoImplicit true
set_option linter.unusedVariables false
set_option linter.unusedSimpArgs false
namespace Go.Proofs.Ytgianhjmjiiadaa
open Go
def aheadOk (ops : Array Oper) : Bool := (List.range ops.size).all fun j => ((ops[j]?).map fun o => o.after.all fun e => decide (e.on < j)).getD true
theorem aheadOk_spec {ops : Array Oper} (h : aheadOk ops = true) {j : Nat} {o : Oper} (ho : ops[j]? = some o) : ∀ e ∈ o.after, e.on < j := by
  have hlt : j < ops.size := (Array.getElem?_eq_some_iff.1 ho).1
  have := List.all_eq_true.1 h j (List.mem_range.2 hlt)
  rw [ho] at this
  simp at this
  intro e he
  obtain ⟨i, hi, rfl⟩ := Array.getElem_of_mem he
  exact this i hi
def Closed (ops : Array Oper) (listed : Array Bool) : Prop := ∀ j o, ops[j]? = some o → listed.getD j false = true → ∀ e ∈ o.after, Region.binds .any e = true → listed.getD e.on false = true
theorem getD_set_or {L : Array Bool} {i j : Nat} (h : (L.setIfInBounds i true).getD j false = true) : j = i ∨ L.getD j false = true := by
  by_cases hij : i = j
  · exact .inl hij.symm
  · rw [getD_set_ne false hij] at h; exact .inr h
theorem getD_set_keep {L : Array Bool} {i j : Nat} (h : L.getD j false = true) : (L.setIfInBounds i true).getD j false = true := by
  by_cases hij : i = j
  · subst hij
    have hlt : i < L.size := by
      rcases Nat.lt_or_ge i L.size with h' | h'
      · exact h'
      · simp [Array.getD, Nat.not_lt.2 h'] at h
    simp [Array.getD, hlt]
  · rw [getD_set_ne false hij]; exact h
theorem all_of_ready_nil {ops : Array Oper} {L : Array Bool} (ha : aheadOk ops = true) (hs : L.size = ops.size) (hr : Region.ready .any ops L = []) : ∀ j, j < ops.size → L.getD j false = true := by
  intro j
  induction j using Nat.strongRecOn with
  | ind j ih =>
    intro hj
    by_cases h : L.getD j false = true
    · exact h
    · exfalso
      have hjs : j < L.size := by omega
      have : j ∈ Region.ready .any ops L := mem_ready.2 ⟨by simp [Array.getD, hjs] at h ⊢; exact h, ops[j], by simp [hj], fun e he hb => by
        have := aheadOk_spec ha (j := j) (o := ops[j]) (by simp [hj]) e he
        exact ih e.on this (by omega)⟩
      rw [hr] at this; cases this
theorem wpAnyIn_inv {F : Fence} {n : Nat} {P : Program} {ops : Array Oper} {Q : Exit → Act → World → Prop} (S : Array Bool → Act → World → Prop) (ha : aheadOk ops = true)
    (hstep : ∀ i o, ops[i]? = some o → ∀ L a w, L.size = ops.size → Closed ops L → S L a w → L.getD i true = false → (∀ e ∈ o.after, Region.binds .any e = true → L.getD e.on false = true) → wpOpIn F n P ops Q i (S (L.setIfInBounds i true)) a w)
    (hdone : ∀ L a w, (∀ j, j < ops.size → L.getD j false = true) → S L a w → Q .normal a w) :
    ∀ (fuel : Nat) (L : Array Bool) (a : Act) (w : World), L.toList.count false ≤ fuel → L.size = ops.size → Closed ops L → S L a w → wpAnyIn F n P .any ops Q fuel L a w := by
  intro fuel
  induction fuel with
  | zero =>
    intro L a w hc hs hcl hS
    have h0 : L.toList.count false = 0 := by omega
    have hall : ∀ j, j < ops.size → L.getD j false = true := by
      intro j hj
      have hjs : j < L.size := by omega
      have hm : L[j] ∈ L.toList := by simp
      have hnf := List.count_eq_zero.1 h0
      simp only [Array.getD, hjs, dif_pos]
      cases hb : L[j] with
      | true => simpa using hb
      | false => rw [hb] at hm; exact absurd hm hnf
    refine ⟨?_, hdone L a w hall hS⟩
    cases hr : Region.ready .any ops L with
    | nil => rfl
    | cons x xs =>
      have hx : x ∈ Region.ready .any ops L := by rw [hr]; simp
      obtain ⟨h1, o, ho, _⟩ := mem_ready.1 hx
      have hlt : x < ops.size := (Array.getElem?_eq_some_iff.1 ho).1
      have := hall x hlt
      have hxs : x < L.size := by omega
      simp [Array.getD, hxs] at h1 this
      rw [h1] at this; cases this
  | succ fuel ih =>
    intro L a w hc hs hcl hS
    refine ⟨fun hr => hdone L a w (all_of_ready_nil ha hs hr) hS, fun i hi => ?_⟩
    obtain ⟨h1, o, ho, hd⟩ := mem_ready.1 hi
    have hlt : i < ops.size := (Array.getElem?_eq_some_iff.1 ho).1
    have his : i < L.size := by omega
    refine wpOpIn_mono (fun a' w' hS' => ih _ a' w' ?_ (by simpa using hs) ?_ hS') (hstep i o ho L a w hs hcl hS h1 hd)
    · have hf : L[i] = false := by simpa [Array.getD, his] using h1
      simp only [Array.setIfInBounds, his, dif_pos, Array.toList_set]
      rw [List.count_set (by simpa using his)]
      have : 0 < L.toList.count false := List.count_pos_iff.2 (by rw [← hf]; simp)
      simp [hf]
      have e0 : L.toList.count false = Array.count false L := by simp
      omega
    · intro j oj hoj hj e he hb
      refine getD_set_keep ?_
      rcases getD_set_or hj with rfl | hj
      · rw [ho] at hoj; cases hoj
        exact hd e he hb
      · exact hcl j oj hoj hj e he hb
theorem region_inv {F : Fence} {n : Nat} {P : Program} {ops : Array Oper} {Q : Exit → Act → World → Prop} {id : Nat} {a : Act} {w : World} (hm : P.follows .mixedOrders = true) (S : Array Bool → Act → World → Prop) (ha : aheadOk ops = true)
    (h0 : S (Array.replicate ops.size false) a w.drew)
    (hstep : ∀ i o, ops[i]? = some o → ∀ L a w, L.size = ops.size → Closed ops L → S L a w → L.getD i true = false → (∀ e ∈ o.after, Region.binds .any e = true → L.getD e.on false = true) → wpOpIn F n P ops Q i (S (L.setIfInBounds i true)) a w)
    (hdone : ∀ L a w, (∀ j, j < ops.size → L.getD j false = true) → S L a w → Q .normal a w) :
    (Code.region id ops true).wpIn F n P Q a w := by
  refine wpIn_region_any hm ?_
  refine wpAnyIn_inv S ha hstep hdone _ _ _ _ ?_ (by simp) ?_ h0
  · simp
  · intro j o ho hj
    simp [Array.getD] at hj
end Go.Proofs.Ytgianhjmjiiadaa
