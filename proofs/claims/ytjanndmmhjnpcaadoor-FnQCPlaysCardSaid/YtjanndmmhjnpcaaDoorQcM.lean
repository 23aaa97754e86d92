/- Lists of numbers: what is put in, kept, left out. -/
import Derived.Test.YtjanndmmhjnpcaaDoorQcN
set_option autoImplicit true
set_option relaxedAutoImplicit true
set_option linter.unusedVariables false
set_option linter.unusedSimpArgs false
namespace Go.Proofs.YtjanndmmhjnpcaaDoor
open Go Go.Sy
theorem lst_len (A : Nat → Int) (n : Nat) : (lst A n).length = n := by simp [lst]
theorem lst_succ (A : Nat → Int) (n : Nat) : lst A (n + 1) = lst A n ++ [A n] := by simp [lst, List.range_succ]
theorem lst_get {A : Nat → Int} {n j : Nat} (hj : j < n) : (lst A n)[j]? = some (A j) := by simp [lst, hj]
theorem arr_get {l : List Int} {j : Nat} {x : Int} (h : l[j]? = some x) : arr l j = x := by simp [arr, List.getD_eq_getElem?_getD, h]
theorem arr_lst {A : Nat → Int} {n j : Nat} (hj : j < n) : arr (lst A n) j = A j := arr_get (lst_get hj)
theorem arr_out {l : List Int} {j : Nat} (h : l.length ≤ j) : arr l j = 0 := by simp [arr, List.getD_eq_getElem?_getD, List.getElem?_eq_none h]
theorem arr_app {l m : List Int} {j : Nat} : arr (l ++ m) j = if j < l.length then arr l j else arr m (j - l.length) := by
  simp only [arr, List.getD_eq_getElem?_getD, List.getElem?_append]
  split <;> rfl
theorem arr_mem {l : List Int} {j : Nat} (h : j < l.length) : arr l j ∈ l := by
  rw [arr_get (List.getElem?_eq_getElem h)]; exact List.getElem_mem h
theorem lst_arr (l : List Int) : lst (arr l) l.length = l := by
  apply List.ext_getElem?
  intro j
  by_cases h : j < l.length
  · rw [lst_get h, List.getElem?_eq_getElem h, arr_get (List.getElem?_eq_getElem h)]
  · rw [List.getElem?_eq_none (by rw [lst_len]; omega), List.getElem?_eq_none (by omega)]
theorem mem_lst {A : Nat → Int} {n : Nat} {x : Int} (h : x ∈ lst A n) : ∃ j, j < n ∧ A j = x := by
  simp only [lst, List.mem_map, List.mem_range] at h
  exact h
def Up (l : List Int) : Prop := l.Pairwise (· < ·) ∧ ∀ x ∈ l, 0 ≤ x ∧ x ≤ 255
theorem srt_lst {A : Nat → Int} {n : Nat} (h : Srt A n) : Up (lst A n) := by
  refine ⟨?_, fun x hx => ?_⟩
  · rw [List.pairwise_iff_getElem]
    intro i j hi hj hij
    rw [lst_len] at hi hj
    have e1 : (lst A n)[i] = A i := by simp [lst]
    have e2 : (lst A n)[j] = A j := by simp [lst]
    rw [e1, e2]; exact h.2 i j hij hj
  · obtain ⟨j, hj, rfl⟩ := mem_lst hx
    exact h.1 j hj
theorem srt_arr {l : List Int} (h : Up l) : Srt (arr l) l.length := by
  refine ⟨fun j hj => h.2 _ (arr_mem hj), fun i j hij hj => ?_⟩
  have := List.pairwise_iff_getElem.1 h.1 i j (by omega) hj hij
  rw [arr_get (List.getElem?_eq_getElem (by omega)), arr_get (List.getElem?_eq_getElem hj)]; exact this
theorem up_kq {l : List Int} (h : Up l) (p : Int) : Up (kq l p) := ⟨h.1.filter _, fun x hx => h.2 x (List.mem_filter.1 hx).1⟩
theorem kq_snoc (l : List Int) (p x : Int) : kq (l ++ [x]) p = if p ≤ x then kq l p ++ [x] else kq l p := by
  unfold kq
  rw [List.filter_append]
  by_cases h : p ≤ x <;> simp [h]
theorem gq_snoc (l : List Int) (p x : Int) : gq (l ++ [x]) p = if p ≤ x then gq l p else gq l p ++ [x] := by
  unfold gq
  rw [List.filter_append]
  by_cases h : p ≤ x
  · simp [h, Int.not_lt.2 h]
  · simp [h, Int.not_le.1 h]
theorem kq_all {l : List Int} {p : Int} (h : ∀ x ∈ l, p ≤ x) : kq l p = l ∧ gq l p = [] := by
  constructor
  · unfold kq; rw [List.filter_eq_self]; intro x hx; simpa using h x hx
  · unfold gq; rw [List.filter_eq_nil_iff]; intro x hx; simpa using h x hx
theorem putL_len (q : List Int) (s : Int) : (putL q s).length = putN (arr q) q.length s := lst_len _ _
theorem arr_putL {q : List Int} {s : Int} {j : Nat} (h : j < putN (arr q) q.length s) : arr (putL q s) j = putA (arr q) q.length s j := arr_lst h
theorem putN_pos (A : Nat → Int) (n : Nat) (s : Int) : 0 < putN A n s := by
  unfold putN
  split
  · rename_i h
    simp only [hasA, decide_eq_true_eq] at h
    omega
  · omega
theorem putN_le (A : Nat → Int) (n : Nat) (s : Int) : putN A n s ≤ n + 1 := by unfold putN; split <;> omega
theorem put_zero (A B : Nat → Int) (s : Int) : putN A 0 s = putN B 0 s ∧ putA A 0 s = putA B 0 s := by
  have h : ∀ C : Nat → Int, hasA C 0 s = false := fun C => by simp [hasA]
  unfold putN putA
  rw [h A, h B]
  refine ⟨rfl, ?_⟩
  show insA A 0 0 s = insA B 0 0 s
  funext j
  simp only [insA, Nat.not_lt_zero, if_false, Nat.le_zero_eq]
  split
  · rfl
  · rfl
theorem arr_tail (l : List Int) (j : Nat) : arr l.tail j = arr l (j + 1) := by
  simp only [arr, List.getD_eq_getElem?_getD, List.getElem?_tail]
theorem headD_arr (l : List Int) : l.headD 0 = arr l 0 := by cases l <;> rfl
theorem put_bd {K : List Int} {s : Int} (h : Up K) (h0 : 0 ≤ s) (h1 : s ≤ 255) (hp : 0 < (putL K s).length) : 0 ≤ putA (arr K) K.length s 0 ∧ putA (arr K) K.length s 0 ≤ 255 := by
  rw [putL_len] at hp
  unfold putA
  split
  · rename_i hh
    unfold putN at hp
    rw [if_pos hh] at hp
    exact h.2 _ (arr_mem hp)
  · unfold insA
    split
    · rename_i hk
      have := kx_le (arr K) s K.length
      exact h.2 _ (arr_mem (by omega))
    · split
      · exact ⟨h0, h1⟩
      · rename_i hk1 hk2
        exact absurd (Nat.le_zero.1 (Nat.not_lt.1 hk1)).symm hk2
end Go.Proofs.YtjanndmmhjnpcaaDoor
