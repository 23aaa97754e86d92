/- One number is put into a queue of numbers, where it belongs: the walk of put. -/
import Derived.Test.YtjanndmmhjnpcaaDoorQcI
import Derived.LoopTactic
set_option autoImplicit true
set_option relaxedAutoImplicit true
set_option linter.unusedVariables false
set_option linter.unusedSimpArgs false
namespace Go.Proofs.YtjanndmmhjnpcaaDoor
open Go Go.Sy Go.RowKit Go.Lib
theorem ut34 : Tryd.prog.underlying 34 = some (.slice 29) := by kernel_rfl
theorem ui29 : (Tryd.prog.info? 29).map (fun i => (i.zero, i.size, i.bytes)) = some (some (.int .u64 0), 1, 8) := by kernel_rfl
theorem ui29' : ∃ i, Tryd.prog.info? 29 = some i ∧ i.zero = some (.int .u64 0) ∧ i.size = 1 ∧ i.bytes = 8 := by
  have h := ui29
  cases hq : Tryd.prog.info? 29 with
  | none => rw [hq] at h; cases h
  | some i0 =>
    rw [hq] at h
    simp only [Option.map_some, Option.some.injEq, Prod.mk.injEq] at h
    exact ⟨i0, rfl, h.1, h.2.1, h.2.2⟩
theorem run_append_none (W : World) (b : Addr) (n c : Nat) (hnc : n ≤ c) (p : Option Addr) (c' : Nat) (ty : TypeId) :
    (Builtin.append_ #[34, 34] ty #[.slice (some b) n c, .slice p 0 c']).run Tryd.prog W = .ok (.slice (some b) n c) W := by
  obtain ⟨i, hi, hz, hs, hb⟩ := ui29'
  have u34 := run_underlying ut34
  have hf : (Builtin.firstCells i.size 0 (.slice p 0 c')).run Tryd.prog W = .ok #[] W := by
    cases p with
    | none => simpa using run_firstCells_none (P := Tryd.prog) W i.size 0 0 c'
    | some a => simpa using run_firstCells_some (P := Tryd.prog) W i.size 0 a 0 c' [] (by simp) (fun j v hj => by simp at hj)
  simp [Builtin.append_, u34, sizeOf, typeInfo, zeroValue, hi, hz, Builtin.lenOf, Question.forced, newRow, grownCap, hnc, hf]
  rfl
theorem u64cells (A : Nat → Int) (n : Nat) : ∃ cs : List Value, cs.length = n ∧ (∀ j, j < n → cs[j]? = some (.int .u64 (A j))) := ⟨(List.range n).map fun j => .int .u64 (A j), by simp, fun j hj => by simp [hj]⟩
def PutPost (m n : Nat) (A : Nat → Int) (s : Int) (w w' : World) : Prop :=
  ∃ (wB : World) (G : Nat) (ROW : Array Value), w.heap.size ≤ wB.heap.size ∧ (∀ k, k < w.heap.size → wB.heap[k]? = w.heap[k]?) ∧ wB.os = w.os ∧ wB.tape = w.tape ∧ wB.output = w.output ∧
    n + 1 ≤ G ∧ G ≤ maxLen ∧ ROW.size = G ∧ (∀ j, j < n + 1 → ROW[j]? = some (.int .u64 (insA A n (kx A s n) s j))) ∧
    w'.heap = ((wB.alloc (.cells ROW 29)).setCell ⟨m, 1, none⟩ (.slice (some ⟨wB.heap.size, 0, none⟩) (n + 1) G)).heap ∧ w'.os = wB.os ∧ w'.tape = wB.tape ∧ w'.output = wB.output
theorem ins_split {A : Nat → Int} {n k : Nat} {s : Int} (hk : k ≤ n) {ys xs : List Value} (hyl : ys.length = k) (hy : ∀ j, j < k → ys[j]? = some (.int .u64 (A j))) (hx : ∀ j, j < n - k → xs[j]? = some (.int .u64 (A (k + j)))) :
    ∀ j, j < n + 1 → (ys ++ (Value.int .u64 s :: xs))[j]? = some (.int .u64 (insA A n k s j)) := fun j hj => by
  unfold insA
  by_cases h1 : j < k
  · rw [List.getElem?_append_left (by omega), hy j h1, if_pos h1]
  · rw [List.getElem?_append_right (by omega), hyl, if_neg h1]
    by_cases h2 : j = k
    · subst h2; rw [Nat.sub_self, if_pos rfl]; rfl
    · obtain ⟨t, ht⟩ : ∃ t, j - k = t + 1 := ⟨j - k - 1, by omega⟩
      rw [ht, List.getElem?_cons_succ, hx t (by omega), if_neg h2, if_pos (by omega), show k + t = j - 1 by omega]
theorem appA (W : World) (B : Nat) (s : Int) (hB : W.cell? ⟨B, 0, none⟩ = some (.int .u64 s)) (p : Option Addr) (l c' : Nat) (xs : List Value) (hxl : xs.length = l) (hx : ∀ a, p = some a → ∀ j v, xs[j]? = some v → W.cell? (a.add j) = some v) (hp : p = none → l = 0) (hl : l ≤ 100000) :
    ∃ (q cA : Nat) (W2 : World), (∀ ty, (Builtin.append_ #[34, 34] ty #[.slice (some ⟨B, 0, none⟩) 1 1, .slice p l c']).run Tryd.prog W = .ok (.slice (some ⟨q, 0, none⟩) (1 + l) cA) W2) ∧
      (∀ j v, (Value.int .u64 s :: xs)[j]? = some v → W2.cell? ⟨q, j, none⟩ = some v) ∧ W.heap.size ≤ W2.heap.size ∧ (∀ k, k < W.heap.size → W2.heap[k]? = W.heap[k]?) ∧ W2.os = W.os ∧ W2.tape = W.tape ∧ W2.output = W.output := by
  rcases Nat.eq_zero_or_pos l with h0 | h0
  · subst h0
    have hx0 : xs = [] := List.length_eq_zero_iff.1 hxl
    subst hx0
    refine ⟨B, 1, W, fun ty => run_append_none W ⟨B, 0, none⟩ 1 1 (Nat.le_refl _) p c' ty, fun j v hj => ?_, Nat.le_refl _, fun _ _ => rfl, rfl, rfl, rfl⟩
    cases j with
    | zero =>
      simp only [List.getElem?_cons_zero, Option.some.injEq] at hj
      rw [← hj]; exact hB
    | succ j => simp at hj
  · obtain ⟨a, rfl⟩ : ∃ a, p = some a := by
      cases p with
      | none => have := hp rfl; omega
      | some a => exact ⟨a, rfl⟩
    obtain ⟨i, hi, hz, hs, hb⟩ := ui29'
    have hr := fun ty => run_append_grow (P := Tryd.prog) W 34 ty 29 i (.int .u64 0) ut34 hi hz ⟨B, 0, none⟩ 1 1 [.int .u64 s] (by simp [hs]) (fun j v hj => by
      cases j with
      | zero => simp only [List.getElem?_cons_zero, Option.some.injEq] at hj; rw [← hj]; exact hB
      | succ j => simp at hj) a l c' xs (by rw [hxl, hs, Nat.mul_one]) (hx a rfl) (by omega) (by omega) (growslice_fits (by omega) (by rw [hb]; omega))
    refine ⟨W.heap.size, _, _, hr, fun j v hj => ?_, by simp only [World.drew, World.alloc, Array.size_push]; omega, fun k hk => ?_, rfl, rfl, rfl⟩
    · rw [World.cell?_alloc_at (w := W.drew) _ _ W.heap.size j rfl]
      have hjl : j < 1 + l := by
        have := (List.getElem?_eq_some_iff.1 hj).1
        simp [hxl] at this; omega
      rw [Array.getElem?_append_left (by simp [hxl]; omega)]
      rw [← hj]
      simp
    · simp only [World.drew, World.alloc]
      rw [Array.getElem?_push_lt hk, Array.getElem?_eq_getElem hk]
theorem appB (W : World) (p : Option Addr) (k : Nat) (ys : List Value) (hyl : ys.length = k) (hy : ∀ a, p = some a → ∀ j v, ys[j]? = some v → W.cell? (a.add j) = some v) (hp : p = none → k = 0) (q cA l : Nat) (zs : List Value) (hzl : zs.length = l) (h0 : 0 < l)
    (hz' : ∀ j v, zs[j]? = some v → W.cell? ⟨q, j, none⟩ = some v) (hkl : k + l ≤ 200000) :
    ∃ (G : Nat) (ROW : Array Value), (∀ ty, (Builtin.append_ #[34, 34] ty #[.slice p k k, .slice (some ⟨q, 0, none⟩) l cA]).run Tryd.prog W = .ok (.slice (some ⟨W.heap.size, 0, none⟩) (k + l) G) (W.drew.alloc (.cells ROW 29))) ∧
      k + l ≤ G ∧ G ≤ maxLen ∧ ROW.size = G ∧ ∀ j, j < k + l → ROW[j]? = (ys ++ zs)[j]? := by
  obtain ⟨i, hi, hz, hs, hb⟩ := ui29'
  have hz2 : ∀ j v, zs[j]? = some v → W.cell? ((⟨q, 0, none⟩ : Addr).add j) = some v := fun j v hj => by rw [Addr.add_lit, Nat.zero_add]; exact hz' j v hj
  cases p with
  | none =>
    have hk := hp rfl
    subst hk
    have hy0 : ys = [] := List.length_eq_zero_iff.1 hyl
    subst hy0
    have hr := fun ty => run_append_nil (P := Tryd.prog) W 34 ty 29 i (.int .u64 0) ut34 hi hz ⟨q, 0, none⟩ l cA zs (by rw [hzl, hs, Nat.mul_one]) hz2 h0 (by omega) (by rw [hb]; omega)
    simp only [Nat.zero_add]
    refine ⟨_, _, hr, grownCap_ge W _ _ _, grownCap_le_maxLen W _ _ _ (by unfold maxLen; omega), ?_, fun j hj => ?_⟩
    · have := grownCap_ge W l 0 29
      simp only [Builtin.zeroCells, Array.size_append, List.size_toArray, hzl]
      simp [Value.cells]; omega
    · rw [Array.getElem?_append_left (by simp [hzl]; omega)]; simp
  | some a =>
    have hr := fun ty => run_append_grow (P := Tryd.prog) W 34 ty 29 i (.int .u64 0) ut34 hi hz a k k ys (by rw [hyl, hs, Nat.mul_one]) (hy a rfl) ⟨q, 0, none⟩ l cA zs (by rw [hzl, hs, Nat.mul_one]) hz2 (by omega) (by omega) (growslice_fits (by omega) (by rw [hb]; omega))
    refine ⟨_, _, hr, grownCap_ge W _ _ _, grownCap_le_maxLen W _ _ _ (by unfold maxLen; omega), ?_, fun j hj => ?_⟩
    · have := grownCap_ge W (k + l) k 29
      simp only [Builtin.zeroCells, Array.size_append, List.size_toArray, hzl, hyl]
      simp [Value.cells]; omega
    · rw [Array.getElem?_append_left (by simp [hzl, hyl]; omega)]; simp
theorem step_run2 {P : Program} {ops : Array Oper} {o : Oper} {a : Act} {w : World} {K : Act → World → Prop} {Q : Exit → Act → World → Prop} {E : Prop}
    (hg : o.guard = none) (d x : Operand) (dT sT : TypeId) (hop : o.op = Op.call { callee := Callee.builtin Builtin.append, args := #[d, x], argTypes := #[dT, sT] })
    (v u : Value) (hd : a.eval d = v) (hx : a.eval x = u) {v' : Value} {w' : World} (hr : (Builtin.append_ #[dT, sT] o.type #[v, u]).run P w = .ok v' w') (hK : K (a.put o.dst v') w') :
    if Region.wanted o (yielded ops a.tmps) = true then Oper.wp P o a w K Q else E := by
  have hw : Region.wanted o (yielded ops a.tmps) = true := by simp [Region.wanted, hg]
  rw [if_pos hw]
  unfold Oper.wp
  simp [execOp, hop, resolve, invoke, builtin, hd, hx, hr, Result.andThen]
  exact hK
set_option maxHeartbeats 4000000 in
set_option maxRecDepth 100000 in
theorem put_have (m g off n c : Nat) (s : Int) (A : Nat → Int) (w : World) (hn : n ≤ 100000)
    (hm : w.cell? ⟨m, 1, none⟩ = some (.slice (some ⟨g, off, none⟩) n c)) (hq : ∀ j, j < n → w.cell? ⟨g, off + j, none⟩ = some (.int .u64 (A j))) (hh : hasA A n s = true) :
    Calls Tryd.prog 40 #[.pointer (some ⟨m, 0, none⟩), .int .u64 s] w fun e w' => e = .returned (.tuple #[]) ∧ w' = w := by
  have t34 := ut34; have t3 := t3; have t4 := t4
  have u34 := run_underlying t34; have u3 := run_underlying t3; have u4 := run_underlying t4
  have hh' : kx A s n < n ∧ A (kx A s n) = s := by simpa [hasA] using hh
  go_enter Tryd.func40, Tryd.ntmps40
  go_wp2
  go_loop [4] (fun i => ∃ k : Nat, k ≤ kx A s n ∧ i = .int .i64 k) (fun i => n - (RowKit.intOf i).toNat)
  case atStart => exact ⟨0, Nat.zero_le _, rfl⟩
  case round =>
    obtain ⟨k, hk, rfl⟩ := hrel
    have hkl := kx_le A s n
    have hcell : k < n → w.cell? ⟨g, off + k, none⟩ = some (.int .u64 (A k)) := fun h => hq k h
    go_wp2
    case roundEnd =>
      rename_i h1 h2
      refine ⟨⟨k + 1, kx_step hk (by omega) (by omega), by simp⟩, ?_⟩
      simp only [RowKit.intOf]; omega
    · have h1 : k < n := by omega
      have h2 : s ≤ A k := by assumption
      have h3 : ¬ ((k : Int) = (n : Int)) := by omega
      have h4 : ((k : Int) == (n : Int)) = true ∨ (A k != s) = true := by assumption
      have := kx_at hk h1 h2
      rw [this] at hh'
      simp [h3, hh'.2] at h4
    · go_end0
      exact ⟨rfl, rfl⟩
set_option maxHeartbeats 4000000 in
set_option maxRecDepth 100000 in
theorem put_new (m g off n c : Nat) (s : Int) (A : Nat → Int) (w : World) (hn : n ≤ 100000) (hnc : n ≤ c) (hc : c ≤ maxLen)
    (hmg : m ≠ g) (hmw : m < w.heap.size) (hgw : g < w.heap.size) (hfz : w.frozen? ⟨m, 1, none⟩ = false)
    (hm : w.cell? ⟨m, 1, none⟩ = some (.slice (some ⟨g, off, none⟩) n c)) (hq : ∀ j, j < n → w.cell? ⟨g, off + j, none⟩ = some (.int .u64 (A j))) (hh : hasA A n s = false) :
    Calls Tryd.prog 40 #[.pointer (some ⟨m, 0, none⟩), .int .u64 s] w fun e w' => e = .returned (.tuple #[]) ∧ PutPost m n A s w w' := by
  have t34 := ut34; have t3 := t3; have t4 := t4
  have u34 := run_underlying t34; have u3 := run_underlying t3; have u4 := run_underlying t4
  have mixed : Tryd.prog.follows .mixedOrders = true := by kernel_rfl
  have hh' : ¬ (kx A s n < n ∧ A (kx A s n) = s) := by simpa [hasA] using hh
  have hc64 : c ≤ 9223372036854775807 := hc
  go_enter Tryd.func40, Tryd.ntmps40
  go_wp2
  go_loop [4] (fun i => ∃ k : Nat, k ≤ kx A s n ∧ i = .int .i64 k) (fun i => n - (RowKit.intOf i).toNat)
  case atStart => exact ⟨0, Nat.zero_le _, rfl⟩
  case round =>
    obtain ⟨k, hk, rfl⟩ := hrel
    have hkl := kx_le A s n
    have hcell : k < n → w.cell? ⟨g, off + k, none⟩ = some (.int .u64 (A k)) := fun h => hq k h
    have hkc : k ≤ c := by omega
    have hkn : k ≤ n := by omega
    go_wp2
    case roundEnd =>
      rename_i h1 h2
      refine ⟨⟨k + 1, kx_step hk (by omega) (by omega), by simp⟩, ?_⟩
      simp only [RowKit.intOf]; omega
    · have h1 : k < n := by omega
      have hkx : kx A s n = k := kx_at hk (by omega) (by assumption)
      have hck : ¬ (c = k) := by omega
      obtain ⟨ys, hyl, hyc⟩ := u64cells A k
      obtain ⟨xs, hxl, hxc⟩ := u64cells (fun j => A (k + j)) (n - k)
      obtain ⟨q, cA, W2, hrA, hW2c, hW2s, hW2h, hW2o, hW2t, hW2p⟩ := appA (w.alloc (.cells #[.int .u64 s] 29)).drew w.heap.size s (World.cell?_alloc_at (w := w) _ _ w.heap.size 0 rfl) (some ⟨g, off + k, none⟩) (n - k) (c - k) xs hxl (fun a ha j v hj => by
        cases ha
        have hjl : j < n - k := by rw [← hxl]; exact (List.getElem?_eq_some_iff.1 hj).1
        rw [Addr.add_lit]
        rw [hxc j hjl] at hj
        rw [← hj, Nat.add_assoc, ← hq (k + j) (by omega)]
        exact World.cell?_alloc_past (w := w) _ g _ hgw) (fun h => by cases h) (by omega)
      obtain ⟨G, ROW, hrB, hG1, hG2, hR1, hR2⟩ := appB W2 (some ⟨g, off, none⟩) k ys hyl (fun a ha j v hj => by
        cases ha
        have hjl : j < k := by rw [← hyl]; exact (List.getElem?_eq_some_iff.1 hj).1
        rw [Addr.add_lit]
        rw [hyc j hjl] at hj
        rw [World.cell?_of_block (a := ⟨g, off + j, none⟩) (hW2h g (by simp only [World.drew, World.alloc, Array.size_push]; omega)), ← hj, ← hq j (by omega)]
        exact World.cell?_alloc_past (w := w) _ g _ hgw) (fun h => by cases h) q cA (1 + (n - k)) (.int .u64 s :: xs) (by simp [hxl]; try omega) (by omega) hW2c (by omega)
      have hkn1 : k + (1 + (n - k)) = n + 1 := by omega
      have hblk : (W2.alloc (.cells ROW 29)).heap[m]? = w.heap[m]? := by
        simp only [World.alloc]
        rw [Array.getElem?_push_lt (by simp only [World.drew, World.alloc, Array.size_push] at hW2s; omega), ← Array.getElem?_eq_getElem, hW2h m (by simp only [World.drew, World.alloc, Array.size_push]; omega)]
        simp only [World.drew, World.alloc]
        rw [Array.getElem?_push_lt hmw, Array.getElem?_eq_getElem hmw]
      have hb2 : W2.heap[m]? = w.heap[m]? := by
        rw [hW2h m (by simp only [World.drew, World.alloc, Array.size_push]; omega)]
        simp only [World.drew, World.alloc]
        rw [Array.getElem?_push_lt hmw, Array.getElem?_eq_getElem hmw]
      have hc2 : W2.cell? ⟨m, 1, none⟩ = some (.slice (some ⟨g, off, none⟩) n c) := by rw [World.cell?_of_block (a := ⟨m, 1, none⟩) hb2]; exact hm
      have hcW : (W2.alloc (.cells ROW 29)).cell? ⟨m, 1, none⟩ = some (.slice (some ⟨g, off, none⟩) n c) := by rw [World.cell?_of_block (a := ⟨m, 1, none⟩) hblk]; exact hm
      have hfW : (W2.alloc (.cells ROW 29)).frozen? ⟨m, 1, none⟩ = false := by rw [World.frozen?_of_block (a := ⟨m, 1, none⟩) hblk]; exact hfz
      have fin : ∀ w' : World, w'.heap = ((W2.alloc (.cells ROW 29)).setCell ⟨m, 1, none⟩ (.slice (some ⟨W2.heap.size, 0, none⟩) (n + 1) G)).heap → w'.os = W2.os → w'.tape = W2.tape → w'.output = W2.output → PutPost m n A s w w' := fun w' e1 e2 e3 e4 => by
        rw [hkn1] at hG1 hR2
        refine ⟨W2, G, ROW, ?_, fun t ht => ?_, hW2o, hW2t, hW2p, hG1, hG2, hR1, fun j hj => ?_, e1, e2, e3, e4⟩
        · simp only [World.drew, World.alloc, Array.size_push] at hW2s; omega
        · rw [hW2h t (by simp only [World.drew, World.alloc, Array.size_push]; omega)]
          simp only [World.drew, World.alloc]
          rw [Array.getElem?_push_lt ht, Array.getElem?_eq_getElem ht]
        · rw [hR2 j hj, hkx]
          exact ins_split hkn hyl hyc hxc j hj
      clear hq hcell hyc hxc hG1 hG2 hR1 hR2 hW2c hW2s hW2h hW2o hW2t hW2p hblk hb2 hkx
      go_region_law_o (first | refine step_run2 rfl _ _ 34 34 rfl _ _ (by simp [Act.eval, Act.put]) (by simp [Act.eval, Act.put]) (hrA _) ?_ | refine step_run2 rfl _ _ 34 34 rfl _ _ (by simp [Act.eval, Act.put]) (by simp [Act.eval, Act.put]) (hrB _) ?_)
      all_goals go_end0
      all_goals exact ⟨rfl, fin _ rfl rfl rfl rfl⟩
    · have h2 : s ≤ A k := by assumption
      have hlt : k < n := by assumption
      have hkx := kx_at hk hlt h2
      have h4 : ((k : Int) == (n : Int)) = false ∧ (A k != s) = false := by assumption
      exact (hh' (by rw [hkx]; exact ⟨hlt, by simpa using h4.2⟩)).elim
    · have h1 : n = k := by omega
      subst h1
      by_cases hck : c = n
      · have hkx : kx A s n = n := by omega
        obtain ⟨ys, hyl, hyc⟩ := u64cells A n
        obtain ⟨xs, hxl, hxc⟩ := u64cells (fun j => A (n + j)) 0
        obtain ⟨q, cA, W2, hrA, hW2c, hW2s, hW2h, hW2o, hW2t, hW2p⟩ := appA (w.alloc (.cells #[.int .u64 s] 29)).drew w.heap.size s (World.cell?_alloc_at (w := w) _ _ w.heap.size 0 rfl) (some ⟨g, off, none⟩) 0 0 xs hxl (fun a ha j v hj => by
          have : xs = [] := List.length_eq_zero_iff.1 (by omega)
          subst this; simp at hj) (fun h => by cases h) (by omega)
        obtain ⟨G, ROW, hrB, hG1, hG2, hR1, hR2⟩ := appB W2 (some ⟨g, off, none⟩) n ys hyl (fun a ha j v hj => by
          cases ha
          have hjl : j < n := by rw [← hyl]; exact (List.getElem?_eq_some_iff.1 hj).1
          rw [Addr.add_lit]
          rw [hyc j hjl] at hj
          rw [World.cell?_of_block (a := ⟨g, off + j, none⟩) (hW2h g (by simp only [World.drew, World.alloc, Array.size_push]; omega)), ← hj, ← hq j (by omega)]
          exact World.cell?_alloc_past (w := w) _ g _ hgw) (fun h => by cases h) q cA (1 + 0) (.int .u64 s :: xs) (by simp [hxl]; try omega) (by omega) hW2c (by omega)
        have hkn1 : n + (1 + 0) = n + 1 := by omega
        have hblk : (W2.alloc (.cells ROW 29)).heap[m]? = w.heap[m]? := by
          simp only [World.alloc]
          rw [Array.getElem?_push_lt (by simp only [World.drew, World.alloc, Array.size_push] at hW2s; omega), ← Array.getElem?_eq_getElem, hW2h m (by simp only [World.drew, World.alloc, Array.size_push]; omega)]
          simp only [World.drew, World.alloc]
          rw [Array.getElem?_push_lt hmw, Array.getElem?_eq_getElem hmw]
        have hb2 : W2.heap[m]? = w.heap[m]? := by
          rw [hW2h m (by simp only [World.drew, World.alloc, Array.size_push]; omega)]
          simp only [World.drew, World.alloc]
          rw [Array.getElem?_push_lt hmw, Array.getElem?_eq_getElem hmw]
        have hc2 : W2.cell? ⟨m, 1, none⟩ = some (.slice (some ⟨g, off, none⟩) n c) := by rw [World.cell?_of_block (a := ⟨m, 1, none⟩) hb2]; exact hm
        have hcW : (W2.alloc (.cells ROW 29)).cell? ⟨m, 1, none⟩ = some (.slice (some ⟨g, off, none⟩) n c) := by rw [World.cell?_of_block (a := ⟨m, 1, none⟩) hblk]; exact hm
        have hfW : (W2.alloc (.cells ROW 29)).frozen? ⟨m, 1, none⟩ = false := by rw [World.frozen?_of_block (a := ⟨m, 1, none⟩) hblk]; exact hfz
        have fin : ∀ w' : World, w'.heap = ((W2.alloc (.cells ROW 29)).setCell ⟨m, 1, none⟩ (.slice (some ⟨W2.heap.size, 0, none⟩) (n + 1) G)).heap → w'.os = W2.os → w'.tape = W2.tape → w'.output = W2.output → PutPost m n A s w w' := fun w' e1 e2 e3 e4 => by
          rw [hkn1] at hG1 hR2
          refine ⟨W2, G, ROW, ?_, fun t ht => ?_, hW2o, hW2t, hW2p, hG1, hG2, hR1, fun j hj => ?_, e1, e2, e3, e4⟩
          · simp only [World.drew, World.alloc, Array.size_push] at hW2s; omega
          · rw [hW2h t (by simp only [World.drew, World.alloc, Array.size_push]; omega)]
            simp only [World.drew, World.alloc]
            rw [Array.getElem?_push_lt ht, Array.getElem?_eq_getElem ht]
          · rw [hR2 j hj, hkx]
            exact ins_split (Nat.le_refl _) hyl hyc (fun j hj => absurd hj (by omega)) j hj
        clear hq hcell hyc hxc hG1 hG2 hR1 hR2 hW2c hW2s hW2h hW2o hW2t hW2p hblk hb2 hkx
        go_region_law_o (first | refine step_run2 rfl _ _ 34 34 rfl _ _ (by simp [Act.eval, Act.put]) (by simp [Act.eval, Act.put]) (hrA _) ?_ | refine step_run2 rfl _ _ 34 34 rfl _ _ (by simp [Act.eval, Act.put]) (by simp [Act.eval, Act.put]) (hrB _) ?_)
        all_goals go_end0
        all_goals exact ⟨rfl, fin _ rfl rfl rfl rfl⟩
      · have hkx : kx A s n = n := by omega
        obtain ⟨ys, hyl, hyc⟩ := u64cells A n
        obtain ⟨xs, hxl, hxc⟩ := u64cells (fun j => A (n + j)) 0
        obtain ⟨q, cA, W2, hrA, hW2c, hW2s, hW2h, hW2o, hW2t, hW2p⟩ := appA (w.alloc (.cells #[.int .u64 s] 29)).drew w.heap.size s (World.cell?_alloc_at (w := w) _ _ w.heap.size 0 rfl) (some ⟨g, off + n, none⟩) 0 (c - n) xs hxl (fun a ha j v hj => by
          have : xs = [] := List.length_eq_zero_iff.1 (by omega)
          subst this; simp at hj) (fun h => by cases h) (by omega)
        obtain ⟨G, ROW, hrB, hG1, hG2, hR1, hR2⟩ := appB W2 (some ⟨g, off, none⟩) n ys hyl (fun a ha j v hj => by
          cases ha
          have hjl : j < n := by rw [← hyl]; exact (List.getElem?_eq_some_iff.1 hj).1
          rw [Addr.add_lit]
          rw [hyc j hjl] at hj
          rw [World.cell?_of_block (a := ⟨g, off + j, none⟩) (hW2h g (by simp only [World.drew, World.alloc, Array.size_push]; omega)), ← hj, ← hq j (by omega)]
          exact World.cell?_alloc_past (w := w) _ g _ hgw) (fun h => by cases h) q cA (1 + 0) (.int .u64 s :: xs) (by simp [hxl]; try omega) (by omega) hW2c (by omega)
        have hkn1 : n + (1 + 0) = n + 1 := by omega
        have hblk : (W2.alloc (.cells ROW 29)).heap[m]? = w.heap[m]? := by
          simp only [World.alloc]
          rw [Array.getElem?_push_lt (by simp only [World.drew, World.alloc, Array.size_push] at hW2s; omega), ← Array.getElem?_eq_getElem, hW2h m (by simp only [World.drew, World.alloc, Array.size_push]; omega)]
          simp only [World.drew, World.alloc]
          rw [Array.getElem?_push_lt hmw, Array.getElem?_eq_getElem hmw]
        have hb2 : W2.heap[m]? = w.heap[m]? := by
          rw [hW2h m (by simp only [World.drew, World.alloc, Array.size_push]; omega)]
          simp only [World.drew, World.alloc]
          rw [Array.getElem?_push_lt hmw, Array.getElem?_eq_getElem hmw]
        have hc2 : W2.cell? ⟨m, 1, none⟩ = some (.slice (some ⟨g, off, none⟩) n c) := by rw [World.cell?_of_block (a := ⟨m, 1, none⟩) hb2]; exact hm
        have hcW : (W2.alloc (.cells ROW 29)).cell? ⟨m, 1, none⟩ = some (.slice (some ⟨g, off, none⟩) n c) := by rw [World.cell?_of_block (a := ⟨m, 1, none⟩) hblk]; exact hm
        have hfW : (W2.alloc (.cells ROW 29)).frozen? ⟨m, 1, none⟩ = false := by rw [World.frozen?_of_block (a := ⟨m, 1, none⟩) hblk]; exact hfz
        have fin : ∀ w' : World, w'.heap = ((W2.alloc (.cells ROW 29)).setCell ⟨m, 1, none⟩ (.slice (some ⟨W2.heap.size, 0, none⟩) (n + 1) G)).heap → w'.os = W2.os → w'.tape = W2.tape → w'.output = W2.output → PutPost m n A s w w' := fun w' e1 e2 e3 e4 => by
          rw [hkn1] at hG1 hR2
          refine ⟨W2, G, ROW, ?_, fun t ht => ?_, hW2o, hW2t, hW2p, hG1, hG2, hR1, fun j hj => ?_, e1, e2, e3, e4⟩
          · simp only [World.drew, World.alloc, Array.size_push] at hW2s; omega
          · rw [hW2h t (by simp only [World.drew, World.alloc, Array.size_push]; omega)]
            simp only [World.drew, World.alloc]
            rw [Array.getElem?_push_lt ht, Array.getElem?_eq_getElem ht]
          · rw [hR2 j hj, hkx]
            exact ins_split (Nat.le_refl _) hyl hyc (fun j hj => absurd hj (by omega)) j hj
        clear hq hcell hyc hxc hG1 hG2 hR1 hR2 hW2c hW2s hW2h hW2o hW2t hW2p hblk hb2 hkx
        go_region_law_o (first | refine step_run2 rfl _ _ 34 34 rfl _ _ (by simp [Act.eval, Act.put]) (by simp [Act.eval, Act.put]) (hrA _) ?_ | refine step_run2 rfl _ _ 34 34 rfl _ _ (by simp [Act.eval, Act.put]) (by simp [Act.eval, Act.put]) (hrB _) ?_)
        all_goals go_end0
        all_goals exact ⟨rfl, fin _ rfl rfl rfl rfl⟩
set_option maxHeartbeats 4000000 in
set_option maxRecDepth 100000 in
theorem put_nil (m : Nat) (s : Int) (A : Nat → Int) (w : World) (hmw : m < w.heap.size) (hfz : w.frozen? ⟨m, 1, none⟩ = false)
    (hm : w.cell? ⟨m, 1, none⟩ = some (.slice none 0 0)) :
    Calls Tryd.prog 40 #[.pointer (some ⟨m, 0, none⟩), .int .u64 s] w fun e w' => e = .returned (.tuple #[]) ∧ PutPost m 0 A s w w' := by
  have t34 := ut34; have t3 := t3; have t4 := t4
  have u34 := run_underlying t34; have u3 := run_underlying t3; have u4 := run_underlying t4
  have mixed : Tryd.prog.follows .mixedOrders = true := by kernel_rfl
  go_enter Tryd.func40, Tryd.ntmps40
  go_wp2
  go_loop [4] (fun i => i = .int .i64 0) (fun i => 0)
  case atStart => rfl
  case round =>
    subst hrel
    go_wp2
    · have hkn : 0 ≤ 0 := by omega
      have hkx : kx A s 0 = 0 := rfl
      obtain ⟨ys, hyl, hyc⟩ := u64cells A 0
      obtain ⟨xs, hxl, hxc⟩ := u64cells (fun j => A (0 + j)) 0
      obtain ⟨q, cA, W2, hrA, hW2c, hW2s, hW2h, hW2o, hW2t, hW2p⟩ := appA (w.alloc (.cells #[.int .u64 s] 29)).drew w.heap.size s (World.cell?_alloc_at (w := w) _ _ w.heap.size 0 rfl) none 0 0 xs hxl (fun a ha j v hj => by
        cases ha) (fun _ => by omega) (by omega)
      obtain ⟨G, ROW, hrB, hG1, hG2, hR1, hR2⟩ := appB W2 none 0 ys hyl (fun a ha j v hj => by
        cases ha) (fun _ => rfl) q cA (1 + 0) (.int .u64 s :: xs) (by simp [hxl]; try omega) (by omega) hW2c (by omega)
      have hkn1 : 0 + (1 + 0) = 0 + 1 := by omega
      have hblk : (W2.alloc (.cells ROW 29)).heap[m]? = w.heap[m]? := by
        simp only [World.alloc]
        rw [Array.getElem?_push_lt (by simp only [World.drew, World.alloc, Array.size_push] at hW2s; omega), ← Array.getElem?_eq_getElem, hW2h m (by simp only [World.drew, World.alloc, Array.size_push]; omega)]
        simp only [World.drew, World.alloc]
        rw [Array.getElem?_push_lt hmw, Array.getElem?_eq_getElem hmw]
      have hb2 : W2.heap[m]? = w.heap[m]? := by
        rw [hW2h m (by simp only [World.drew, World.alloc, Array.size_push]; omega)]
        simp only [World.drew, World.alloc]
        rw [Array.getElem?_push_lt hmw, Array.getElem?_eq_getElem hmw]
      have hc2 : W2.cell? ⟨m, 1, none⟩ = some (.slice none 0 0) := by rw [World.cell?_of_block (a := ⟨m, 1, none⟩) hb2]; exact hm
      have hcW : (W2.alloc (.cells ROW 29)).cell? ⟨m, 1, none⟩ = some (.slice none 0 0) := by rw [World.cell?_of_block (a := ⟨m, 1, none⟩) hblk]; exact hm
      have hfW : (W2.alloc (.cells ROW 29)).frozen? ⟨m, 1, none⟩ = false := by rw [World.frozen?_of_block (a := ⟨m, 1, none⟩) hblk]; exact hfz
      have fin : ∀ w' : World, w'.heap = ((W2.alloc (.cells ROW 29)).setCell ⟨m, 1, none⟩ (.slice (some ⟨W2.heap.size, 0, none⟩) (0 + 1) G)).heap → w'.os = W2.os → w'.tape = W2.tape → w'.output = W2.output → PutPost m 0 A s w w' := fun w' e1 e2 e3 e4 => by
        rw [hkn1] at hG1 hR2
        refine ⟨W2, G, ROW, ?_, fun t ht => ?_, hW2o, hW2t, hW2p, hG1, hG2, hR1, fun j hj => ?_, e1, e2, e3, e4⟩
        · simp only [World.drew, World.alloc, Array.size_push] at hW2s; omega
        · rw [hW2h t (by simp only [World.drew, World.alloc, Array.size_push]; omega)]
          simp only [World.drew, World.alloc]
          rw [Array.getElem?_push_lt ht, Array.getElem?_eq_getElem ht]
        · rw [hR2 j hj, hkx]
          exact ins_split hkn hyl hyc hxc j hj
      clear hyc hxc hG1 hG2 hR1 hR2 hW2c hW2s hW2h hW2o hW2t hW2p hblk hb2 hkx
      go_region_law_o (first | refine step_run2 rfl _ _ 34 34 rfl _ _ (by simp [Act.eval, Act.put]) (by simp [Act.eval, Act.put]) (hrA _) ?_ | refine step_run2 rfl _ _ 34 34 rfl _ _ (by simp [Act.eval, Act.put]) (by simp [Act.eval, Act.put]) (hrB _) ?_)
      all_goals go_end0
      all_goals exact ⟨rfl, fin _ rfl rfl rfl rfl⟩
end Go.Proofs.YtjanndmmhjnpcaaDoor
