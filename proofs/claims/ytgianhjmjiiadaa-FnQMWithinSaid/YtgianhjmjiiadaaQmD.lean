/- slices.Insert and slices.Delete keep their contracts. -/
import Derived.Test.YtgianhjmjiiadaaQmC
import Derived.Test.YtgianhjmjiiadaaQmI
import Derived.Test.YtgianhjmjiiadaaSyAb
import Derived.Maps.AppendAt
set_option autoImplicit true
set_option relaxedAutoImplicit true
set_option linter.unusedVariables false
set_option linter.unusedSimpArgs false
namespace Go.Proofs.Ytgianhjmjiiadaa
open Go Go.Sy
theorem set_block {b : Nat} {T : TypeId} : ∀ (l : List Value) (o : Nat) (w : World) (cur : Array Value), w.heap[b]? = some (.cells cur T (0, 0)) →
    ∃ cur', (w.setCells b o l).heap[b]? = some (.cells cur' T (0, 0)) ∧ cur'.size = cur.size ∧ ∀ x, x < cur.size → cur'[x]? = if o ≤ x ∧ x < o + l.length then l[x - o]? else cur[x]?
  | [], o, w, cur, h => ⟨cur, h, rfl, fun x _ => by rw [if_neg (by simp only [List.length_nil]; omega)]⟩
  | v :: r, o, w, cur, h => by
    have hb : b < w.heap.size := (Array.getElem?_eq_some_iff.1 h).1
    have h1 : (w.setCell ⟨b, o, none⟩ v).heap[b]? = some (.cells (cur.setIfInBounds o v) T (0, 0)) := by rw [setCell_wset h]; exact wset_same hb
    obtain ⟨cur', k1, k2, k3⟩ := set_block r (o + 1) (w.setCell ⟨b, o, none⟩ v) _ h1
    refine ⟨cur', k1, by simpa using k2, fun x hx => ?_⟩
    rw [k3 x (by simpa using hx)]
    by_cases c1 : o + 1 ≤ x ∧ x < o + 1 + r.length
    · rw [if_pos c1, if_pos (by simp; omega), show x - o = (x - (o + 1)) + 1 by omega, List.getElem?_cons_succ]
    · rw [if_neg c1]
      by_cases c2 : x = o
      · subst c2
        rw [if_pos (by simp), Nat.sub_self, List.getElem?_cons_zero, Array.getElem?_setIfInBounds_self_of_lt hx]
      · rw [if_neg (by simp only [List.length_cons]; omega), Array.getElem?_setIfInBounds_ne (by omega)]
theorem k2_val (j : Nat) (z : Int) (q : Value) : (([.int .i64, .int .i64] : List SK).getD (j % 2) default).val z q = .int .i64 z := by
  rcases Nat.mod_two_eq_zero_or_one j with h | h <;> rw [h] <;> rfl
theorem iv_cells (E : Env) (β : Nat → Bk) (q : Nat → Value) (a : AE) (n : Nat) : rowCells E β q a [.int .i64, .int .i64] n [] = (List.range (n * 2)).map fun j => .int .i64 (a.den E j) := by
  simp only [rowCells, SV.denL, List.append_nil]
  show List.map _ (List.range (n * 2)) = _
  apply List.map_congr_left
  intro j _
  exact k2_val j _ _
theorem iv_of {E : Env} {β : Nat → Bk} {w : World} {bk : Bk} {a : AE} {n : SE} (h : SBlk.ok E β bk w (iv a n)) (hn : 1 ≤ (n.den E).toNat) :
    bk.z = false ∧ bk.o = 0 ∧ bk.n = (n.den E).toNat ∧ bk.n ≤ bk.c ∧ bk.c ≤ maxLen ∧ ∃ cur, w.heap[bk.a]? = some (.cells cur 106 (0, 0)) ∧ cur.size = bk.c * 2 ∧ ∀ x, x < (n.den E).toNat * 2 → cur[x]? = some (.int .i64 (a.den E x)) := by
  obtain ⟨ho, m, hm, hown⟩ := h
  have hm0 : m = 0 := by
    have : (0 : Nat) = m * 2 := hm
    omega
  subst hm0
  rw [Nat.add_zero] at hown
  change w.ownsRow 0 106 2 bk.v (n.den E).toNat _ at hown
  rw [iv_cells] at hown
  rcases hown.2 with ⟨_, h0⟩ | ⟨g, cap, cur, hv, _, hg, hc, hcm, hcs, hx⟩
  · omega
  · unfold Bk.v at hv
    split at hv
    · cases hv
    · rename_i hz
      simp only [Value.slice.injEq, Option.some.injEq, Addr.mk.injEq] at hv
      obtain ⟨⟨rfl, -, -⟩, h1, rfl⟩ := hv
      refine ⟨by simpa using hz, ho, h1, by omega, hcm, cur, hg, hcs, fun x hx' => ?_⟩
      have e : (cur.toList.take ((n.den E).toNat * 2))[x]? = cur[x]? := by
        rw [List.getElem?_take, if_pos hx']; simp
      rw [← e, hx, List.getElem?_map, List.getElem?_range hx']; rfl
theorem iv_ok {E : Env} {β : Nat → Bk} {w : World} {G N C : Nat} {a : AE} {n : SE} {cur : Array Value} (hn : (n.den E).toNat = N) (hg : w.heap[G]? = some (.cells cur 106 (0, 0))) (hs : cur.size = C * 2) (hNC : N ≤ C) (hC : C ≤ maxLen) (hc : ∀ x, x < N * 2 → cur[x]? = some (.int .i64 (a.den E x))) :
    SBlk.ok E β { a := G, z := false, n := N, c := C, o := 0 } w (iv a n) := by
  refine ⟨rfl, 0, rfl, ?_⟩
  rw [hn, Nat.add_zero]
  change w.ownsRow 0 106 2 (.slice (some ⟨G, 0, none⟩) N C) N _
  rw [iv_cells]
  refine ⟨by simp, .inr ⟨G, C, cur, rfl, Nat.zero_le _, hg, hNC, hC, hs, ?_⟩⟩
  apply List.ext_getElem?
  intro x
  rcases Nat.lt_or_ge x (N * 2) with h | h
  · rw [List.getElem?_take, if_pos h, List.getElem?_map, List.getElem?_range h]
    simpa using hc x h
  · rw [List.getElem?_eq_none (by simp; omega), List.getElem?_eq_none (by simp; omega)]
theorem iv_fin {E : Env} {β : Nat → Bk} {w w' : World} {r : List SBlk} {G N C : Nat} {a : AE} {n : SE} {cur : Array Value} (hw : HOk E β (iv0 :: r) w) (hbnd : (iv0 :: r).all (SBlk.bnd (iv0 :: r).length) = true) (hv : (iv0 :: r).all (SBlk.vb 500) = true) (hz : (β 0).z = false)
    (hos : w'.os = w.os) (htp : w'.tape = w.tape) (hop : w'.output = w.output) (hsz : w.heap.size ≤ w'.heap.size) (hsame : ∀ k, k < w.heap.size → k ≠ (β 0).a → w'.heap[k]? = w.heap[k]?) (hG : G = (β 0).a ∨ w.heap.size ≤ G)
    (hn : (n.den E).toNat = N) (hg : w'.heap[G]? = some (.cells cur 106 (0, 0))) (hs : cur.size = C * 2) (hNC : N ≤ C) (hC : C ≤ maxLen) (hc : ∀ x, x < N * 2 → cur[x]? = some (.int .i64 (a.den E x))) :
    HOk E (upB β (iv0 :: r).length { a := G, z := false, n := N, c := C, o := 0 }) (killK [0] (iv0 :: r) ++ [iv a n]) w' ∧ Ext E (iv0 :: r) β w E (killK [0] (iv0 :: r) ++ [iv a n]) (upB β (iv0 :: r).length { a := G, z := false, n := N, c := C, o := 0 }) w' := by
  have hat : iv0.at E (β 0) (β 0).a := SBlk.at_of hz rfl
  refine HOk.absorb (E := E) (E2 := E) (β := β) (h := iv0 :: r) (w := w) (w' := w') (bk := { a := G, z := false, n := N, c := C, o := 0 }) (s1 := iv a n) hw hbnd [0] (AgE.refl 500 E) hv hos htp hop hsz
    (fun k hk hn' => hsame k hk fun hh => hn' 0 _ rfl rfl (by rw [hh]; exact hat))
    (fun j s' hj hs x hx => by
      have : j = 0 := by simpa using hj
      subst this; cases hs; exact hz)
    (fun x hx => by
      have hx' : x = G := SBlk.at_eq hx rfl
      subst hx'
      refine ⟨(Array.getElem?_eq_some_iff.1 hg).1, ?_⟩
      rcases hG with h | h
      · exact .inr ⟨0, _, rfl, rfl, by rw [h]; exact hat⟩
      · exact .inl h)
    (iv_ok hn hg hs hNC hC hc)
theorem ap2_den {E : Env} (hE : E.fn = fns) {n i : Nat} (hn : E.i 0 = n) (hi : E.i 4 = i) : (AE.ap 2 (.a (.v 0) (.i (.v 0) (.i (.v 4) (.a (.v 1) .nil))))).den E = ins2 (E.a 0) n i (E.a 1 0) (E.a 1 1) := by
  simp only [AE.den, SL.den, SE.den, hE]
  show ins2 (fun j => E.a 0 j) (E.i 0).toNat (E.i 4).toNat (E.a 1 0) (E.a 1 1) = _
  rw [hn, hi]; rfl
theorem ap4_den {E : Env} (hE : E.fn = fns) {i j : Nat} (hi : E.i 4 = i) (hj : E.i 5 = j) (hij : i ≤ j) : (AE.ap 4 (.a (.v 0) (.i (.v 4) (.i (.sub (.v 5) (.v 4)) .nil)))).den E = del2 (E.a 0) i (j - i) := by
  simp only [AE.den, SL.den, SE.den, hE]
  show del2 (fun j => E.a 0 j) (E.i 4).toNat (E.i 5 - E.i 4).toNat = _
  rw [hi, hj, show ((j : Int) - (i : Int)).toNat = j - i by omega]; rfl
theorem cs_at (A : Nat → Int) (n : Nat) {x : Nat} (h : x < n * 2) : ((List.range (n * 2)).map fun j => Value.int .i64 (A j))[x]? = some (.int .i64 (A x)) := by
  rw [List.getElem?_map, List.getElem?_range h]; rfl
set_option maxHeartbeats 1000000 in
theorem ct57_ok : CtOk Try.prog fns ct57 := by
  intro E β w hE _ hw hF
  refine ⟨fun a ha => (by cases ha; intro q hq; cases hq), ?_⟩
  have p0 : 1 ≤ E.i 0 := of_decide_eq_true (hF (.le (.c 1) (.v 0), true) (by simp [ct57, bd]))
  have p1 : E.i 0 ≤ 1000 := of_decide_eq_true (hF (.le (.v 0) (.c 1000), true) (by simp [ct57, bd]))
  have p2 : 0 ≤ E.i 4 := of_decide_eq_true (hF (.le (.c 0) (.v 4), true) (by simp [ct57, bd]))
  have p3 : E.i 4 ≤ E.i 0 := of_decide_eq_true (hF (.le (.v 4) (.v 0), true) (by simp [ct57, bd]))
  obtain ⟨n, hn⟩ : ∃ n : Nat, E.i 0 = n := ⟨(E.i 0).toNat, by omega⟩
  obtain ⟨i, hi⟩ : ∃ i : Nat, E.i 4 = i := ⟨(E.i 4).toNat, by omega⟩
  have en : ((SE.v 0).den E).toNat = n := by simp only [SE.den]; omega
  obtain ⟨hz0, ho0, hn0, hnc, hcm, cur, hg, hcs, hx⟩ := iv_of (hw.ok 0 _ rfl) (by rw [en]; omega)
  obtain ⟨hz1, ho1, hn1, hnc1, hcm1, cur1, hg1, hcs1, hx1⟩ := iv_of (hw.ok 1 _ rfl) (by simp [SE.den])
  rw [en] at hn0 hx
  have e1 : ((SE.c 1).den E).toNat = 1 := by simp [SE.den]
  rw [e1] at hn1 hx1
  obtain ⟨b, hb⟩ : ∃ b, (β 0).a = b := ⟨_, rfl⟩
  obtain ⟨vb, hvb⟩ : ∃ b, (β 1).a = b := ⟨_, rfl⟩
  obtain ⟨c, hc⟩ : ∃ b, (β 0).c = b := ⟨_, rfl⟩
  obtain ⟨cv, hcv⟩ : ∃ b, (β 1).c = b := ⟨_, rfl⟩
  rw [hb] at hg; rw [hvb] at hg1; rw [hc] at hnc hcm hcs; rw [hcv] at hcs1
  rw [hn0] at hnc
  have hbl : b < w.heap.size := (Array.getElem?_eq_some_iff.1 hg).1
  have hvl : vb < w.heap.size := (Array.getElem?_eq_some_iff.1 hg1).1
  have hne : vb ≠ b := fun h => by
    have := hw.dis 0 1 _ _ b rfl rfl (hb ▸ SBlk.at_of hz0 rfl) (h ▸ hvb ▸ SBlk.at_of hz1 rfl)
    cases this
  have hv0 : (β 0).v = .slice (some ⟨b, 0, none⟩) n c := by simp [Bk.v, hz0, hb, ho0, hn0, hc]
  have hv1 : (β 1).v = .slice (some ⟨vb, 0, none⟩) 1 cv := by simp [Bk.v, hz1, hvb, ho1, hn1, hcv]
  obtain ⟨cs, hcse⟩ : ∃ cs, cs = (List.range (n * 2)).map fun j => Value.int .i64 (E.a 0 j) := ⟨_, rfl⟩
  obtain ⟨vs, hvse⟩ : ∃ vs, vs = [Value.int .i64 (E.a 1 0), Value.int .i64 (E.a 1 1)] := ⟨_, rfl⟩
  have hcl : cs.length = n * 2 := by rw [hcse]; simp
  have hvsl : vs.length = 2 := by rw [hvse]; rfl
  have hcurA : ∀ x, x < n * 2 → cur[x]? = some (.int .i64 (E.a 0 x)) := hx
  have hcsA : ∀ x, x < n * 2 → cs[x]? = some (.int .i64 (E.a 0 x)) := fun x h => by rw [hcse]; exact cs_at _ _ h
  have hcc : ∀ j v, cs[j]? = some v → w.cell? ⟨b, 0 + j, none⟩ = some v := fun j v h => by
    have hj : j < n * 2 := by rw [← hcl]; exact (List.getElem?_eq_some_iff.1 h).1
    rw [hcsA j hj] at h
    rw [Nat.zero_add]; simp only [World.cell?, hg]; rw [← h]; simpa using hcurA j hj
  have hvc : ∀ j v, vs[j]? = some v → w.cell? ⟨vb, 0 + j, none⟩ = some v := fun j v h => by
    have hj : j < 2 := by rw [← hvsl]; exact (List.getElem?_eq_some_iff.1 h).1
    have e : cur1[j]? = vs[j]? := by
      rw [hx1 j (by omega), hvse]
      rcases (by omega : j = 0 ∨ j = 1) with rfl | rfl <;> rfl
    rw [Nat.zero_add]; simp only [World.cell?, hg1]; rw [← h, ← e]; simp
  have h1c : ∀ v ∈ cs, v.oneCell' = true := fun v hv => by rw [hcse] at hv; simp at hv; obtain ⟨_, _, rfl⟩ := hv; rfl
  have h1v : ∀ v ∈ vs, v.oneCell' = true := fun v hv => by rw [hvse] at hv; simp at hv; rcases hv with rfl | rfl <;> rfl
  have hargs : (SV.denL E β ct57.args).toArray = #[.slice (some ⟨b, 0, none⟩) n c, .int .i64 i, .slice (some ⟨vb, 0, none⟩) 1 cv] := by
    simp only [ct57, SV.denL, SV.den, SE.den, hv0, hi, hv1]
  rw [hargs]
  have hc63 : c ≤ 9223372036854775807 := by unfold maxLen at hcm; omega
  have hA := ap2_den hE hn hi
  have eN : ((SE.add (.v 0) (.c 1)).den E).toNat = n + 1 := by simp only [d_add, d_v, d_c, hn]; omega
  have fin : ∀ (w' : World) (G C : Nat) (cur' : Array Value), w'.heap[G]? = some (.cells cur' 106 (0, 0)) → cur'.size = C * 2 → n + 1 ≤ C → C ≤ maxLen → (∀ x, x < (n + 1) * 2 → cur'[x]? = some (.int .i64 (ins2 (E.a 0) n i (E.a 1 0) (E.a 1 1) x))) →
      w'.os = w.os → w'.tape = w.tape → w'.output = w.output → w.heap.size ≤ w'.heap.size → (∀ k, k < w.heap.size → k ≠ b → w'.heap[k]? = w.heap[k]?) → (G = b ∨ w.heap.size ≤ G) → ctPost E β w ct57 (.returned (.slice (some ⟨G, 0, none⟩) (n + 1) C)) w' := fun w' G C cur' q1 q2 q3 q4 q5 q6 q7 q8 q9 q10 q11 => by
    obtain ⟨k1, k2⟩ := iv_fin (r := [iv (.v 1) (.c 1)]) (a := .ap 2 (.a (.v 0) (.i (.v 0) (.i (.v 4) (.a (.v 1) .nil))))) (n := .add (.v 0) (.c 1)) (N := n + 1) hw (by decide) (by decide) hz0 q6 q7 q8 q9 (by rw [hb]; exact q10) (by rw [hb]; exact q11) eN q1 q2 q3 q4 (by rw [hA]; exact q5)
    exact ctPost0 (c := ct57) (β' := upB β 2 { a := G, z := false, n := n + 1, c := C, o := 0 }) rfl rfl rfl (by simp only [SV.den, upB_self]; rfl) k1 k2
  rcases Nat.lt_or_ge i n with hin | hin
  · by_cases hroom : n + 1 ≤ c
    · have hsp : ∀ j, j < (n + 1) * 2 → (w.cell? ⟨b, 0 + j, none⟩).isSome = true := fun j hj => by
        rw [Nat.zero_add]; simp only [World.cell?, hg]
        simp; omega
      have hfz : ∀ j, j < (n + 1) * 2 → w.frozen? ⟨b, 0 + j, none⟩ = false := fun j _ => by simp [World.frozen?, hg]
      refine (ins_shift b 0 n c i vb cv cs vs w hin hroom hc63 hne hcl hvsl hcc hsp hfz hvc h1c h1v 106 106 cur1.size cur.size (by simp only [World.shape?, hg1]) (by simp only [World.shape?, hg]) (by omega) (by simp [World.frozen?, hg1]) (by simp [World.frozen?, hg1])).mono ?_
      rintro e w' ⟨rfl, rfl⟩
      obtain ⟨cA, g1, g2, g3⟩ := set_block (cs.drop (i * 2)) (0 + (i + 1) * 2) w.drew cur hg
      obtain ⟨cB, g4, g5, g6⟩ := set_block vs (0 + i * 2) _ cA g1
      refine fin _ b c cB g4 (by omega) hroom hcm (fun x hx' => ?_) (by rw [World.os_setCells, World.os_setCells]; rfl) (by rw [tape_setCells, tape_setCells]; rfl) (by rw [World.output_setCells, World.output_setCells]; rfl) (by rw [setCells_size, setCells_size]; exact Nat.le_refl _)
        (fun k hk hne' => by rw [World.heap_setCells_other _ _ _ _ (by rw [setCells_size]; exact hk) hne', World.heap_setCells_other _ _ _ _ (by exact hk) hne']; rfl) (.inl rfl)
      rw [g6 x (by omega), hvsl]
      unfold ins2
      by_cases c1 : 0 + i * 2 ≤ x ∧ x < 0 + i * 2 + 2
      · rw [if_pos c1, hvse, if_neg (by omega)]
        rcases (by omega : x = i * 2 ∨ x = i * 2 + 1) with h | h
        · rw [if_pos h, show x - (0 + i * 2) = 0 by omega]; rfl
        · rw [if_neg (by omega), if_pos h, show x - (0 + i * 2) = 1 by omega]; rfl
      · rw [if_neg c1, g3 x (by omega), List.length_drop, hcl]
        by_cases c2 : x < i * 2
        · rw [if_neg (by omega), if_pos c2]; exact hcurA x (by omega)
        · rw [if_pos (by omega), if_neg c2, if_neg (by omega), if_neg (by omega), if_pos hx', List.getElem?_drop, show i * 2 + (x - (0 + (i + 1) * 2)) = x - 2 by omega]
          exact hcsA _ (by omega)
    · obtain ⟨G, ROW, hG1, hG2, hR1, hR2, hcalls⟩ := ins_grow b 0 n c i vb cv cs vs w hin hnc (by omega) (by omega) hbl hvl hcl hvsl hcc hvc h1c h1v
      refine hcalls.mono ?_
      rintro e w' ⟨rfl, rfl⟩
      obtain ⟨cA, g1, g2, g3⟩ := set_block vs (i * 2) ((w.alloc (.cells ROW 106)).drew) ROW (heap_alloc_new w _)
      obtain ⟨cB, g4, g5, g6⟩ := set_block (cs.drop (i * 2)) ((i + 1) * 2) (((w.alloc (.cells ROW 106)).drew.setCells w.heap.size (i * 2) vs).drew) cA g1
      have hsz : ((((w.alloc (.cells ROW 106)).drew.setCells w.heap.size (i * 2) vs).drew).setCells w.heap.size ((i + 1) * 2) (cs.drop (i * 2))).heap.size = w.heap.size + 1 := by
        rw [setCells_size]
        show (((w.alloc (.cells ROW 106)).drew.setCells w.heap.size (i * 2) vs)).heap.size = _
        rw [setCells_size]
        exact Array.size_push _
      refine fin _ w.heap.size G cB g4 (by omega) hG1 (by unfold maxLen; omega) (fun x hx' => ?_) (by rw [World.os_setCells]; show (World.setCells _ _ _ _).os = _; rw [World.os_setCells]; rfl) (by rw [tape_setCells]; show (World.setCells _ _ _ _).tape = _; rw [tape_setCells]; rfl) (by rw [World.output_setCells]; show (World.setCells _ _ _ _).output = _; rw [World.output_setCells]; rfl) (by rw [hsz]; omega)
        (fun k hk _ => by
          have hk2 : k < ((w.alloc (.cells ROW 106)).drew).heap.size := by simp only [World.drew, World.alloc, Array.size_push]; omega
          have hk3 : k < (((w.alloc (.cells ROW 106)).drew.setCells w.heap.size (i * 2) vs).drew).heap.size := by
            show k < (World.setCells _ _ _ _).heap.size
            rw [setCells_size]; exact hk2
          rw [World.heap_setCells_other _ _ _ _ hk3 (by omega)]
          show (World.setCells _ _ _ _).heap[k]? = _
          rw [World.heap_setCells_other _ _ _ _ hk2 (by omega)]
          simp only [World.drew, World.alloc]
          rw [Array.getElem?_push_lt hk, Array.getElem?_eq_getElem hk]) (.inr (Nat.le_refl _))
      rw [g6 x (by omega), List.length_drop, hcl]
      unfold ins2
      by_cases c1 : (i + 1) * 2 ≤ x ∧ x < (i + 1) * 2 + (n * 2 - i * 2)
      · rw [if_pos c1, if_neg (by omega), if_neg (by omega), if_neg (by omega), if_pos hx', List.getElem?_drop, show i * 2 + (x - ((i + 1) * 2)) = x - 2 by omega]
        exact hcsA _ (by omega)
      · rw [if_neg c1, g3 x (by omega), hvsl]
        by_cases c2 : x < i * 2
        · rw [if_neg (by omega), if_pos c2, hR2 x c2]; exact hcsA x (by omega)
        · rw [if_pos (by omega), if_neg c2, hvse]
          rcases (by omega : x = i * 2 ∨ x = i * 2 + 1) with h | h
          · rw [if_pos h, show x - (i * 2) = 0 by omega]; rfl
          · rw [if_neg (by omega), if_pos h, show x - (i * 2) = 1 by omega]; rfl
  · have hin : i = n := by omega
    subst hin
    obtain ⟨i0, z, hi0, hz, hzc, hzs, hzb⟩ := i106'
    have hown : w.ownsRow 0 106 2 (.slice (some ⟨b, 0, none⟩) i c) i cs := ⟨hcl, .inr ⟨b, c, cur, rfl, Nat.zero_le _, hg, hnc, hcm, hcs, by
      apply List.ext_getElem?
      intro x
      rcases Nat.lt_or_ge x (i * 2) with h | h
      · rw [List.getElem?_take, if_pos h, hcsA x h]; simpa using hcurA x h
      · rw [List.getElem?_eq_none (by simp; omega), List.getElem?_eq_none (by omega)]⟩⟩
    obtain ⟨R, W, hr, hown', hgr, _, hat⟩ := run_append_own_at (P := Try.prog) w 0 78 78 106 i0 z 2 16 t78 hi0 hz hzs hzb (by rw [hzc]; rfl) (by decide) _ i cs hown ⟨vb, 0, none⟩ 1 cv vs hvsl (fun j u h => by rw [addr_add]; exact hvc j u h) h1v (by simp only [maxLen]; omega) (by omega) (Nat.zero_le _)
    refine (ins_end b i c vb cv vs w (by omega) hc63 (R := R) (W := W) (fun ty => hr) hnc).mono ?_
    rintro e w' ⟨rfl, rfl⟩
    rcases hown'.2 with ⟨_, h0⟩ | ⟨G, C, cur', rfl, _, g1, g2, g3, g4, g5⟩
    · omega
    · refine fin _ G C cur' g1 g4 g2 g3 (fun x hx' => ?_) hgr.os hgr.tape hgr.output hgr.size (fun k hk hk' => hgr.block k hk (by simpa [Value.ownBlock] using hk')) (by rcases hat with h | h <;> simp [Value.ownBlock] at h <;> omega)
      have e : (cur'.toList.take ((i + 1) * 2))[x]? = cur'[x]? := by rw [List.getElem?_take, if_pos hx']; simp
      rw [← e, g5]
      unfold ins2
      by_cases c2 : x < i * 2
      · rw [if_pos c2, List.getElem?_append_left (by omega)]; exact hcsA x c2
      · rw [if_neg c2, List.getElem?_append_right (by omega), hcl, hvse]
        rcases (by omega : x = i * 2 ∨ x = i * 2 + 1) with h | h
        · rw [if_pos h, show x - (i * 2) = 0 by omega]; rfl
        · rw [if_neg (by omega), if_pos h, show x - (i * 2) = 1 by omega]; rfl
set_option maxHeartbeats 1000000 in
theorem ct51_ok : CtOk Try.prog fns ct51 := by
  intro E β w hE _ hw hF
  refine ⟨fun a ha => (by cases ha; intro q hq; cases hq), ?_⟩
  have p0 : 1 ≤ E.i 0 := of_decide_eq_true (hF (.le (.c 1) (.v 0), true) (by simp [ct51, bd]))
  have p1 : E.i 0 ≤ 1000 := of_decide_eq_true (hF (.le (.v 0) (.c 1000), true) (by simp [ct51, bd]))
  have p2 : 0 ≤ E.i 4 := of_decide_eq_true (hF (.le (.c 0) (.v 4), true) (by simp [ct51, bd]))
  have p3 : E.i 4 < E.i 5 := of_decide_eq_true (hF (.lt (.v 4) (.v 5), true) (by simp [ct51, bd]))
  have p4 : E.i 5 ≤ E.i 0 := of_decide_eq_true (hF (.le (.v 5) (.v 0), true) (by simp [ct51, bd]))
  obtain ⟨n, hn⟩ : ∃ n : Nat, E.i 0 = n := ⟨(E.i 0).toNat, by omega⟩
  obtain ⟨i, hi⟩ : ∃ i : Nat, E.i 4 = i := ⟨(E.i 4).toNat, by omega⟩
  obtain ⟨j, hj⟩ : ∃ i : Nat, E.i 5 = i := ⟨(E.i 5).toNat, by omega⟩
  have en : ((SE.v 0).den E).toNat = n := by simp only [SE.den]; omega
  obtain ⟨hz0, ho0, hn0, hnc, hcm, cur, hg, hcs, hx⟩ := iv_of (hw.ok 0 _ rfl) (by rw [en]; omega)
  rw [en] at hn0 hx
  obtain ⟨b, hb⟩ : ∃ b, (β 0).a = b := ⟨_, rfl⟩
  obtain ⟨c, hc⟩ : ∃ b, (β 0).c = b := ⟨_, rfl⟩
  rw [hb] at hg; rw [hc] at hnc hcm hcs
  rw [hn0] at hnc
  have hbl : b < w.heap.size := (Array.getElem?_eq_some_iff.1 hg).1
  have hv0 : (β 0).v = .slice (some ⟨b, 0, none⟩) n c := by simp [Bk.v, hz0, hb, ho0, hn0, hc]
  obtain ⟨cs, hcse⟩ : ∃ cs, cs = (List.range (n * 2)).map fun j => Value.int .i64 (E.a 0 j) := ⟨_, rfl⟩
  have hcl : cs.length = n * 2 := by rw [hcse]; simp
  have hcurA : ∀ x, x < n * 2 → cur[x]? = some (.int .i64 (E.a 0 x)) := hx
  have hcsA : ∀ x, x < n * 2 → cs[x]? = some (.int .i64 (E.a 0 x)) := fun x h => by rw [hcse]; exact cs_at _ _ h
  have hcc : ∀ j v, cs[j]? = some v → w.cell? ⟨b, j, none⟩ = some v := fun j v h => by
    have hj : j < n * 2 := by rw [← hcl]; exact (List.getElem?_eq_some_iff.1 h).1
    rw [hcsA j hj] at h
    simp only [World.cell?, hg]; rw [← h]; simpa using hcurA j hj
  have h1c : ∀ v ∈ cs, v.oneCell' = true := fun v hv => by rw [hcse] at hv; simp at hv; obtain ⟨_, _, rfl⟩ := hv; rfl
  have hargs : (SV.denL E β ct51.args).toArray = #[.slice (some ⟨b, 0, none⟩) n c, .int .i64 i, .int .i64 j] := by
    simp only [ct51, SV.denL, SV.den, SE.den, hv0, hi, hj]
  rw [hargs]
  have hc63 : c ≤ 9223372036854775807 := by unfold maxLen at hcm; omega
  obtain ⟨zs, hzl, hcalls⟩ := del_walk b n c i j cs w (by omega) (by omega) hnc hc63 hcl hcc (fun k => by simp [World.frozen?, hg]) h1c
  refine hcalls.mono ?_
  rintro e w' ⟨rfl, rfl⟩
  obtain ⟨cA, g1, g2, g3⟩ := set_block (cs.drop (j * 2)) (i * 2) w.drew cur hg
  obtain ⟨cB, g4, g5, g6⟩ := set_block zs ((i + (n - j)) * 2) _ cA g1
  have hA := ap4_den hE hi hj (by omega)
  have eN : ((SE.sub (.v 0) (.sub (.v 5) (.v 4))).den E).toNat = i + (n - j) := by simp only [d_sub, d_v, hn, hi, hj]; omega
  obtain ⟨k1, k2⟩ := iv_fin (r := []) (a := .ap 4 (.a (.v 0) (.i (.v 4) (.i (.sub (.v 5) (.v 4)) .nil)))) (n := .sub (.v 0) (.sub (.v 5) (.v 4))) (N := i + (n - j)) (G := b) (C := c) (cur := cB) hw (by decide) (by decide) hz0 (by rw [World.os_setCells, World.os_setCells]; rfl) (by rw [tape_setCells, tape_setCells]; rfl) (by rw [World.output_setCells, World.output_setCells]; rfl) (by rw [setCells_size, setCells_size]; exact Nat.le_refl _)
    (fun k hk hne' => by rw [hb] at hne'; rw [World.heap_setCells_other _ _ _ _ (by rw [setCells_size]; exact hk) hne', World.heap_setCells_other _ _ _ _ (by exact hk) hne']; rfl) (.inl hb.symm) eN g4 (by omega) (by omega) hcm (fun x hx' => by
      rw [hA, g6 x (by omega), if_neg (by omega), g3 x (by omega), List.length_drop, hcl]
      unfold del2
      by_cases c2 : x < i * 2
      · rw [if_neg (by omega), if_pos c2]; exact hcurA x (by omega)
      · rw [if_pos (by omega), if_neg c2, List.getElem?_drop, hcsA _ (by omega), show j * 2 + (x - i * 2) = x + (j - i) * 2 by omega])
  exact ctPost0 (c := ct51) (β' := upB β 1 { a := b, z := false, n := i + (n - j), c := c, o := 0 }) rfl rfl rfl (by simp only [SV.den, upB_self]; rfl) k1 k2
end Go.Proofs.Ytgianhjmjiiadaa
