/- The kinds of the claim are as the rules ask; inserting one entry keeps its contract. -/
import Derived.Test.YtjanndmmhjnpcaaDoorQcC
import Derived.Test.YtjanndmmhjnpcaaDoorQcI
set_option autoImplicit true
set_option relaxedAutoImplicit true
set_option linter.unusedVariables false
set_option linter.unusedSimpArgs false
namespace Go.Proofs.YtjanndmmhjnpcaaDoor
open Go Go.Sy
theorem rok6 : RecOk fns 1000 1 r6 where
  p n A B L K C a v w := Iff.rfl
  ft n A B L K C a v x := Iff.rfl
  cat C b a := rfl
  good := by decide
theorem rok1 : RecOk fns 1001 1 r1 where
  p n A B L K C a v w := Iff.rfl
  ft n A B L K C a v x := Iff.rfl
  cat C b a := rfl
  good := by decide
theorem quGood : QuGood qu where
  S0 := by decide
  ksl := by decide
  epl := by decide
  len s l := by simp [qu, idC, tkC, zs]
  cell s l u hu := List.all_eq_true.1 (show (qu.ent s l).all SV.isCell = true from rfl) u hu
  ext E E' β β' s s' l l' h1 h2 := by
    simp [qu, idC, tkC, zs, SV.denL, SV.den, List.replicate, SE.den, h1, h2]
  pat E β hF := by
    have h1 : E.i 2 = E.i 1 := of_decide_eq_true (hF ((.eq (.v 2) (.v 1)), true) (by simp [qu]))
    have h2 : E.i 3 = E.i 1 := of_decide_eq_true (hF ((.eq (.v 3) (.v 1)), true) (by simp [qu]))
    simp [qu, idC, tkC, zs, SV.denL, SV.den, List.replicate, SE.den, h1, h2]
theorem qwGood : QuGood qw where
  S0 := by decide
  ksl := by decide
  epl := by decide
  len s l := by simp [qw]
  cell s l u hu := by
    simp [qw] at hu
    subst hu; rfl
  ext E E' β β' s s' l l' h1 h2 := by
    simp [qw, SV.denL, SV.den, SE.den, h1, h2]
  pat E β hF := rfl
theorem qok : QuOk fns 1002 qu where
  p n l A a v w := Iff.rfl
  ft n l A a v x := Iff.rfl
  good := quGood
theorem qokw : QuOk fns 1003 qw where
  p n l A a v w := Iff.rfl
  ft n l A a v x := Iff.rfl
  good := qwGood
theorem cells_of {n : Nat} {len : Int} {A : Nat → Int} {g off : Nat} {w : World} (h : ∀ i j, i < n → j < 38 → w.cell? ⟨g, off + (i * 38 + j), none⟩ = (qu.val (A i) len)[j]?) :
    ∃ cs : List Value, cs.length = n * 38 ∧ (∀ j v, cs[j]? = some v → w.cell? ⟨g, off + j, none⟩ = some v) ∧ (∀ i j, i < n → j < 38 → cs[i * 38 + j]? = (qu.val (A i) len)[j]?) ∧ ∀ v ∈ cs, v.oneCell' = true := by
  have hlA : ∀ s, (qu.val s len).length = 38 := fun s => quGood.val_len s len
  have hol : ((List.range (n * 38)).map fun j => (qu.val (A (j / 38)) len).getD (j % 38) .nilIface).length = n * 38 := by simp
  have hc : ∀ i j, i < n → j < 38 → ((List.range (n * 38)).map fun j => (qu.val (A (j / 38)) len).getD (j % 38) .nilIface)[i * 38 + j]? = (qu.val (A i) len)[j]? := fun i j hi hj => by
    obtain ⟨e1, e2⟩ := cellv_off (i := i) (n := n) (S := 38) (by decide) hj
    rw [List.getElem?_map, range_idx (mul_lt hi hj), Option.map_some, e1, e2, List.getD_eq_getElem?_getD, List.getElem?_eq_getElem (by rw [hlA]; exact hj)]; rfl
  refine ⟨_, hol, fun j v hj => ?_, hc, fun v hv => ?_⟩
  · have hjl : j < n * 38 := by rw [← hol]; exact (List.getElem?_eq_some_iff.1 hj).1
    obtain ⟨i', j', rfl, hj'⟩ : ∃ i' j', j = i' * 38 + j' ∧ j' < 38 := ⟨j / 38, j % 38, by omega, by omega⟩
    have hi' : i' < n := by omega
    rw [h i' j' hi' hj', ← hc i' j' hi' hj']; exact hj
  · obtain ⟨j, hj⟩ := List.getElem?_of_mem hv
    have hjl : j < n * 38 := by rw [← hol]; exact (List.getElem?_eq_some_iff.1 hj).1
    obtain ⟨i', j', rfl, hj'⟩ : ∃ i' j', j = i' * 38 + j' ∧ j' < 38 := ⟨j / 38, j % 38, by omega, by omega⟩
    rw [hc i' j' (by omega) hj'] at hj
    exact quGood.val_cell _ _ v (List.mem_of_getElem? hj)
theorem ct49_ok : CtOk Tryd.prog fns ct49 := by
  intro E β w hE _ hw hF
  refine ⟨fun a ha => (by cases ha; intro q hq; cases hq), ?_⟩
  have hpre : Facts E qu.preP := fun y hy => hF y (by simp only [ct49]; exact List.mem_append_right _ hy)
  have p0 : 0 ≤ E.i 4 := of_decide_eq_true (hF (.le (.c 0) (.v 4), true) (by simp [ct49]))
  have p1 : E.i 4 < E.i 0 := of_decide_eq_true (hF (.lt (.v 4) (.v 0), true) (by simp [ct49]))
  have p2 : E.i 0 ≤ 100000 := of_decide_eq_true (hF (.le (.v 0) (.c 100000), true) (by simp [ct49]))
  obtain ⟨n, hn⟩ : ∃ n : Nat, E.i 0 = n := ⟨(E.i 0).toNat, by omega⟩
  obtain ⟨i, hi⟩ : ∃ i : Nat, E.i 4 = i := ⟨(E.i 4).toNat, by omega⟩
  have hin : i < n := by omega
  have hqu := qu_of qok hE hw rfl
  rw [hn, Int.toNat_natCast] at hqu
  obtain ⟨vb, cv, hv1, hcell1, hz1, hvb1, cur1, hcur1, hcs1⟩ := qu_entry quGood hpre (hw.ok 1 _ rfl)
  rcases qu_v hqu with ⟨_, h2, _⟩ | ⟨hz0, hbn, hbv0, h1, h2, h3, h4, h5⟩
  · omega
  obtain ⟨g, hg⟩ : ∃ g, (β 0).a = g := ⟨_, rfl⟩
  obtain ⟨off, hoff⟩ : ∃ o, (β 0).o = o := ⟨_, rfl⟩
  obtain ⟨c, hc⟩ : ∃ c, (β 0).c = c := ⟨_, rfl⟩
  rw [hg, hoff, hc] at hbv0
  rw [hg] at h3 h4 h5
  rw [hoff, hc] at h4
  rw [hoff] at h5
  rw [hc] at h1 h2
  have hat0 : ∀ x, (quV 1002).at E (β 0) x ↔ x = g := fun x => by
    show E.fn.ft 1002 _ (β 0).a (β 0).v x ↔ _
    rw [hE]
    refine (qok.ft _ _ _ _ _ _).trans ?_
    rw [hbv0]
    simp only [Value.ownBlock, Option.some.injEq]
    exact ⟨fun h => h.symm, fun h => h.symm⟩
  have hgl : g < w.heap.size := hw.lt 0 _ g rfl ((hat0 g).2 rfl)
  have hat1 : (qu.blk).at E (β 1) vb := by
    rw [hvb1]
    exact SBlk.at_of (by
      have := (hw.ok 1 _ rfl).1
      simp [QuP.blk, SBlk.real, hz1]) rfl
  have hvl : vb < w.heap.size := hw.lt 1 _ vb rfl hat1
  have hne : vb ≠ g := fun h => by
    have := hw.dis 0 1 _ _ g rfl rfl ((hat0 g).2 rfl) (h ▸ hat1)
    cases this
  obtain ⟨cs, hcl, hcs, hcsA, hcs1c⟩ := cells_of (w := w) (g := g) (off := off) (n := n) (len := E.i 9) (A := E.a 0) (fun i j hi hj => h5 i j hi hj)
  have hvlen : (qu.val (E.i 1) (E.i 9)).length = 38 := quGood.val_len _ _
  have hv1c : ∀ v ∈ qu.val (E.i 1) (E.i 9), v.oneCell' = true := quGood.val_cell _ _
  obtain ⟨VS, hVS⟩ : ∃ VS, VS = qu.val (E.i 1) (E.i 9) := ⟨_, rfl⟩
  rw [← hVS] at hcell1 hvlen hv1c
  have hbytes : (n + 1) * 48 ≤ 140737488355328 := by omega
  have hsa : w.shape? vb = some (113, cur1.size) := by simp only [World.shape?, hcur1]; rfl
  have hfa : ∀ k, w.frozen? ⟨vb, k, none⟩ = false := fun k => by simp [World.frozen?, hcur1]
  have hdl : (cs.drop (i * 38)).length = (n - i) * 38 := by rw [List.length_drop, hcl, Nat.sub_mul]
  have htlA : ∀ i' j, i' < n - i → j < 38 → (cs.drop (i * 38))[i' * 38 + j]? = (qu.val (E.a 0 (i + i')) (E.i 9))[j]? := fun i' j hi' hj => by
    rw [List.getElem?_drop, ← Nat.add_assoc, ← Nat.add_mul]; exact hcsA _ _ (by omega) hj
  have fin : ∀ (w' : World) (G O C : Nat), QuAt qu w' G O (n + 1) C (E.i 9) (insA (E.a 0) n i (E.i 1)) → w'.os = w.os → w'.tape = w.tape → w'.output = w.output → w.heap.size ≤ w'.heap.size →
      (∀ k, k < w.heap.size → k ≠ g → w'.heap[k]? = w.heap[k]?) → (G = g ∨ w.heap.size ≤ G) → G < w'.heap.size →
      ctPost E β w ct49 (.returned (.slice (some ⟨G, O, none⟩) (n + 1) C)) w' := fun w' G O C hat hos htp hop hsz hsame hG hGl => by
    obtain ⟨bk, hbk⟩ : ∃ bk : Bk, bk = { a := G, z := false, n := n + 1, c := C, o := O } := ⟨_, rfl⟩
    have hbv : bk.v = .slice (some ⟨G, O, none⟩) (n + 1) C := by rw [hbk]; rfl
    obtain ⟨k1, k2⟩ := HOk.absorb (E := E) (E2 := E) (β := β) (h := [quV 1002, qu.blk]) (w := w) (w' := w') (bk := bk) (s1 := quB 1002 (.add (.v 0) (.c 1)) (.v 9) (a4 2 (.v 0) (.v 0) (.v 4) (.v 1))) hw (by decide) [0] (AgE.refl 500 E) (by decide) hos htp hop hsz
      (fun k hk hn' => hsame k hk fun hh => hn' 0 _ rfl rfl ((hat0 k).2 hh))
      (fun j s' hj hs x hx => by
        have : j = 0 := by simpa using hj
        subst this; cases hs; trivial)
      (fun x hx => by
        have hx' : E.fn.ft 1002 _ bk.a bk.v x := hx
        rw [hE] at hx'
        have hx' := (qok.ft _ _ _ _ _ _).1 hx'
        rw [hbv] at hx'
        simp only [Value.ownBlock, Option.some.injEq] at hx'
        subst hx'
        refine ⟨hGl, ?_⟩
        rcases hG with h | h
        · exact .inr ⟨0, _, rfl, rfl, (hat0 _).2 h⟩
        · exact .inl h)
      (by
        show E.fn.p 1002 _ bk.a bk.v w'
        rw [hE]
        refine (qok.p _ _ _ _ _ _).2 ?_
        rw [hbv]
        have en : ((SE.add (.v 0) (.c 1)).den E).toNat = n + 1 := by simp only [d_add, d_v, d_c, hn]; omega
        have eA : (a4 2 (.v 0) (.v 0) (.v 4) (.v 1)).den E = insA (E.a 0) n i (E.i 1) := by
          simp only [a4, AE.den, SL.den, hE]
          show insA (fun j => _) (E.i 0).toNat (E.i 4).toNat (E.i 1) = _
          rw [hi, hn]; rfl
        rw [en, eA]
        exact .inr ⟨G, O, C, rfl, hat⟩)
    exact ctPost0 (c := ct49) (β' := upB β 2 bk) rfl rfl rfl (by simp only [SV.den, upB_self, hbv]) k1 k2
  have hargs : (SV.denL E β ct49.args).toArray = #[.slice (some ⟨g, off, none⟩) n c, .int .i64 i, .slice (some ⟨vb, 0, none⟩) 1 cv] := by
    simp only [ct49, SV.denL, SV.den, SE.den, hbv0, hi, hv1]
  rw [hargs]
  have hc64 : c ≤ 9223372036854775807 := by
    unfold maxLen at h2
    omega
  by_cases hroom : n + 1 ≤ c
  · have hsp : ∀ j, j < (n + 1) * 38 → (w.cell? ⟨g, off + j, none⟩).isSome = true := fun j hj => (h4 j (Nat.lt_of_lt_of_le hj (Nat.mul_le_mul_right _ hroom))).1
    have hfz : ∀ j, j < (n + 1) * 38 → w.frozen? ⟨g, off + j, none⟩ = false := fun j hj => (h4 j (Nat.lt_of_lt_of_le hj (Nat.mul_le_mul_right _ hroom))).2
    obtain ⟨tB, kB, hsb, hkB⟩ : ∃ tB kB, w.shape? g = some (tB, kB) ∧ kB ≠ 0 := by
      have h := hsp 0 (by omega)
      unfold World.cell? at h
      unfold World.shape?
      simp only at h
      split at h
      · rename_i cc tt ff hh
        refine ⟨tt, cc.size, rfl, fun h0 => ?_⟩
        simp only [Option.isSome_none, Bool.false_eq_true, if_false] at h
        rw [Array.getElem?_eq_none (by omega)] at h
        cases h
      · cases h
    refine (ins_shift g off n c i vb cv cs VS w hin hroom hc64 hne hcl hvlen hcs hsp hfz hcell1 hcs1c hv1c 113 tB cur1.size kB hsa hsb hkB (hfa _) (hfa _)).mono ?_
    rintro e w' ⟨rfl, rfl⟩
    have hs1 : ∀ j, j < (cs.drop (i * 38)).length → (w.drew.cell? ⟨g, off + (i + 1) * 38 + j, none⟩).isSome = true := fun j hj => by
      rw [hdl, Nat.sub_mul] at hj
      rw [Nat.add_assoc]; exact hsp _ (by omega)
    have hs2 : ∀ k, (w.drew.cell? ⟨g, k, none⟩).isSome = true → ((w.drew.setCells g (off + (i + 1) * 38) (cs.drop (i * 38))).cell? ⟨g, k, none⟩).isSome = true := fun k hk => setCells_some g _ _ _ hs1 _ hk
    have hs3 : ∀ j, j < VS.length → ((w.drew.setCells g (off + (i + 1) * 38) (cs.drop (i * 38))).cell? ⟨g, off + i * 38 + j, none⟩).isSome = true := fun j hj => by
      rw [hvlen] at hj
      rw [Nat.add_assoc]; exact hs2 _ (hsp _ (by omega))
    refine fin _ g off c ?_ (by rw [World.os_setCells, World.os_setCells]; rfl) (by rw [tape_setCells, tape_setCells]; rfl) (by rw [World.output_setCells, World.output_setCells]; rfl) (by rw [setCells_size, setCells_size]; exact Nat.le_refl _)
      (fun k hk hne' => by rw [World.heap_setCells_other _ _ _ _ (by rw [setCells_size]; exact hk) hne', World.heap_setCells_other _ _ _ _ (by exact hk) hne']; rfl) (.inl rfl) (by rw [setCells_size, setCells_size]; exact hgl)
    refine qu_ins (q := qu) (w1 := w) (tl := cs.drop (i * 38)) (vs := VS) (by decide) hin hroom h2 (setCells_has _ _ _ _ (setCells_has _ _ _ _ h3)) (fun j hj => ⟨setCells_some g _ _ _ hs3 _ (hs2 _ (h4 j hj).1), ?_⟩) (fun i' j hi' hj => h5 i' j (by omega) hj) hdl htlA hvlen hVS (fun x => ?_)
    · rw [World.frozen?_setCells, World.frozen?_setCells]; exact (h4 j hj).2
    · show _ = if i * 38 ≤ x ∧ x < (i + 1) * 38 then _ else if (i + 1) * 38 ≤ x ∧ x < (n + 1) * 38 then _ else _
      rw [set2_cell hs3, set2_cell hs1, hvlen, hdl]
      by_cases c1 : i * 38 ≤ x ∧ x < (i + 1) * 38
      · rw [if_pos c1, if_pos (by omega), show off + x - (off + i * 38) = x - i * 38 by omega]; rfl
      · rw [if_neg c1, if_neg (by omega)]
        by_cases c2 : (i + 1) * 38 ≤ x ∧ x < (n + 1) * 38
        · rw [if_pos c2, if_pos (by omega), show off + x - (off + (i + 1) * 38) = x - (i + 1) * 38 by omega]; rfl
        · rw [if_neg c2, if_neg (by omega)]; rfl
  · obtain ⟨G, ROW, hG1, hG2, hR1, hR2, hcalls⟩ := ins_grow g off n c i vb cv cs VS w hin h1 (by omega) hbytes hgl hvl hcl hvlen hcs hcell1 hcs1c hv1c
    refine hcalls.mono ?_
    rintro e w' ⟨rfl, rfl⟩
    have hrow : ∀ x, (w.alloc (.cells ROW 113)).drew.cell? ⟨w.heap.size, x, none⟩ = ROW[x]? := fun x => World.cell?_alloc_at (w := w) ROW _ w.heap.size x rfl
    have hrs : ∀ x, x < G * 38 → ((w.alloc (.cells ROW 113)).drew.cell? ⟨w.heap.size, x, none⟩).isSome = true := fun x hx => by
      rw [hrow, Array.getElem?_eq_getElem (by omega)]; rfl
    have hGm : (n + 1) * 38 ≤ G * 38 := Nat.mul_le_mul_right _ hG1
    have hs1 : ∀ j, j < VS.length → ((w.alloc (.cells ROW 113)).drew.cell? ⟨w.heap.size, i * 38 + j, none⟩).isSome = true := fun j hj => by
      rw [hvlen] at hj
      exact hrs _ (by omega)
    have hs2 : ∀ k, k < G * 38 → (((w.alloc (.cells ROW 113)).drew.setCells w.heap.size (i * 38) VS).drew.cell? ⟨w.heap.size, k, none⟩).isSome = true := fun k hk => by
      show ((World.setCells (w.alloc (.cells ROW 113)).drew w.heap.size (i * 38) VS).cell? ⟨w.heap.size, k, none⟩).isSome = true
      exact setCells_some w.heap.size VS (i * 38) (w.alloc (.cells ROW 113)).drew hs1 k (hrs k hk)
    have hs3 : ∀ j, j < (cs.drop (i * 38)).length → (((w.alloc (.cells ROW 113)).drew.setCells w.heap.size (i * 38) VS).drew.cell? ⟨w.heap.size, (i + 1) * 38 + j, none⟩).isSome = true := fun j hj => by
      rw [hdl, Nat.sub_mul] at hj
      exact hs2 _ (by omega)
    have hsz : ((((w.alloc (.cells ROW 113)).drew.setCells w.heap.size (i * 38) VS).drew).setCells w.heap.size ((i + 1) * 38) (cs.drop (i * 38))).heap.size = w.heap.size + 1 := by
      rw [setCells_size]
      show (((w.alloc (.cells ROW 113)).drew.setCells w.heap.size (i * 38) VS)).heap.size = _
      rw [setCells_size]
      exact Array.size_push _
    have hhas : ((((w.alloc (.cells ROW 113)).drew.setCells w.heap.size (i * 38) VS).drew).setCells w.heap.size ((i + 1) * 38) (cs.drop (i * 38))).heap[w.heap.size]?.isSome = true := by
      rw [Array.getElem?_eq_getElem (by rw [hsz]; omega)]; rfl
    refine fin _ w.heap.size 0 G ?_ (by rw [World.os_setCells]; show (World.setCells _ _ _ _).os = _; rw [World.os_setCells]; rfl) (by rw [tape_setCells]; show (World.setCells _ _ _ _).tape = _; rw [tape_setCells]; rfl) (by rw [World.output_setCells]; show (World.setCells _ _ _ _).output = _; rw [World.output_setCells]; rfl) (by rw [hsz]; omega)
      (fun k hk _ => by
        have hk2 : k < ((w.alloc (.cells ROW 113)).drew).heap.size := by simp only [World.drew, World.alloc, Array.size_push]; omega
        have hk3 : k < (((w.alloc (.cells ROW 113)).drew.setCells w.heap.size (i * 38) VS).drew).heap.size := by
          show k < (World.setCells _ _ _ _).heap.size
          rw [setCells_size]; exact hk2
        rw [World.heap_setCells_other _ _ _ _ hk3 (by omega)]
        show (World.setCells _ _ _ _).heap[k]? = _
        rw [World.heap_setCells_other _ _ _ _ hk2 (by omega)]
        simp only [World.drew, World.alloc]
        rw [Array.getElem?_push_lt hk, Array.getElem?_eq_getElem hk]) (.inr (Nat.le_refl _)) (by rw [hsz]; omega)
    refine qu_ins (q := qu) (w1 := (w.alloc (.cells ROW 113)).drew) (tl := cs.drop (i * 38)) (vs := VS) (by decide) hin hG1 (by unfold maxLen; omega) hhas (fun j hj => ⟨setCells_some _ _ _ _ hs3 _ (hs2 _ (by rw [Nat.zero_add]; exact hj)), ?_⟩) (fun i' j hi' hj => ?_) hdl htlA hvlen hVS (fun x => ?_)
    · rw [World.frozen?_setCells]
      show (World.setCells _ _ _ _).frozen? _ = _
      rw [World.frozen?_setCells]
      exact World.frozen?_alloc_at (w := w) ROW _ w.heap.size _ rfl
    · have hj38 : j < 38 := hj
      show (w.alloc (.cells ROW 113)).drew.cell? ⟨w.heap.size, 0 + (i' * 38 + j), none⟩ = _
      rw [Nat.zero_add, hrow, hR2 _ (by omega), hcsA _ _ (by omega) hj38]
    · show _ = if i * 38 ≤ x ∧ x < (i + 1) * 38 then _ else if (i + 1) * 38 ≤ x ∧ x < (n + 1) * 38 then _ else _
      rw [Nat.zero_add, set2_cell hs3, hdl]
      have e : (((w.alloc (.cells ROW 113)).drew.setCells w.heap.size (i * 38) VS).drew).cell? ⟨w.heap.size, x, none⟩ = ((w.alloc (.cells ROW 113)).drew.setCells w.heap.size (i * 38) VS).cell? ⟨w.heap.size, x, none⟩ := rfl
      rw [e, set2_cell hs1, hvlen]
      by_cases c1 : i * 38 ≤ x ∧ x < (i + 1) * 38
      · rw [if_pos c1, if_neg (by omega), if_pos (by omega)]; rfl
      · rw [if_neg c1]
        by_cases c2 : (i + 1) * 38 ≤ x ∧ x < (n + 1) * 38
        · rw [if_pos c2, if_pos (by omega)]; rfl
        · rw [if_neg c2, if_neg (by omega), if_neg (by omega)]
end Go.Proofs.YtjanndmmhjnpcaaDoor
