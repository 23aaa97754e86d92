/- GetAckFrame keeps its contract where a frame is kept. -/
import Derived.Test.YtgianhjmjiiadaaQmT
set_option autoImplicit true
set_option relaxedAutoImplicit true
set_option linter.unusedVariables false
set_option linter.unusedSimpArgs false
namespace Go.Proofs.Ytgianhjmjiiadaa
open Go Go.Sy Go.RowKit Go.Shelf
theorem rw67_of {E : Env} {β : Nat → Bk} {w : World} {bk : Bk} {a : AE} {n : SE} (h : SBlk.ok E β bk w (rw67 a n)) (hn : 1 ≤ (n.den E).toNat) :
    bk.z = false ∧ bk.o = 0 ∧ bk.n = (n.den E).toNat ∧ bk.n ≤ bk.c ∧ bk.c ≤ maxLen ∧ ∃ cur, w.heap[bk.a]? = some (.cells cur 67 (0, 0)) ∧ cur.size = bk.c * 2 ∧ ∀ x, x < (n.den E).toNat * 2 → cur[x]? = some (.int .i64 (a.den E x)) := by
  obtain ⟨ho, m, hm, hown⟩ := h
  have hm0 : m = 0 := by
    have : (0 : Nat) = m * 2 := hm
    omega
  subst hm0
  rw [Nat.add_zero] at hown
  change w.ownsRow 0 67 2 bk.v (n.den E).toNat _ at hown
  rw [iv_cells] at hown
  rcases hown.2 with ⟨_, h0⟩ | ⟨g, cap, cur, hv, _, hg, hc, hcm, hcs, hx⟩
  · omega
  · unfold Bk.v at hv
    split at hv
    · cases hv
    · rename_i hz
      simp only [Value.slice.injEq, Option.some.injEq, Addr.mk.injEq] at hv
      obtain ⟨⟨rfl, -, -⟩, h1, rfl⟩ := hv
      refine ⟨by simpa using hz, ho, h1, by omega, hcm, cur, hg, hcs, fun x hx' => ?_⟩
      have e : (cur.toList.take ((n.den E).toNat * 2))[x]? = cur[x]? := by
        rw [List.getElem?_take, if_pos hx']; simp
      rw [← e, hx, List.getElem?_map, List.getElem?_range hx']; rfl
theorem wset4 {w : World} {K m : Nat} {a b c d : Obj} (hK : w.heap[K]? = some c) (hm : w.heap[m]? = some d) (hne : K ≠ m) : wset (wset (wset (wset w K a) m b) K c) m d = w := by
  have hl := (Array.getElem?_eq_some_iff.1 hK).1
  have hl2 := (Array.getElem?_eq_some_iff.1 hm).1
  have e : ∀ (w1 : World), w1 = { w with heap := w1.heap } → w1.heap = w.heap → w1 = w := fun w1 h1 h2 => by rw [h1, h2]
  refine e _ rfl ?_
  apply Array.ext_getElem?
  intro i
  by_cases h1 : i = m
  · subst h1; rw [wset_same (by simp [wset]; exact hl2), hm]
  · rw [wset_other h1]
    by_cases h2 : i = K
    · subst h2; rw [wset_same (by simp [wset]; exact hl), hK]
    · rw [wset_other h2, wset_other h1, wset_other h2]
set_option maxHeartbeats 2000000 in
theorem ct33t_ok : CtOk Try.prog fns ct33t := by
  intro E β w hE _ hw hF
  obtain ⟨n, hn, hn61, hn1⟩ := pre33 (F := bd (.v 40) 1 61) hF
  have en : ((SE.v 0).den E).toNat = n := by simp only [SE.den]; omega
  have f1 : 1 ≤ E.i 40 := of_decide_eq_true (hF (.le (.c 1) (.v 40), true) (by simp [ct33t, newF, bd]))
  have f2 : E.i 40 ≤ 61 := of_decide_eq_true (hF (.le (.v 40) (.c 61), true) (by simp [ct33t, newF, bd]))
  refine ⟨fun a ha => ?_, ?_⟩
  · simp only [ct33t, altSel] at ha
    split at ha <;> (obtain rfl := Option.some.inj ha; intro q hq; cases hq)
  obtain ⟨ho, hm⟩ := hw.ok 0 _ rfl
  obtain ⟨ho4, hK⟩ := hw.ok 4 _ rfl
  obtain ⟨hz5, ho5, hn5, hnc5, hcm5, cur5, hg5, hcs5, hx5⟩ := rw67_of (hw.ok 5 _ rfl) (by simp only [SE.den]; omega)
  have e40 : ((SE.v 40).den E).toNat = (E.i 40).toNat := by simp only [SE.den]
  obtain ⟨mm, hmm⟩ : ∃ mm, (E.i 40).toNat = mm := ⟨_, rfl⟩
  rw [e40, hmm] at hn5 hx5
  obtain ⟨m, hme⟩ : ∃ m, (β 0).a = m := ⟨_, rfl⟩
  obtain ⟨K, hKe⟩ : ∃ m, (β 4).a = m := ⟨_, rfl⟩
  obtain ⟨rb, hre⟩ : ∃ m, (β 5).a = m := ⟨_, rfl⟩
  rw [hme] at hm; rw [hKe] at hK; rw [hre] at hg5
  obtain ⟨csM, hcs⟩ : ∃ cs, cs = (SV.denL E β [.ptr 2 Off.z, .ptr 3 Off.z, .int .u64 (.v 31), .int .u64 (.v 32), .int .u64 (.v 33), .own 1, .int .i64 (.v 6), laT, .bool (.v 0), .int .i64 (.v 34), .int .i64 (.v 35), .int .i64 (.v 36), .bool (.v 1), .int .i64 (.v 37), .int .i64 (.v 38), .int .i64 (.v 39)]).toArray := ⟨_, rfl⟩
  have hm' : w.heap[m]? = some (.cells csM 88 (0, 0)) := by rw [hcs]; exact hm
  have hv5 : (β 5).v = .slice (some ⟨rb, 0, none⟩) mm (β 5).c := by simp [Bk.v, hz5, hre, ho5, hn5]
  have hK' : w.heap[K]? = some (.cells #[.slice (some ⟨rb, 0, none⟩) mm (β 5).c, .int .i64 (E.i 41), .int .u64 (E.i 42), .int .u64 (E.i 43), .int .u64 (E.i 44)] 65 (0, 0)) := by rw [← hv5]; exact hK
  have cell : ∀ j, w.cell? ⟨m, j, none⟩ = csM[j]? := fun j => by simp [World.cell?, hm']
  have hargs : (SV.denL E β ct33t.args).toArray = #[.pointer (some ⟨m, 2, none⟩)] := by
    simp only [ct33t, trk, SV.denL, SV.den, Off.den, SE.den, hme, ho]; rfl
  rw [hargs]
  have hmw : m < w.heap.size := (Array.getElem?_eq_some_iff.1 hm').1
  have hKw : K < w.heap.size := (Array.getElem?_eq_some_iff.1 hK').1
  have hrw : rb < w.heap.size := (Array.getElem?_eq_some_iff.1 hg5).1
  have hKm : K ≠ m := fun h => by rw [h, hm'] at hK'; simp at hK'
  have hrK : rb ≠ K := fun h => by rw [h, hK'] at hg5; simp at hg5
  have hrm : rb ≠ m := fun h => by rw [h, hm'] at hg5; simp at hg5
  by_cases hb : E.b 0 = true
  · have hn1 := hn1 hb
    obtain ⟨hz0, ho0, hn0, hnc, hcm, cur, hg, hcsz, hx⟩ := iv_of (hw.ok 1 _ rfl) (by rw [en]; omega)
    rw [en] at hn0 hx
    obtain ⟨g, hge⟩ : ∃ g, (β 1).a = g := ⟨_, rfl⟩
    rw [hge] at hg
    have hgw : g < w.heap.size := (Array.getElem?_eq_some_iff.1 hg).1
    have hKg : K ≠ g := fun h => by rw [h, hg] at hK'; simp at hK'
    have hrg : rb ≠ g := fun h => by rw [h, hg] at hg5; simp at hg5
    have hv1 : (β 1).v = .slice (some ⟨g, 0, none⟩) n (β 1).c := by simp [Bk.v, hz0, hge, ho0, hn0]
    refine (callsIn_wide.1 (getack_some 3 (by omega) m 2 g (β 1).c n (E.a 0) (E.i 31) (E.i 32) (E.i 33) hn1 (by omega) K rb mm (β 5).c cur5 (E.a 2) (E.i 41) (E.i 42) (E.i 43) (E.i 44) w hKm hKg hrK hrm hrg hK' hg5 (by omega) (by omega) hcm5 hcs5
      (fun j hj => by simp only [World.cell?, hg5]; have : cur5[j]? = some (.int .i64 (E.a 2 j)) := hx5 j hj; simpa using this)
      csM 88 hm' hmw hgw (fun j => by simp [World.frozen?, hm']) (by rw [cell, hcs]; rfl) (by rw [cell, hcs]; rfl) (by rw [cell, hcs]; rfl) (by rw [cell, hcs, ← hv1]; rfl) (by
        rw [cell, hcs]
        show some (Value.pointer (some ⟨(β 4).a, (β 4).o + Off.den E Off.z, none⟩)) = _
        rw [ho4, hKe]; rfl) (by rw [cell, hcs, ← hb]; rfl)
      (fun j hj => by simp only [World.cell?, hg]; have : cur[j]? = some (.int .i64 (E.a 0 j)) := hx j hj; simpa using this))).mono ?_
    rintro e w' ⟨v', rfl, hG⟩
    obtain ⟨G, C, rfl⟩ : ∃ G C, v' = .slice (some ⟨G, 0, none⟩) n C := by
      rcases hG.row.2 with ⟨_, h0⟩ | ⟨G, C, _, h, _⟩
      · omega
      · exact ⟨G, C, h⟩
    have hGat : G = rb ∨ w.heap.size ≤ G := by
      rcases hG.at_ G rfl with h | h
      · left; simpa [Value.ownBlock] using h.symm
      · exact .inr h
    obtain ⟨curG, hcurG⟩ := own_cells hG.row rfl
    have hGw : G < w'.heap.size := (Array.getElem?_eq_some_iff.1 hcurG).1
    have hGK : G ≠ K := fun h => by rw [h, hG.kb] at hcurG; simp at hcurG
    have hGm : G ≠ m := fun h => by rw [h, hG.mb] at hcurG; simp at hcurG
    have hmw' : m < w'.heap.size := Nat.lt_of_lt_of_le hmw hG.size
    have hKw' : K < w'.heap.size := Nat.lt_of_lt_of_le hKw hG.size
    obtain ⟨oK, hoK⟩ : ∃ o : Obj, o = .cells #[.slice (some ⟨rb, 0, none⟩) mm (β 5).c, .int .i64 (E.i 41), .int .u64 (E.i 42), .int .u64 (E.i 43), .int .u64 (E.i 44)] 65 (0, 0) := ⟨_, rfl⟩
    obtain ⟨wM, hwMe⟩ : ∃ x, x = wset (wset w' K oK) m (.cells csM 88 (0, 0)) := ⟨_, rfl⟩
    have hwM : ∀ c, c ≠ m → c ≠ K → wM.heap[c]? = w'.heap[c]? := fun c h1 h2 => by rw [hwMe, wset_other h1, wset_other h2]
    have hsz : wM.heap.size = w'.heap.size := by simp [hwMe, wset]
    have hwm : wM.heap[m]? = w.heap[m]? := by rw [hwMe, wset_same (by simp [wset]; exact hmw'), hm']
    have hwK : wM.heap[K]? = w.heap[K]? := by rw [hwMe, wset_other hKm, wset_same hKw', hoK, hK']
    have hat5 : ∀ x, (rw67 (.v 2) (.v 40)).at E (β 5) x ↔ x = rb := fun x => ⟨fun h => (SBlk.at_eq h rfl).trans hre, fun h => by rw [h, ← hre]; exact SBlk.at_of hz5 rfl⟩
    obtain ⟨k1, k2⟩ := HOk.absorb (E := E) (E2 := E) (β := β) (h := ct33t.heap) (w := w) (w' := wM) (bk := { a := G, z := false, n := n, c := C, o := 0 }) (s1 := rw67 rvE (.v 0)) hw (by decide) [5] (AgE.refl 500 E) (by decide) (by rw [hwMe]; exact hG.os) (by rw [hwMe]; exact hG.tape) (by rw [hwMe]; exact hG.output) (by rw [hsz]; exact hG.size)
      (fun k hk hn' => by
        have hkr : k ≠ rb := fun h => hn' 5 _ rfl rfl ((hat5 k).2 h)
        by_cases h1 : k = m
        · rw [h1]; exact hwm
        · by_cases h2 : k = K
          · rw [h2]; exact hwK
          · rw [hwM k h1 h2]; exact hG.same k hk h1 h2 (by simp [Value.ownBlock]; omega))
      (fun j s' hj hs x hx => by
        have : j = 5 := by simpa using hj
        subst this; cases hs; exact hz5)
      (fun x hx => by
        have : x = G := SBlk.at_eq hx rfl
        subst this; rw [hsz]
        refine ⟨hGw, ?_⟩
        rcases hGat with h | h
        · exact .inr ⟨5, _, rfl, rfl, (hat5 _).2 h⟩
        · exact .inl h)
      (ok67 (A := E.a 0) (cs := []) en (rv_den hE hn) ⟨hG.row.1, by
        rcases hG.row.2 with ⟨_, h0⟩ | ⟨G', C', cu, h, a1, a2, a3⟩
        · omega
        · simp only [Value.slice.injEq, Option.some.injEq, Addr.mk.injEq] at h
          obtain ⟨⟨rfl, -, -⟩, -, rfl⟩ := h
          exact .inr ⟨_, _, cu, rfl, a1, by rw [hwM _ hGm hGK]; exact a2, a3⟩⟩)
    obtain ⟨k3, k4⟩ := HOk.set (b := 4) (S := 65) (l' := [.own 6, .int .i64 (.c 0), .int .u64 (.v 31), .int .u64 (.v 32), .int .u64 (.v 33)]) k1 rfl
    obtain ⟨k5, k6⟩ := HOk.set (b := 0) (S := 88) (l' := [.ptr 2 Off.z, .ptr 3 Off.z, .int .u64 (.v 31), .int .u64 (.v 32), .int .u64 (.v 33), .own 1, .int .i64 (.v 6), laT, .bool (.c false), .int .i64 (.v 34), .int .i64 (.v 35), .int .i64 (.v 36), .bool (.v 1), .int .i64 (.v 37), .int .i64 (.v 38), .int .i64 (.v 39)]) k3 rfl
    have hW : wset (wset wM (upB β 6 { a := G, z := false, n := n, c := C, o := 0 } 4).a (.cells (SV.denL E (upB β 6 { a := G, z := false, n := n, c := C, o := 0 }) [.own 6, .int .i64 (.c 0), .int .u64 (.v 31), .int .u64 (.v 32), .int .u64 (.v 33)]).toArray 65 (0, 0))) (upB β 6 { a := G, z := false, n := n, c := C, o := 0 } 0).a (.cells (SV.denL E (upB β 6 { a := G, z := false, n := n, c := C, o := 0 }) [.ptr 2 Off.z, .ptr 3 Off.z, .int .u64 (.v 31), .int .u64 (.v 32), .int .u64 (.v 33), .own 1, .int .i64 (.v 6), laT, .bool (.c false), .int .i64 (.v 34), .int .i64 (.v 35), .int .i64 (.v 36), .bool (.v 1), .int .i64 (.v 37), .int .i64 (.v 38), .int .i64 (.v 39)]).toArray 88 (0, 0)) = w' := by
      rw [upB_ne (by decide : (4 : Nat) ≠ 6), upB_ne (by decide : (0 : Nat) ≠ 6), hme, hKe, hwMe]
      refine Eq.trans ?_ (wset4 (a := oK) (b := .cells csM 88 (0, 0)) hG.kb hG.mb hKm)
      congr 2
      rw [hcs]
      show _ = ((SV.denL E β [.ptr 2 Off.z, .ptr 3 Off.z, .int .u64 (.v 31), .int .u64 (.v 32), .int .u64 (.v 33), .own 1, .int .i64 (.v 6), laT, .bool (.v 0), .int .i64 (.v 34), .int .i64 (.v 35), .int .i64 (.v 36), .bool (.v 1), .int .i64 (.v 37), .int .i64 (.v 38), .int .i64 (.v 39)]).toArray.setIfInBounds 7 (.pointer (some ⟨K, 0, none⟩))).setIfInBounds 8 (.bool false)
      have e4 : Value.pointer (some ⟨K, 0, none⟩) = (SV.ptr 4 Off.z).den E β := by
        show _ = Value.pointer (some ⟨(β 4).a, (β 4).o + Off.den E Off.z, none⟩)
        rw [ho4, hKe]; rfl
      rw [e4]; rfl
    have k7 : HOk E (upB β 6 { a := G, z := false, n := n, c := C, o := 0 }) ct33t.alts[1].post w' := by rw [← hW]; exact k5
    have k8 : Ext E ct33t.heap β w E ct33t.alts[1].post (upB β 6 { a := G, z := false, n := n, c := C, o := 0 }) w' := by rw [← hW]; exact (k2.trans k4).trans k6
    refine ctPost0 (c := ct33t) (a := ct33t.alts[1]) (β' := upB β 6 { a := G, z := false, n := n, c := C, o := 0 }) ?_ rfl rfl ?_ k7 k8
    · simp only [ct33t, altSel, SB.den, hb, Bool.not_true, Bool.false_eq_true, if_false, if_true]; rfl
    · simp only [ct33t, List.getElem_cons_succ, List.getElem_cons_zero, SV.den, Off.den, Off.z, SE.den]
      rw [upB_ne (by decide : (4 : Nat) ≠ 6), ho4, hKe]; rfl
  · have hb' : E.b 0 = false := by simpa using hb
    refine (getack_no m 2 w (by rw [cell, hcs, ← hb']; rfl)).mono ?_
    rintro e w' ⟨rfl, rfl⟩
    refine ext_same E _ β w' _ ct33t rfl (a := ct33t.alts[0]) ?_ rfl rfl rfl rfl hw
    simp only [ct33t, altSel, SB.den, hb', Bool.not_false, if_true, List.getElem_cons_zero]
end Go.Proofs.Ytgianhjmjiiadaa
