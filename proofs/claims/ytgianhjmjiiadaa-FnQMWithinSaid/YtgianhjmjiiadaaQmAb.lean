/- The trackers of the first spaces hand out their frames. -/
import Derived.Test.YtgianhjmjiiadaaQmAa
import Derived.Test.YtgianhjmjiiadaaQmU
set_option autoImplicit true
set_option relaxedAutoImplicit true
set_option linter.unusedVariables false
set_option linter.unusedSimpArgs false
set_option maxRecDepth 100000
namespace Go.Proofs.Ytgianhjmjiiadaa
open Go Go.Sy Go.RowKit
set_option maxHeartbeats 2000000 in
theorem ct33kn_ok : CtOk Try.prog fns ct33kn := by
  intro E β w hE _ hw hF
  obtain ⟨n, hn, hn61, hn1⟩ := pre33 (F := []) (by rw [List.append_nil]; exact hF)
  have en : ((SE.v 0).den E).toNat = n := by simp only [SE.den]; omega
  refine ⟨fun a ha => ?_, ?_⟩
  · simp only [ct33kn, altSel] at ha
    split at ha <;> (obtain rfl := Option.some.inj ha; intro q hq; cases hq)
  obtain ⟨ho, hm⟩ := hw.ok 0 _ rfl
  obtain ⟨m, hme⟩ : ∃ m, (β 0).a = m := ⟨_, rfl⟩
  rw [hme] at hm
  obtain ⟨csM, hcs⟩ : ∃ cs, cs = (SV.denL E β [.int .u64 (.v 31), .int .u64 (.v 32), .int .u64 (.v 33), .own 1, .int .i64 (.v 6), .nilptr, .bool (.v 0)]).toArray := ⟨_, rfl⟩
  have hm' : w.heap[m]? = some (.cells csM 82 (0, 0)) := by rw [hcs]; exact hm
  have cell : ∀ j, w.cell? ⟨m, j, none⟩ = csM[j]? := fun j => by simp [World.cell?, hm']
  have hargs : (SV.denL E β ct33kn.args).toArray = #[.pointer (some ⟨m, 0, none⟩)] := by
    simp only [ct33kn, trk, SV.denL, SV.den, Off.den, SE.den, hme, ho]; rfl
  rw [hargs]
  have hmw : m < w.heap.size := (Array.getElem?_eq_some_iff.1 hm').1
  by_cases hb : E.b 0 = true
  · have hn1 := hn1 hb
    obtain ⟨hz0, ho0, hn0, hnc, hcm, cur, hg, hcsz, hx⟩ := iv_of (hw.ok 1 _ rfl) (by rw [en]; omega)
    rw [en] at hn0 hx
    obtain ⟨g, hge⟩ : ∃ g, (β 1).a = g := ⟨_, rfl⟩
    rw [hge] at hg
    have hgw : g < w.heap.size := (Array.getElem?_eq_some_iff.1 hg).1
    have hv1 : (β 1).v = .slice (some ⟨g, 0, none⟩) n (β 1).c := by simp [Bk.v, hz0, hge, ho0, hn0]
    refine (callsIn_wide.1 (getack_nil 3 (by omega) m 0 g (β 1).c n (E.a 0) (E.i 31) (E.i 32) (E.i 33) hn1 (by omega) w csM 82 hm' hmw hgw (fun j => by simp [World.frozen?, hm']) (by rw [cell, hcs]; rfl) (by rw [cell, hcs]; rfl) (by rw [cell, hcs]; rfl) (by rw [cell, hcs, ← hv1]; rfl) (by rw [cell, hcs]; rfl) (by rw [cell, hcs, ← hb]; rfl)
      (fun j hj => by simp only [World.cell?, hg]; have : cur[j]? = some (.int .i64 (E.a 0 j)) := hx j hj; simpa using this))).mono ?_
    rintro e w' ⟨v', rfl, hG⟩
    obtain ⟨G, C, rfl⟩ : ∃ G C, v' = .slice (some ⟨G, 0, none⟩) n C := by
      rcases hG.row.2 with ⟨_, h0⟩ | ⟨G, C, _, h, _⟩
      · omega
      · exact ⟨G, C, h⟩
    have hGat : w.heap.size ≤ G := by
      rcases hG.at_ G rfl with h | h
      · simp [Value.ownBlock] at h
      · exact h
    obtain ⟨curG, hcurG⟩ := own_cells hG.row rfl
    have hGw : G < w'.heap.size := (Array.getElem?_eq_some_iff.1 hcurG).1
    have hKw : w.heap.size + 1 < w'.heap.size := (Array.getElem?_eq_some_iff.1 hG.kb).1
    have hGK : G ≠ w.heap.size + 1 := fun h => by rw [h, hG.kb] at hcurG; simp at hcurG
    have hmw' : m < w'.heap.size := Nat.lt_of_lt_of_le hmw hG.size
    have hwM : ∀ c, c ≠ m → (wset w' m (.cells csM 82 (0, 0))).heap[c]? = w'.heap[c]? := fun c hc => wset_other hc
    have hsz : (wset w' m (.cells csM 82 (0, 0))).heap.size = w'.heap.size := by simp [wset]
    obtain ⟨k1, k2⟩ := HOk.add2 (w' := wset w' m (.cells csM 82 (0, 0))) (s1 := rw67 rvE (.v 0)) (s2 := frB 2 (.c 0) (.v 31) (.v 32) (.v 33)) (bk1 := { a := G, z := false, n := n, c := C, o := 0 }) (bk2 := { a := w.heap.size + 1 }) hw (by decide) hG.os hG.tape hG.output (by rw [hsz]; exact hG.size)
      (fun c hc => by
        by_cases h : c = m
        · subst h; rw [wset_same hmw', hm']
        · rw [hwM c h]; exact hG.same c hc h (by omega) (by simp [Value.ownBlock]))
      (fun x hx => by
        have : x = G := SBlk.at_eq hx rfl
        subst this; rw [hsz]; exact ⟨hGw, hGat⟩)
      (fun x hx => by
        have : x = w.heap.size + 1 := SBlk.at_eq hx rfl
        subst this; rw [hsz]; exact ⟨hKw, by omega⟩)
      (fun x h1 h2 => by
        have e1 : x = G := SBlk.at_eq h1 rfl
        have e2 : x = w.heap.size + 1 := SBlk.at_eq h2 rfl
        omega)
      (ok67 (A := E.a 0) (cs := []) en (rv_den hE hn) ⟨hG.row.1, by
        rcases hG.row.2 with ⟨_, h0⟩ | ⟨G', C', cu, h, a1, a2, a3⟩
        · omega
        · simp only [Value.slice.injEq, Option.some.injEq, Addr.mk.injEq] at h
          obtain ⟨⟨rfl, -, -⟩, -, rfl⟩ := h
          exact .inr ⟨_, _, cu, rfl, a1, by rw [hwM _ (by omega)]; exact a2, a3⟩⟩)
      ⟨rfl, by
        show (wset w' m (.cells csM 82 (0, 0))).heap[w.heap.size + 1]? = _
        rw [hwM _ (by omega)]; exact hG.kb⟩
    obtain ⟨k3, k4⟩ := HOk.set (b := 0) (S := 82) (l' := [.int .u64 (.v 31), .int .u64 (.v 32), .int .u64 (.v 33), .own 1, .int .i64 (.v 6), .ptr 3 Off.z, .bool (.c false)]) k1 rfl
    have ea : (upB (upB β 2 { a := G, z := false, n := n, c := C, o := 0 }) 3 { a := w.heap.size + 1 } 0) = β 0 := by rw [upB_ne (by decide), upB_ne (by decide)]
    have hW : wset (wset w' m (.cells csM 82 (0, 0))) ((upB (upB β 2 { a := G, z := false, n := n, c := C, o := 0 }) 3 { a := w.heap.size + 1 } 0).a) (.cells (SV.denL E (upB (upB β 2 { a := G, z := false, n := n, c := C, o := 0 }) 3 { a := w.heap.size + 1 }) [.int .u64 (.v 31), .int .u64 (.v 32), .int .u64 (.v 33), .own 1, .int .i64 (.v 6), .ptr 3 Off.z, .bool (.c false)]).toArray 82 (0, 0)) = w' := by
      rw [ea, hme, wset_wset]
      refine Eq.trans ?_ (world_wset hG.mb)
      congr 2
      rw [hcs]; rfl
    have k5 : HOk E (upB (upB β 2 { a := G, z := false, n := n, c := C, o := 0 }) 3 { a := w.heap.size + 1 }) ct33kn.alts[1].post w' := by rw [← hW]; exact k3
    have k6 : Ext E ct33kn.heap β w E ct33kn.alts[1].post (upB (upB β 2 { a := G, z := false, n := n, c := C, o := 0 }) 3 { a := w.heap.size + 1 }) w' := by rw [← hW]; exact k2.trans k4
    refine ctPost0 (c := ct33kn) (a := ct33kn.alts[1]) (β' := upB (upB β 2 { a := G, z := false, n := n, c := C, o := 0 }) 3 { a := w.heap.size + 1 }) ?_ rfl rfl ?_ k5 k6
    · simp only [ct33kn, altSel, SB.den, hb, Bool.not_true, Bool.false_eq_true, if_false, if_true]; rfl
    · simp only [ct33kn, List.getElem_cons_succ, List.getElem_cons_zero, SV.den, upB_self]; rfl
  · have hb' : E.b 0 = false := by simpa using hb
    refine (getack_no m 0 w (by rw [cell, hcs, ← hb']; rfl)).mono ?_
    rintro e w' ⟨rfl, rfl⟩
    refine ext_same E _ β w' _ ct33kn rfl (a := ct33kn.alts[0]) ?_ rfl rfl rfl rfl hw
    simp only [ct33kn, altSel, SB.den, hb', Bool.not_false, if_true, List.getElem_cons_zero]
end Go.Proofs.Ytgianhjmjiiadaa
