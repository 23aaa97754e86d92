/- GetAckFrame keeps its contracts. -/
import Derived.Test.YtgianhjmjiiadaaQmO
import Derived.Test.YtgianhjmjiiadaaQmE
import Derived.Test.YtgianhjmjiiadaaSyAb
set_option autoImplicit true
set_option relaxedAutoImplicit true
set_option linter.unusedVariables false
set_option linter.unusedSimpArgs false
namespace Go.Proofs.Ytgianhjmjiiadaa
open Go Go.Sy Go.RowKit Go.Shelf
set_option maxRecDepth 100000 in
theorem getack_no (m o : Nat) (w : World) (c6 : w.cell? ⟨m, o + 6, none⟩ = some (.bool false)) : Calls Try.prog 33 #[.pointer (some ⟨m, o, none⟩)] w fun e w' => e = .returned (.pointer none) ∧ w' = w := by
  go_enter Try.func33, Try.ntmps33
  go_wp2
  go_ret
  exact ⟨rfl, rfl⟩
theorem flatR_map (f : Nat → Int × Int) : ∀ k, flatR ((List.range k).map f) = (List.range (k * 2)).map fun j => .int .i64 (if j % 2 = 0 then (f (j / 2)).1 else (f (j / 2)).2)
  | 0 => rfl
  | k + 1 => by
    rw [List.range_succ, List.map_append, List.map_cons, List.map_nil, flatR_snoc, flatR_map f k, show (k + 1) * 2 = k * 2 + 1 + 1 by omega, List.range_succ, List.range_succ]
    simp only [List.map_append, List.map_cons, List.map_nil, List.append_assoc, List.cons_append, List.nil_append]
    rw [if_pos (by omega), if_neg (by omega), show k * 2 / 2 = k by omega, show (k * 2 + 1) / 2 = k by omega]
theorem downL_eq (A : Nat → Int) (k : Nat) : downL A k = (List.range k).map fun i => pr2 A (k - 1 - i) := by
  unfold downL
  apply List.ext_getElem?
  intro i
  rcases Nat.lt_or_ge i k with h | h
  · rw [List.getElem?_map, List.getElem?_map, List.getElem?_reverse (by simpa using h), List.length_range, List.getElem?_range (by omega), List.getElem?_range h]; rfl
  · rw [List.getElem?_eq_none (by simpa using h), List.getElem?_eq_none (by simpa using h)]
theorem flatR_down (A : Nat → Int) (k : Nat) : flatR (downL A k) = (List.range (k * 2)).map fun j => .int .i64 (rvA A k j) := by
  rw [downL_eq, flatR_map]
  apply List.map_congr_left
  intro j _
  unfold rvA pr2
  rcases Nat.mod_two_eq_zero_or_one j with h | h
  · rw [if_pos h, h]; rfl
  · rw [if_neg (by omega), h]
theorem HOk.add2 {E : Env} {β : Nat → Bk} {h : List SBlk} {w w' : World} (hw : HOk E β h w) (hb : h.all (SBlk.bnd h.length) = true) {s1 s2 : SBlk} {bk1 bk2 : Bk} (hos : w'.os = w.os) (htp : w'.tape = w.tape) (hop : w'.output = w.output) (hsz : w.heap.size ≤ w'.heap.size)
    (hsame : ∀ c, c < w.heap.size → w'.heap[c]? = w.heap[c]?) (n1 : ∀ x, s1.at E bk1 x → x < w'.heap.size ∧ w.heap.size ≤ x) (n2 : ∀ x, s2.at E bk2 x → x < w'.heap.size ∧ w.heap.size ≤ x) (hd : ∀ x, s1.at E bk1 x → s2.at E bk2 x → False)
    (k1 : s1.ok E (upB (upB β h.length bk1) (h.length + 1) bk2) bk1 w') (k2 : s2.ok E (upB (upB β h.length bk1) (h.length + 1) bk2) bk2 w') :
    HOk E (upB (upB β h.length bk1) (h.length + 1) bk2) (h ++ [s1, s2]) w' ∧ Ext E h β w E (h ++ [s1, s2]) (upB (upB β h.length bk1) (h.length + 1) bk2) w' := by
  obtain ⟨β', hβ'⟩ : ∃ b, b = upB (upB β h.length bk1) (h.length + 1) bk2 := ⟨_, rfl⟩
  rw [← hβ'] at k1 k2 ⊢
  have hag : ∀ i, i < h.length → β' i = β i := fun i hi => by rw [hβ', upB_ne (by omega), upB_ne (by omega)]
  have b1 : β' h.length = bk1 := by rw [hβ', upB_ne (by omega), upB_self]
  have b2 : β' (h.length + 1) = bk2 := by rw [hβ', upB_self]
  have get : ∀ i s, (h ++ [s1, s2])[i]? = some s → (i < h.length ∧ h[i]? = some s ∧ β' i = β i) ∨ (i = h.length ∧ s = s1 ∧ β' i = bk1) ∨ (i = h.length + 1 ∧ s = s2 ∧ β' i = bk2) := fun i s hs => by
    rcases Nat.lt_or_ge i h.length with h1 | h1
    · rw [List.getElem?_append_left h1] at hs; exact .inl ⟨h1, hs, hag i h1⟩
    · rw [List.getElem?_append_right h1] at hs
      have hl := (List.getElem?_eq_some_iff.1 hs).1
      simp at hl
      rcases (by omega : i = h.length ∨ i = h.length + 1) with h2 | h2
      · subst h2; simp at hs; exact .inr (.inl ⟨rfl, hs.symm, b1⟩)
      · subst h2; simp at hs; exact .inr (.inr ⟨rfl, hs.symm, b2⟩)
  refine ⟨⟨fun i j s t x hi hj hx hy => ?_, fun i s x hi hx => ?_, fun i s hi => ?_⟩, ⟨by simp, hag, fun i s' hi hs hwr => ?_, fun i s' x hs hx => ?_, hsz, fun b hb' _ => hsame b hb', hos, htp, hop⟩⟩
  · rcases get i s hi with ⟨p1, p2, p3⟩ | ⟨rfl, rfl, p3⟩ | ⟨rfl, rfl, p3⟩ <;> rcases get j t hj with ⟨q1, q2, q3⟩ | ⟨rfl, rfl, q3⟩ | ⟨rfl, rfl, q3⟩ <;> rw [p3] at hx <;> rw [q3] at hy
    · exact hw.dis i j s t x p2 q2 hx hy
    · have := hw.lt i s x p2 hx; have := (n1 x hy).2; omega
    · have := hw.lt i s x p2 hx; have := (n2 x hy).2; omega
    · have := hw.lt j t x q2 hy; have := (n1 x hx).2; omega
    · exact (hd x hx hy).elim
    · have := hw.lt j t x q2 hy; have := (n2 x hx).2; omega
    · exact (hd x hy hx).elim
  · rcases get i s hi with ⟨p1, p2, p3⟩ | ⟨rfl, rfl, p3⟩ | ⟨rfl, rfl, p3⟩ <;> rw [p3] at hx
    · exact Nat.lt_of_lt_of_le (hw.lt i s x p2 hx) hsz
    · exact (n1 x hx).1
    · exact (n2 x hx).1
  · rcases get i s hi with ⟨p1, p2, p3⟩ | ⟨rfl, rfl, p3⟩ | ⟨rfl, rfl, p3⟩ <;> rw [p3]
    · refine SBlk.ok_frame (fun x hx => hsame x (hw.lt i s x p2 hx)) ((SBlk.ok_agree hag s ?_ (β i) w).2 (hw.ok i s p2))
      exact List.all_eq_true.1 hb s (List.mem_of_getElem? p2)
    · exact k1
    · exact k2
  · rw [List.getElem?_append_left hi] at hs; exact ⟨s', hs, hwr⟩
  · rcases get i s' hs with ⟨p1, p2, p3⟩ | ⟨rfl, rfl, p3⟩ | ⟨rfl, rfl, p3⟩ <;> rw [p3] at hx
    · exact .inr ⟨i, s', p2, hx, .inr rfl⟩
    · exact .inl (n1 x hx).2
    · exact .inl (n2 x hx).2
theorem ok67 {E : Env} {β : Nat → Bk} {w : World} {G C n : Nat} {A : Nat → Int} {cs : List Value} {a : AE} {N : SE} (hn : (N.den E).toNat = n) (ha : a.den E = rvA A n) (h : w.ownsRow 0 67 2 (.slice (some ⟨G, 0, none⟩) n C) n (flatR (downL A n))) :
    SBlk.ok E β { a := G, z := false, n := n, c := C, o := 0 } w (rw67 a N) := by
  refine ⟨rfl, 0, rfl, ?_⟩
  rw [hn, Nat.add_zero]
  change w.ownsRow 0 67 2 (.slice (some ⟨G, 0, none⟩) n C) n _
  have e : rowCells E β (fun _ => .nilIface) a [.int .i64, .int .i64] n [] = flatR (downL A n) := by
    rw [iv_cells, flatR_down, ha]
  rw [e]; exact h
theorem pre33 {E : Env} {F : Fx} (hF : Facts E (newF ++ F)) : ∃ n : Nat, E.i 0 = n ∧ n ≤ 61 ∧ (E.b 0 = true → 1 ≤ n) := by
  have h : Facts E newF := fun q hq => hF q (List.mem_append_left _ hq)
  have a : 0 ≤ E.i 0 := of_decide_eq_true (h (.le (.c 0) (.v 0), true) (by simp [newF, bd]))
  have b : E.i 0 ≤ 61 := of_decide_eq_true (h (.le (.v 0) (.c 61), true) (by simp [newF, bd]))
  have c := h (orB (.not (.v 0)) (.le (.c 1) (.v 0)), true) (by simp [newF])
  refine ⟨(E.i 0).toNat, by omega, by omega, fun hb => ?_⟩
  have c' : (!((!(!E.b 0)) && !(decide ((1 : Int) ≤ E.i 0)))) = true := c
  rw [hb] at c'
  simp at c'
  omega
theorem rv_den {E : Env} (hE : E.fn = fns) {n : Nat} (hn : E.i 0 = n) : rvE.den E = rvA (E.a 0) n := by
  simp only [rvE, AE.den, SL.den, SE.den, hE]
  show rvA (fun j => E.a 0 j) (E.i 0).toNat = _
  rw [hn]; rfl
theorem world_wset {w : World} {m : Nat} {o : Obj} (h : w.heap[m]? = some o) : wset w m o = w := by
  have hm := Array.getElem?_eq_some_iff.1 h
  obtain ⟨hl, he⟩ := hm
  unfold wset
  have : w.heap.setIfInBounds m o = w.heap := by
    apply Array.ext_getElem?
    intro i
    rw [Array.getElem?_setIfInBounds]
    by_cases hi : m = i
    · subst hi; rw [if_pos rfl, if_pos hl, h]
    · rw [if_neg hi]
  rw [this]
set_option maxHeartbeats 2000000 in
theorem ct33n_ok : CtOk Try.prog fns ct33n := by
  intro E β w hE _ hw hF
  obtain ⟨n, hn, hn61, hn1⟩ := pre33 (F := []) (by rw [List.append_nil]; exact hF)
  have en : ((SE.v 0).den E).toNat = n := by simp only [SE.den]; omega
  refine ⟨fun a ha => ?_, ?_⟩
  · simp only [ct33n, altSel] at ha
    split at ha <;> (obtain rfl := Option.some.inj ha; intro q hq; cases hq)
  obtain ⟨ho, hm⟩ := hw.ok 0 _ rfl
  obtain ⟨m, hme⟩ : ∃ m, (β 0).a = m := ⟨_, rfl⟩
  rw [hme] at hm
  obtain ⟨csM, hcs⟩ : ∃ cs, cs = (SV.denL E β [.ptr 2 Off.z, .ptr 3 Off.z, .int .u64 (.v 31), .int .u64 (.v 32), .int .u64 (.v 33), .own 1, .int .i64 (.v 6), laN, .bool (.v 0), .int .i64 (.v 34), .int .i64 (.v 35), .int .i64 (.v 36), .bool (.v 1), .int .i64 (.v 37), .int .i64 (.v 38), .int .i64 (.v 39)]).toArray := ⟨_, rfl⟩
  have hm' : w.heap[m]? = some (.cells csM 88 (0, 0)) := by rw [hcs]; exact hm
  have cell : ∀ j, w.cell? ⟨m, j, none⟩ = csM[j]? := fun j => by simp [World.cell?, hm']
  have hargs : (SV.denL E β ct33n.args).toArray = #[.pointer (some ⟨m, 2, none⟩)] := by
    simp only [ct33n, trk, SV.denL, SV.den, Off.den, SE.den, hme, ho]; rfl
  rw [hargs]
  have hmw : m < w.heap.size := (Array.getElem?_eq_some_iff.1 hm').1
  by_cases hb : E.b 0 = true
  · have hn1 := hn1 hb
    obtain ⟨hz0, ho0, hn0, hnc, hcm, cur, hg, hcsz, hx⟩ := iv_of (hw.ok 1 _ rfl) (by rw [en]; omega)
    rw [en] at hn0 hx
    obtain ⟨g, hge⟩ : ∃ g, (β 1).a = g := ⟨_, rfl⟩
    rw [hge] at hg
    have hgw : g < w.heap.size := (Array.getElem?_eq_some_iff.1 hg).1
    have hv1 : (β 1).v = .slice (some ⟨g, 0, none⟩) n (β 1).c := by simp [Bk.v, hz0, hge, ho0, hn0]
    refine (callsIn_wide.1 (getack_nil 3 (by omega) m 2 g (β 1).c n (E.a 0) (E.i 31) (E.i 32) (E.i 33) hn1 (by omega) w csM 88 hm' hmw hgw (fun j => by simp [World.frozen?, hm']) (by rw [cell, hcs]; rfl) (by rw [cell, hcs]; rfl) (by rw [cell, hcs]; rfl) (by rw [cell, hcs, ← hv1]; rfl) (by rw [cell, hcs]; rfl) (by rw [cell, hcs, ← hb]; rfl)
      (fun j hj => by simp only [World.cell?, hg]; have : cur[j]? = some (.int .i64 (E.a 0 j)) := hx j hj; simpa using this))).mono ?_
    rintro e w' ⟨v', rfl, hG⟩
    obtain ⟨G, C, rfl⟩ : ∃ G C, v' = .slice (some ⟨G, 0, none⟩) n C := by
      rcases hG.row.2 with ⟨_, h0⟩ | ⟨G, C, _, h, _⟩
      · omega
      · exact ⟨G, C, h⟩
    have hGat : w.heap.size ≤ G := by
      rcases hG.at_ G rfl with h | h
      · simp [Value.ownBlock] at h
      · exact h
    obtain ⟨curG, hcurG⟩ := own_cells hG.row rfl
    have hGw : G < w'.heap.size := (Array.getElem?_eq_some_iff.1 hcurG).1
    have hKw : w.heap.size + 1 < w'.heap.size := (Array.getElem?_eq_some_iff.1 hG.kb).1
    have hGK : G ≠ w.heap.size + 1 := fun h => by rw [h, hG.kb] at hcurG; simp at hcurG
    have hmw' : m < w'.heap.size := Nat.lt_of_lt_of_le hmw hG.size
    have hwM : ∀ c, c ≠ m → (wset w' m (.cells csM 88 (0, 0))).heap[c]? = w'.heap[c]? := fun c hc => wset_other hc
    have hsz : (wset w' m (.cells csM 88 (0, 0))).heap.size = w'.heap.size := by simp [wset]
    obtain ⟨k1, k2⟩ := HOk.add2 (w' := wset w' m (.cells csM 88 (0, 0))) (s1 := rw67 rvE (.v 0)) (s2 := frB 4 (.c 0) (.v 31) (.v 32) (.v 33)) (bk1 := { a := G, z := false, n := n, c := C, o := 0 }) (bk2 := { a := w.heap.size + 1 }) hw (by decide) hG.os hG.tape hG.output (by rw [hsz]; exact hG.size)
      (fun c hc => by
        by_cases h : c = m
        · subst h; rw [wset_same hmw', hm']
        · rw [hwM c h]; exact hG.same c hc h (by omega) (by simp [Value.ownBlock]))
      (fun x hx => by
        have : x = G := SBlk.at_eq hx rfl
        subst this; rw [hsz]; exact ⟨hGw, hGat⟩)
      (fun x hx => by
        have : x = w.heap.size + 1 := SBlk.at_eq hx rfl
        subst this; rw [hsz]; exact ⟨hKw, by omega⟩)
      (fun x h1 h2 => by
        have e1 : x = G := SBlk.at_eq h1 rfl
        have e2 : x = w.heap.size + 1 := SBlk.at_eq h2 rfl
        omega)
      (ok67 (A := E.a 0) (cs := []) en (rv_den hE hn) ⟨hG.row.1, by
        rcases hG.row.2 with ⟨_, h0⟩ | ⟨G', C', cu, h, a1, a2, a3⟩
        · omega
        · simp only [Value.slice.injEq, Option.some.injEq, Addr.mk.injEq] at h
          obtain ⟨⟨rfl, -, -⟩, -, rfl⟩ := h
          exact .inr ⟨_, _, cu, rfl, a1, by rw [hwM _ (by omega)]; exact a2, a3⟩⟩)
      ⟨rfl, by
        show (wset w' m (.cells csM 88 (0, 0))).heap[w.heap.size + 1]? = _
        rw [hwM _ (by omega)]; exact hG.kb⟩
    obtain ⟨k3, k4⟩ := HOk.set (b := 0) (S := 88) (l' := [.ptr 2 Off.z, .ptr 3 Off.z, .int .u64 (.v 31), .int .u64 (.v 32), .int .u64 (.v 33), .own 1, .int .i64 (.v 6), .ptr 5 Off.z, .bool (.c false), .int .i64 (.v 34), .int .i64 (.v 35), .int .i64 (.v 36), .bool (.v 1), .int .i64 (.v 37), .int .i64 (.v 38), .int .i64 (.v 39)]) k1 rfl
    have ea : (upB (upB β 4 { a := G, z := false, n := n, c := C, o := 0 }) 5 { a := w.heap.size + 1 } 0) = β 0 := by rw [upB_ne (by decide), upB_ne (by decide)]
    have hW : wset (wset w' m (.cells csM 88 (0, 0))) ((upB (upB β 4 { a := G, z := false, n := n, c := C, o := 0 }) 5 { a := w.heap.size + 1 } 0).a) (.cells (SV.denL E (upB (upB β 4 { a := G, z := false, n := n, c := C, o := 0 }) 5 { a := w.heap.size + 1 }) [.ptr 2 Off.z, .ptr 3 Off.z, .int .u64 (.v 31), .int .u64 (.v 32), .int .u64 (.v 33), .own 1, .int .i64 (.v 6), .ptr 5 Off.z, .bool (.c false), .int .i64 (.v 34), .int .i64 (.v 35), .int .i64 (.v 36), .bool (.v 1), .int .i64 (.v 37), .int .i64 (.v 38), .int .i64 (.v 39)]).toArray 88 (0, 0)) = w' := by
      rw [ea, hme, wset_wset]
      refine Eq.trans ?_ (world_wset hG.mb)
      congr 2
      rw [hcs]; rfl
    have k5 : HOk E (upB (upB β 4 { a := G, z := false, n := n, c := C, o := 0 }) 5 { a := w.heap.size + 1 }) ct33n.alts[1].post w' := by rw [← hW]; exact k3
    have k6 : Ext E ct33n.heap β w E ct33n.alts[1].post (upB (upB β 4 { a := G, z := false, n := n, c := C, o := 0 }) 5 { a := w.heap.size + 1 }) w' := by rw [← hW]; exact k2.trans k4
    refine ctPost0 (c := ct33n) (a := ct33n.alts[1]) (β' := upB (upB β 4 { a := G, z := false, n := n, c := C, o := 0 }) 5 { a := w.heap.size + 1 }) ?_ rfl rfl ?_ k5 k6
    · simp only [ct33n, altSel, SB.den, hb, Bool.not_true, Bool.false_eq_true, if_false, if_true]; rfl
    · simp only [ct33n, List.getElem_cons_succ, List.getElem_cons_zero, SV.den, upB_self]; rfl
  · have hb' : E.b 0 = false := by simpa using hb
    refine (getack_no m 2 w (by rw [cell, hcs, ← hb']; rfl)).mono ?_
    rintro e w' ⟨rfl, rfl⟩
    refine ext_same E _ β w' _ ct33n rfl (a := ct33n.alts[0]) ?_ rfl rfl rfl rfl hw
    simp only [ct33n, altSel, SB.den, hb', Bool.not_false, if_true, List.getElem_cons_zero]
end Go.Proofs.Ytgianhjmjiiadaa
