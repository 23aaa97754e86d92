/- slices.Equal of two rows in fields keeps its contract. -/
import Derived.Test.YtjanndmmhjnpcaaDoorQcX
import Derived.Test.YtjanndmmhjnpcaaDoorQcP
import Derived.Test.YtjanndmmhjnpcaaDoorSyNs
import Derived.KernelRfl
set_option autoImplicit true
set_option relaxedAutoImplicit true
set_option linter.unusedVariables false
set_option linter.unusedSimpArgs false
set_option maxRecDepth 100000
set_option maxHeartbeats 8000000
namespace Go.Proofs.YtjanndmmhjnpcaaDoor
open Go Go.Sy Go.RowKit
noncomputable def weae0 : SE := .mul (.v 25) (.c 3)
noncomputable def weae1 : SE := .rd (.v 2) weae0
noncomputable def weae2 : SE := .rd (.v 32) (.v 25)
noncomputable def weae3 : SE := .mul weae0 (.c 64)
noncomputable def weae4 : SE := .mul (.v 25) (.c 64)
noncomputable def weax0 : Vl := .go 0 [(130, (.c 0))] [] [] [((.eq weae1 weae2), true), ((.le (.c 0) (.v 25)), true), ((.lt (.v 25) (.v 0)), true), ((.lt (.v 25) (.v 30)), true), ((.le (.c 0) weae1), true), ((.le weae1 (.c 64)), true), ((.le (.c 0) weae2), true), ((.le weae2 (.c 64)), true)] (.code (.loop (loopB (prm10w Tryd.prog).P 10 4))) (loopK (prm10w Tryd.prog).P 10 4)
noncomputable def weax1 : Vl := .out 0 [.b (.c false) (.ap 15 (.a (.v 4) (.i weae3 (.i weae1 (.a (.v 34) (.i weae4 (.i weae2 .nil))))))), .p 1000 (.i (.v 0) (.a (.v 0) (.a (.v 1) (.a (.v 2) (.a (.v 3) (.a (.v 4) .nil)))))) (.i (.v 0) (.a (.v 0) (.a (.v 1) (.a (.v 2) (.a (.v 3) (.a (.v 4) .nil)))))), .p 1001 (.i (.v 30) (.a (.v 30) (.a (.v 31) (.a (.v 32) (.a (.v 33) (.a (.v 34) .nil)))))) (.i (.v 30) (.a (.v 30) (.a (.v 31) (.a (.v 32) (.a (.v 33) (.a (.v 34) .nil))))))] [((.eq weae1 weae2), false), ((.le (.c 0) (.v 25)), true), ((.lt (.v 25) (.v 0)), true), ((.lt (.v 25) (.v 30)), true), ((.le (.c 0) weae1), true), ((.le weae1 (.c 64)), true), ((.le (.c 0) weae2), true), ((.le weae2 (.c 64)), true)]
noncomputable def weals : List Vl := [weax0, weax1]
theorem wearun : (run (prm10w Tryd.prog) 900 (enterD (prm10w Tryd.prog) ct10w)).map (vOf (prm10w Tryd.prog) ct10w (pts10w Tryd.prog)) = weals := by kernel_rfl
-- 2 ways; terms: weae0, weae1, weae2, weae3, weae4
noncomputable def wep0e0 : SE := .add (.v 130) (.c 1)
noncomputable def wep0e1 : SE := .mul (.v 25) (.c 3)
noncomputable def wep0e2 : SE := .mul wep0e1 (.c 64)
noncomputable def wep0e3 : SE := .add wep0e2 (.v 130)
noncomputable def wep0e4 : SE := .rd (.v 4) wep0e3
noncomputable def wep0e5 : SE := .mul (.v 25) (.c 64)
noncomputable def wep0e6 : SE := .add wep0e5 (.v 130)
noncomputable def wep0e7 : SE := .rd (.v 34) wep0e6
noncomputable def wep0e8 : SE := .rd (.v 32) (.v 25)
noncomputable def wep0e9 : SE := .rd (.v 2) wep0e1
noncomputable def wep0x0 : Vl := .go 0 [(130, wep0e0)] [] [] [((.eq wep0e4 wep0e7), true), ((.lt (.v 130) wep0e8), true), ((.lt (.v 130) wep0e9), true), ((.le (.c 0) (.v 25)), true), ((.lt (.v 25) (.v 0)), true), ((.lt (.v 25) (.v 30)), true), ((.le (.c 0) wep0e9), true), ((.le wep0e9 (.c 64)), true), ((.le (.c 0) wep0e8), true), ((.le wep0e8 (.c 64)), true), ((.le (.c 0) (.v 130)), true), ((.le (.v 130) (.c 64)), true), ((.eq wep0e9 wep0e8), true)] (.exit .normal) (.loop (loopB (prm10w Tryd.prog).P 10 4) :: loopK (prm10w Tryd.prog).P 10 4)
noncomputable def wep0x1 : Vl := .out 0 [.b (.c false) (.ap 15 (.a (.v 4) (.i wep0e2 (.i wep0e9 (.a (.v 34) (.i wep0e5 (.i wep0e8 .nil))))))), .p 1000 (.i (.v 0) (.a (.v 0) (.a (.v 1) (.a (.v 2) (.a (.v 3) (.a (.v 4) .nil)))))) (.i (.v 0) (.a (.v 0) (.a (.v 1) (.a (.v 2) (.a (.v 3) (.a (.v 4) .nil)))))), .p 1001 (.i (.v 30) (.a (.v 30) (.a (.v 31) (.a (.v 32) (.a (.v 33) (.a (.v 34) .nil)))))) (.i (.v 30) (.a (.v 30) (.a (.v 31) (.a (.v 32) (.a (.v 33) (.a (.v 34) .nil))))))] [((.eq wep0e4 wep0e7), false), ((.lt (.v 130) wep0e8), true), ((.lt (.v 130) wep0e9), true), ((.le (.c 0) (.v 25)), true), ((.lt (.v 25) (.v 0)), true), ((.lt (.v 25) (.v 30)), true), ((.le (.c 0) wep0e9), true), ((.le wep0e9 (.c 64)), true), ((.le (.c 0) wep0e8), true), ((.le wep0e8 (.c 64)), true), ((.le (.c 0) (.v 130)), true), ((.le (.v 130) (.c 64)), true), ((.eq wep0e9 wep0e8), true)]
noncomputable def wep0x2 : Vl := .dead [((.lt (.v 130) wep0e8), false), ((.lt (.v 130) wep0e9), true), ((.le (.c 0) (.v 25)), true), ((.lt (.v 25) (.v 0)), true), ((.lt (.v 25) (.v 30)), true), ((.le (.c 0) wep0e9), true), ((.le wep0e9 (.c 64)), true), ((.le (.c 0) wep0e8), true), ((.le wep0e8 (.c 64)), true), ((.le (.c 0) (.v 130)), true), ((.le (.v 130) (.c 64)), true), ((.eq wep0e9 wep0e8), true)]
noncomputable def wep0x3 : Vl := .out 0 [.b (.c true) (.ap 15 (.a (.v 4) (.i wep0e2 (.i wep0e9 (.a (.v 34) (.i wep0e5 (.i wep0e8 .nil))))))), .p 1000 (.i (.v 0) (.a (.v 0) (.a (.v 1) (.a (.v 2) (.a (.v 3) (.a (.v 4) .nil)))))) (.i (.v 0) (.a (.v 0) (.a (.v 1) (.a (.v 2) (.a (.v 3) (.a (.v 4) .nil)))))), .p 1001 (.i (.v 30) (.a (.v 30) (.a (.v 31) (.a (.v 32) (.a (.v 33) (.a (.v 34) .nil)))))) (.i (.v 30) (.a (.v 30) (.a (.v 31) (.a (.v 32) (.a (.v 33) (.a (.v 34) .nil))))))] [((.lt (.v 130) wep0e9), false), ((.le (.c 0) (.v 25)), true), ((.lt (.v 25) (.v 0)), true), ((.lt (.v 25) (.v 30)), true), ((.le (.c 0) wep0e9), true), ((.le wep0e9 (.c 64)), true), ((.le (.c 0) wep0e8), true), ((.le wep0e8 (.c 64)), true), ((.le (.c 0) (.v 130)), true), ((.le (.v 130) (.c 64)), true), ((.eq wep0e9 wep0e8), true)]
noncomputable def wep0ls : List Vl := [wep0x0, wep0x1, wep0x2, wep0x3]
theorem wep0run : (run (prm10w Tryd.prog) 900 (ptD (pts10w Tryd.prog) 0 10)).map (vOf (prm10w Tryd.prog) ct10w (pts10w Tryd.prog)) = wep0ls := by kernel_rfl
-- 4 ways; terms: wep0e0, wep0e1, wep0e2, wep0e3, wep0e4, wep0e5, wep0e6, wep0e7, wep0e8, wep0e9
theorem ixv : IxOk 1 0 (.v 25) idxP := fun E h => by
  have p0 : 0 ≤ E.i 25 := of_decide_eq_true (h (.le (.c 0) (.v 25), true) (by simp [idxP]))
  have p1 : E.i 25 < E.i 0 := of_decide_eq_true (h (.lt (.v 25) (.v 0), true) (by simp [idxP]))
  exact ⟨(E.i 25).toNat, by omega, by rw [d_v]; omega⟩
theorem btNW_ok : ∀ b ∈ btNW, BtOk Tryd.prog fns b := by
  intro b hb
  simp only [btNW, List.mem_cons, List.not_mem_nil, or_false] at hb
  rcases hb with rfl | rfl | rfl
  · exact btNsLen_ok rok1 (f := 0) (by decide) ixv t34
  · exact btNsIx_ok rok1 (f := 0) (by decide) ixv t34 s29
  · exact btNsLd_ok rok1 (f := 0) (by decide) ixv rfl (by kernel_rfl)
theorem prm10w_ok (E : Env) (hE : E.fn = fns) : PrmOk E (prm10w Tryd.prog) where
  bt := by
    intro b hb
    rw [hE]
    have hb' : b ∈ btN iz idxP ++ btNW := hb
    rcases List.mem_append.1 hb' with h | h
    · exact btN_ok (idxE_ok 3 0) b h
    · exact btNW_ok b h
  ct := by intro c hc; cases hc
  mix := Checked.mixed Tryd.checked
  okf := okf_call
  body := okf_body
  mts := by intro x hx; cases hx
  dfr := by intro x hx; cases hx
  dfk := by intro x hx; cases hx
structure I10w (E0 E : Env) (i k : Nat) : Prop where
  ag : AgP 100 E0 E
  h25 : E0.i 25 = i
  h130 : E.i 130 = k
  le : (k : Int) ≤ E0.a 2 (i * 3)
  eq : E0.a 2 (i * 3) = E0.a 32 i
  all : ∀ j, j < k → E0.a 4 (i * 192 + j) = E0.a 34 (i * 64 + j)
theorem ct10w_ok : CtOk Tryd.prog fns ct10w := by
  refine ct_of_pts (p := prm10w Tryd.prog) (pts := pts10w Tryd.prog) (n := 900) (c0 := enterD (prm10w Tryd.prog) ct10w) (fun E hE => prm10w_ok E hE) rfl (by intro q hq; cases hq) Tryd.func10 (by kernel_rfl) ?_ (fun E0 _ E => ∃ i k, I10w E0 E i k) (fun E0 _ E => (64 - E.i 130).toNat) weals wearun ?_ ?_
  · intro t ht
    simp only [pts10w, List.mem_cons, List.not_mem_nil, or_false] at ht
    subst ht
    exact ⟨by kernel_rfl, by decide⟩
  · intro E hE hF
    have H : AgP 100 E E := AgP.refl 100 E
    have hF' : Facts E [((.le (.c 0) (.v 25)), true)] := fun q hq => hF q (by simp at hq; subst hq; simp [ct10w, idxP])
    simp only [facts_cons, facts_nil, le_t, d_c, d_v, and_true] at hF'
    obtain ⟨i, hi⟩ : ∃ i : Nat, E.i 25 = i := ⟨(E.i 25).toNat, by omega⟩
    have y1 : weae1.den E = E.a 2 (i * 3) := by
      show E.a 2 (E.i 25 * 3).toNat = _
      rw [hi, show ((i : Int) * 3).toNat = i * 3 by omega]
    have y2 : weae2.den E = E.a 32 i := by
      show E.a 32 (E.i 25).toNat = _
      rw [hi]; rfl
    refine ⟨fun a ha => (by cases ha; intro q hq; cases hq), fun x hx => ?_⟩
    unfold weals at hx
    simp only [List.mem_cons, List.not_mem_nil, or_false] at hx
    rcases hx with rfl | rfl
    · intro hf
      have h1 := hf (SB.eq weae1 weae2, true) (by simp)
      have h2 := hf (SB.le (.c 0) weae1, true) (by simp)
      rw [eq_t, y1, y2] at h1
      rw [le_t, d_c, y1] at h2
      exact ⟨⟨_, rfl, .inl ⟨rfl, rfl⟩⟩, fun o => ⟨⟨i, 0, { ag := H.put o, h25 := hi, h130 := rfl, le := h2, eq := h1, all := fun j hj => absurd hj (Nat.not_lt_zero _) }⟩, fun b hb => by cases hb⟩⟩
    · intro hf
      have h1 := hf (SB.eq weae1 weae2, false) (by simp)
      have h1 : ¬ weae1.den E = weae2.den E := by simpa [SB.den, SE.den] using h1
      have r1 : (Eqn.b (.c false) (.ap 15 (.a (.v 4) (.i weae3 (.i weae1 (.a (.v 34) (.i weae4 (.i weae2 .nil)))))))).ok E E := by
        show false = _
        refine (Bool.eq_false_iff.2 fun h => ?_).symm
        exact h1 ((g15 hE _ _ _ _ _ _).1 h).1
      have r2 : (Eqn.p 1000 (.i (.v 0) (.a (.v 0) (.a (.v 1) (.a (.v 2) (.a (.v 3) (.a (.v 4) .nil)))))) (.i (.v 0) (.a (.v 0) (.a (.v 1) (.a (.v 2) (.a (.v 3) (.a (.v 4) .nil))))))).ok E E := Eqn.p_ag H _ _ rfl
      have r3 : (Eqn.p 1001 (.i (.v 30) (.a (.v 30) (.a (.v 31) (.a (.v 32) (.a (.v 33) (.a (.v 34) .nil)))))) (.i (.v 30) (.a (.v 30) (.a (.v 31) (.a (.v 32) (.a (.v 33) (.a (.v 34) .nil))))))).ok E E := Eqn.p_ag H _ _ rfl
      exact ⟨rfl, by (simp only [List.forall_mem_cons, List.not_mem_nil, false_imp_iff, implies_true, and_true]; (repeat' apply And.intro); all_goals (first | exact Eqn.i_ag (n := 100) (by assumption) _ rfl | exact Eqn.b_ag (n := 100) (by assumption) _ rfl | assumption))⟩
  · intro k t ht
    have hk : k = 0 := by
      have := (List.getElem?_eq_some_iff.1 ht).1
      simp [pts10w] at this; omega
    subst hk
    refine ⟨wep0ls, by rw [← ptD_some ht ct10w.g]; exact wep0run, fun E0 E hE0 hE hF0 ⟨i, k, hI⟩ => ?_⟩
    have H := hI.ag
    have h25 : E.i 25 = i := (H.i 25 (by decide)).trans hI.h25
    have qa2 : E.a 2 = E0.a 2 := H.a 2 (by decide)
    have qa4 : E.a 4 = E0.a 4 := H.a 4 (by decide)
    have qa32 : E.a 32 = E0.a 32 := H.a 32 (by decide)
    have qa34 : E.a 34 = E0.a 34 := H.a 34 (by decide)
    have h130 := hI.h130; have hle := hI.le; have heq := hI.eq
    have x2 : wep0e4.den E = E0.a 4 (i * 192 + k) := by
      show E.a 4 (E.i 25 * 3 * 64 + E.i 130).toNat = _
      rw [qa4, h130, h25, show ((i : Int) * 3 * 64 + (k : Int)).toNat = i * 192 + k by omega]
    have x3 : wep0e7.den E = E0.a 34 (i * 64 + k) := by
      show E.a 34 (E.i 25 * 64 + E.i 130).toNat = _
      rw [qa34, h130, h25, show ((i : Int) * 64 + (k : Int)).toNat = i * 64 + k by omega]
    have x8 : wep0e8.den E = E0.a 32 i := by
      show E.a 32 (E.i 25).toNat = _
      rw [qa32, h25]; rfl
    have x9 : wep0e9.den E = E0.a 2 (i * 3) := by
      show E.a 2 (E.i 25 * 3).toNat = _
      rw [qa2, h25, show ((i : Int) * 3).toNat = i * 3 by omega]
    have y8 : wep0e8.den E0 = E0.a 32 i := by
      show E0.a 32 (E0.i 25).toNat = _
      rw [hI.h25]; rfl
    have y9 : wep0e9.den E0 = E0.a 2 (i * 3) := by
      show E0.a 2 (E0.i 25 * 3).toNat = _
      rw [hI.h25, show ((i : Int) * 3).toNat = i * 3 by omega]
    have y2 : wep0e2.den E0 = (i * 192 : Int) := by
      show E0.i 25 * 3 * 64 = _
      rw [hI.h25]; omega
    have y5 : wep0e5.den E0 = (i * 64 : Int) := by
      show E0.i 25 * 64 = _
      rw [hI.h25]
    have r2 : (Eqn.p 1000 (.i (.v 0) (.a (.v 0) (.a (.v 1) (.a (.v 2) (.a (.v 3) (.a (.v 4) .nil)))))) (.i (.v 0) (.a (.v 0) (.a (.v 1) (.a (.v 2) (.a (.v 3) (.a (.v 4) .nil))))))).ok E E0 := Eqn.p_ag H _ _ rfl
    have r3 : (Eqn.p 1001 (.i (.v 30) (.a (.v 30) (.a (.v 31) (.a (.v 32) (.a (.v 33) (.a (.v 34) .nil)))))) (.i (.v 30) (.a (.v 30) (.a (.v 31) (.a (.v 32) (.a (.v 33) (.a (.v 34) .nil))))))).ok E E0 := Eqn.p_ag H _ _ rfl
    have e15 : (SB.ap 15 (.a (.v 4) (.i wep0e2 (.i wep0e9 (.a (.v 34) (.i wep0e5 (.i wep0e8 .nil))))))).den E0 = true ↔ ∀ j : Nat, (j : Int) < E0.a 2 (i * 3) → E0.a 4 (i * 192 + j) = E0.a 34 (i * 64 + j) := by
      rw [g15 hE0, y9, y8, y2, y5]
      constructor
      · intro h j hj
        have := h.2 j hj
        simp only [d_av] at this
        rw [show ((i : Int) * 192).toNat + j = i * 192 + j by omega, show ((i : Int) * 64).toNat + j = i * 64 + j by omega] at this
        exact this
      · intro h
        refine ⟨heq, fun j hj => ?_⟩
        simp only [d_av]
        rw [show ((i : Int) * 192).toNat + j = i * 192 + j by omega, show ((i : Int) * 64).toNat + j = i * 64 + j by omega]
        exact h j hj
    have h64 : E0.a 2 (i * 3) ≤ 64 := by
      have := hF0 (.le (.rd (.v 2) iz) (.c 64), true) (by simp [ct10w])
      rw [le_t, d_c] at this
      have e : (SE.rd (.v 2) iz).den E0 = wep0e9.den E0 := rfl
      rw [e, y9] at this; exact this
    refine ⟨?_, fun x hx => ?_⟩
    · obtain rfl := Option.some.inj ht
      refine facts_append (facts_append (H.facts (by decide) hF0) ?_) ?_
      · show Facts E [((.le (.c 0) (.v 130)), true), ((.le (.v 130) (.c 64)), true)]
        simp only [facts_cons, facts_nil, le_t, d_c, d_v, and_true]; omega
      · show Facts E [((.eq wep0e9 wep0e8), true)]
        simp only [facts_cons, facts_nil, eq_t, and_true]
        rw [x9, x8]; exact heq
    · unfold wep0ls at hx
      simp only [List.mem_cons, List.not_mem_nil, or_false] at hx
      rcases hx with rfl | rfl | rfl | rfl
      · intro hf
        have h1 := hf (SB.eq wep0e4 wep0e7, true) (by simp)
        have h2 := hf (SB.lt (.v 130) wep0e9, true) (by simp)
        rw [eq_t, x2, x3] at h1
        rw [lt_t, d_v, x9] at h2
        refine ⟨⟨_, rfl, .inr ⟨rfl, rfl⟩⟩, fun o => ⟨⟨i, k + 1, { ag := H.put o, h25 := hI.h25, h130 := (by show E.i 130 + 1 = _; omega), le := (by omega), eq := heq, all := fun j hj => ?_ }⟩, fun b hb => ?_⟩⟩
        · rcases Nat.lt_or_ge j k with h | h
          · exact hI.all j h
          · rw [show j = k by omega]; exact h1
        · obtain rfl := Option.some.inj hb
          show ((64 : Int) - (E.i 130 + 1)).toNat < ((64 : Int) - E.i 130).toNat
          omega
      · intro hf
        have h1 := hf (SB.eq wep0e4 wep0e7, false) (by simp)
        have h1 : ¬ wep0e4.den E = wep0e7.den E := by simpa [SB.den, SE.den] using h1
        have h2 := hf (SB.lt (.v 130) wep0e9, true) (by simp)
        rw [lt_t, d_v, x9] at h2
        have r1 : (Eqn.b (.c false) (.ap 15 (.a (.v 4) (.i wep0e2 (.i wep0e9 (.a (.v 34) (.i wep0e5 (.i wep0e8 .nil)))))))).ok E E0 := by
          show false = _
          refine (Bool.eq_false_iff.2 fun h => ?_).symm
          have := e15.1 h k (by omega)
          rw [x2, x3] at h1
          exact h1 this
        exact ⟨rfl, by (simp only [List.forall_mem_cons, List.not_mem_nil, false_imp_iff, implies_true, and_true]; (repeat' apply And.intro); all_goals (first | exact Eqn.i_ag (n := 100) (by assumption) _ rfl | exact Eqn.b_ag (n := 100) (by assumption) _ rfl | assumption))⟩
      · intro hf
        have h1 := hf (SB.lt (.v 130) wep0e8, false) (by simp)
        have h2 := hf (SB.lt (.v 130) wep0e9, true) (by simp)
        rw [lt_t, d_v, x9] at h2
        rw [lt_f, d_v, x8] at h1
        omega
      · intro hf
        have h2 := hf (SB.lt (.v 130) wep0e9, false) (by simp)
        rw [lt_f, d_v, x9] at h2
        have r1 : (Eqn.b (.c true) (.ap 15 (.a (.v 4) (.i wep0e2 (.i wep0e9 (.a (.v 34) (.i wep0e5 (.i wep0e8 .nil)))))))).ok E E0 := by
          show true = _
          exact (e15.2 fun j hj => hI.all j (by omega)).symm
        exact ⟨rfl, by (simp only [List.forall_mem_cons, List.not_mem_nil, false_imp_iff, implies_true, and_true]; (repeat' apply And.intro); all_goals (first | exact Eqn.i_ag (n := 100) (by assumption) _ rfl | exact Eqn.b_ag (n := 100) (by assumption) _ rfl | assumption))⟩
end Go.Proofs.YtjanndmmhjnpcaaDoor
