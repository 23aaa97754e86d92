/- slices.Equal and qcAwake keep their contracts. -/
import Derived.Test.YtjanndmmhjnpcaaDoorQcL
import Derived.Test.YtjanndmmhjnpcaaDoorQcH
import Derived.Test.YtjanndmmhjnpcaaDoorSyNs
import Derived.KernelRfl
set_option autoImplicit true
set_option relaxedAutoImplicit true
set_option linter.unusedVariables false
set_option linter.unusedSimpArgs false
set_option maxRecDepth 100000
set_option maxHeartbeats 8000000
namespace Go.Proofs.YtjanndmmhjnpcaaDoor
open Go Go.Sy Go.RowKit
noncomputable def oae0 : SE := .rd (.v 2) (.c 6)
noncomputable def oax0 : Vl := .go 0 [(130, (.c 0))] [] [] [((.eq oae0 (.v 50)), true), ((.lt (.c 2) (.v 0)), true), ((.le (.c 0) oae0), true), ((.le oae0 (.c 64)), true), ((.le (.c 0) (.v 50)), true), ((.le (.v 50) (.c 64)), true)] (.code (.loop (loopB (prm10 Tryd.prog (.c 6) pre6c).P 10 4))) (loopK (prm10 Tryd.prog (.c 6) pre6c).P 10 4)
noncomputable def oax1 : Vl := .out 0 [.b (.c false) (.ap 15 (.a (.v 4) (.i (.c 384) (.i oae0 (.a (.v 50) (.i (.c 0) (.i (.v 50) .nil))))))), .p 1000 (.i (.v 0) (.a (.v 0) (.a (.v 1) (.a (.v 2) (.a (.v 3) (.a (.v 4) .nil)))))) (.i (.v 0) (.a (.v 0) (.a (.v 1) (.a (.v 2) (.a (.v 3) (.a (.v 4) .nil)))))), .a (.v 50) (.v 50) (.v 50) 1, .i (.v 50) (.v 50)] [((.eq oae0 (.v 50)), false), ((.lt (.c 2) (.v 0)), true), ((.le (.c 0) oae0), true), ((.le oae0 (.c 64)), true), ((.le (.c 0) (.v 50)), true), ((.le (.v 50) (.c 64)), true)]
noncomputable def oals : List Vl := [oax0, oax1]
theorem oarun : (run (prm10 Tryd.prog (.c 6) pre6c) 900 (enterD (prm10 Tryd.prog (.c 6) pre6c) ct10c)).map (vOf (prm10 Tryd.prog (.c 6) pre6c) ct10c (pts10 Tryd.prog (.c 6) pre6c)) = oals := by kernel_rfl
-- 2 ways; terms: oae0
noncomputable def op0e0 : SE := .add (.v 130) (.c 1)
noncomputable def op0e1 : SE := .add (.c 384) (.v 130)
noncomputable def op0e2 : SE := .rd (.v 4) op0e1
noncomputable def op0e3 : SE := .rd (.v 50) (.v 130)
noncomputable def op0e4 : SE := .rd (.v 2) (.c 6)
noncomputable def op0x0 : Vl := .go 0 [(130, op0e0)] [] [] [((.eq op0e2 op0e3), true), ((.lt (.v 130) (.v 50)), true), ((.lt (.v 130) op0e4), true), ((.lt (.c 2) (.v 0)), true), ((.le (.c 0) op0e4), true), ((.le op0e4 (.c 64)), true), ((.le (.c 0) (.v 50)), true), ((.le (.v 50) (.c 64)), true), ((.le (.c 0) (.v 130)), true), ((.le (.v 130) (.c 64)), true), ((.eq op0e4 (.v 50)), true)] (.exit .normal) (.loop (loopB (prm10 Tryd.prog (.c 6) pre6c).P 10 4) :: loopK (prm10 Tryd.prog (.c 6) pre6c).P 10 4)
noncomputable def op0x1 : Vl := .out 0 [.b (.c false) (.ap 15 (.a (.v 4) (.i (.c 384) (.i op0e4 (.a (.v 50) (.i (.c 0) (.i (.v 50) .nil))))))), .p 1000 (.i (.v 0) (.a (.v 0) (.a (.v 1) (.a (.v 2) (.a (.v 3) (.a (.v 4) .nil)))))) (.i (.v 0) (.a (.v 0) (.a (.v 1) (.a (.v 2) (.a (.v 3) (.a (.v 4) .nil)))))), .a (.v 50) (.v 50) (.v 50) 1, .i (.v 50) (.v 50)] [((.eq op0e2 op0e3), false), ((.lt (.v 130) (.v 50)), true), ((.lt (.v 130) op0e4), true), ((.lt (.c 2) (.v 0)), true), ((.le (.c 0) op0e4), true), ((.le op0e4 (.c 64)), true), ((.le (.c 0) (.v 50)), true), ((.le (.v 50) (.c 64)), true), ((.le (.c 0) (.v 130)), true), ((.le (.v 130) (.c 64)), true), ((.eq op0e4 (.v 50)), true)]
noncomputable def op0x2 : Vl := .dead [((.lt (.v 130) (.v 50)), false), ((.lt (.v 130) op0e4), true), ((.lt (.c 2) (.v 0)), true), ((.le (.c 0) op0e4), true), ((.le op0e4 (.c 64)), true), ((.le (.c 0) (.v 50)), true), ((.le (.v 50) (.c 64)), true), ((.le (.c 0) (.v 130)), true), ((.le (.v 130) (.c 64)), true), ((.eq op0e4 (.v 50)), true)]
noncomputable def op0x3 : Vl := .out 0 [.b (.c true) (.ap 15 (.a (.v 4) (.i (.c 384) (.i op0e4 (.a (.v 50) (.i (.c 0) (.i (.v 50) .nil))))))), .p 1000 (.i (.v 0) (.a (.v 0) (.a (.v 1) (.a (.v 2) (.a (.v 3) (.a (.v 4) .nil)))))) (.i (.v 0) (.a (.v 0) (.a (.v 1) (.a (.v 2) (.a (.v 3) (.a (.v 4) .nil)))))), .a (.v 50) (.v 50) (.v 50) 1, .i (.v 50) (.v 50)] [((.lt (.v 130) op0e4), false), ((.lt (.c 2) (.v 0)), true), ((.le (.c 0) op0e4), true), ((.le op0e4 (.c 64)), true), ((.le (.c 0) (.v 50)), true), ((.le (.v 50) (.c 64)), true), ((.le (.c 0) (.v 130)), true), ((.le (.v 130) (.c 64)), true), ((.eq op0e4 (.v 50)), true)]
noncomputable def op0ls : List Vl := [op0x0, op0x1, op0x2, op0x3]
theorem op0run : (run (prm10 Tryd.prog (.c 6) pre6c) 900 (ptD (pts10 Tryd.prog (.c 6) pre6c) 0 10)).map (vOf (prm10 Tryd.prog (.c 6) pre6c) ct10c (pts10 Tryd.prog (.c 6) pre6c)) = op0ls := by kernel_rfl
-- 4 ways; terms: op0e0, op0e1, op0e2, op0e3, op0e4
noncomputable def wae0 : AE := .tl (.v 0) (.c 0) (.i (.c 0) (.i (.c 1) (.i (.c 0) (.i (.c 1) (.i (.c 1) (.i (.c 1) (.i (.c 0) (.i (.c 0) (.i (.c 0) (.i (.c 0) (.i (.c 2) (.i (.c 0) (.i (.c 0) (.i (.c 0) (.i (.c 0) .nil)))))))))))))))
noncomputable def wae1 : AE := .ap 22 (.a wae0 (.i (.c 0) .nil))
noncomputable def wae2 : AE := .ap 21 (.a wae0 (.i (.c 0) .nil))
noncomputable def wae3 : SE := .rd wae2 (.c 6)
noncomputable def wae4 : AE := .tl (.v 0) (.c 0) (.i (.c 0) .nil)
noncomputable def wae5 : AE := .ap 20 (.a wae0 (.i (.c 0) .nil))
noncomputable def wae6 : SE := .rd wae5 (.c 13)
noncomputable def wax0 : Vl := .out 0 [.b (.ap 15 (.a wae1 (.i (.c 384) (.i wae3 (.a wae4 (.i (.c 0) (.i (.c 1) .nil))))))) (.c true)] [((.le wae3 (.c 64)), true), ((.le (.c 0) wae3), true), ((.eq wae6 (.c 1)), true), ((.ap 3 (.a wae0 (.i (.c 3) .nil))), true)]
noncomputable def wax1 : Vl := .dead [((.le wae3 (.c 64)), false), ((.le (.c 0) wae3), true), ((.eq wae6 (.c 1)), true), ((.ap 3 (.a wae0 (.i (.c 3) .nil))), true)]
noncomputable def wax2 : Vl := .dead [((.le (.c 0) wae3), false), ((.eq wae6 (.c 1)), true), ((.ap 3 (.a wae0 (.i (.c 3) .nil))), true)]
noncomputable def wax3 : Vl := .out 0 [.b (.c false) (.c true)] [((.eq wae6 (.c 1)), false), ((.ap 3 (.a wae0 (.i (.c 3) .nil))), true)]
noncomputable def wax4 : Vl := .dead [((.ap 3 (.a wae0 (.i (.c 3) .nil))), false)]
noncomputable def wals : List Vl := [wax0, wax1, wax2, wax3, wax4]
theorem warun : (run (prm7 Tryd.prog) 900 (enterD (prm7 Tryd.prog) ct7)).map (vOf (prm7 Tryd.prog) ct7 []) = wals := by kernel_rfl
-- 5 ways; terms: wae0, wae1, wae2, wae3, wae4, wae5, wae6
theorem s29 : sizeT Tryd.prog 29 = some 1 := by kernel_rfl
theorem btN_ok {ix : SE} {pre : Fx} (hix : IxOk 3 0 ix pre) : ∀ b ∈ btN ix pre, BtOk Tryd.prog fns b := by
  intro b hb
  simp only [btN, List.mem_cons, List.not_mem_nil, or_false] at hb
  rcases hb with rfl | rfl | rfl
  · exact btNsLen_ok rok6 (f := 0) (by decide) hix t34
  · exact btNsIx_ok rok6 (f := 0) (by decide) hix t34 s29
  · exact btNsLd_ok rok6 (f := 0) (by decide) hix rfl (by kernel_rfl)
theorem s37 : sizeT Tryd.prog 37 = some 6 := by kernel_rfl
theorem btR_ok : ∀ b ∈ btR, BtOk Tryd.prog fns b := by
  intro b hb
  simp only [btR, List.mem_cons, List.not_mem_nil, or_false] at hb
  rcases hb with rfl | rfl | rfl | rfl | rfl
  · exact btRecLen_ok rok6 t26
  · exact btRecIx_ok rok6 t26 s37
  · exact btRecLd_ok rok6 (by decide) (by kernel_rfl)
  · exact btRecLd_ok rok6 (by decide) (by kernel_rfl)
  · exact btRecLd_ok rok6 (by decide) (by kernel_rfl)
theorem ix6c : IxOk 3 0 (.c 6) pre6c := fun E h => by
  have p0 : 2 < E.i 0 := of_decide_eq_true (h (.lt (.c 2) (.v 0), true) (by simp [pre6c]))
  exact ⟨2, by omega, rfl⟩
theorem prm10_ok (E : Env) (hE : E.fn = fns) : PrmOk E (prm10 Tryd.prog (.c 6) pre6c) where
  bt := by intro b hb; rw [hE]; exact btN_ok ix6c b hb
  ct := by intro c hc; cases hc
  mix := Checked.mixed Tryd.checked
  okf := okf_call
  body := okf_body
  mts := by intro x hx; cases hx
  dfr := by intro x hx; cases hx
  dfk := by intro x hx; cases hx
theorem g15 {E : Env} (hE : E.fn = fns) (A B : AE) (a n b m : SE) : (SB.ap 15 (.a A (.i a (.i n (.a B (.i b (.i m .nil))))))).den E = true ↔ (n.den E = m.den E ∧ ∀ j : Nat, (j : Int) < n.den E → A.den E ((a.den E).toNat + j) = B.den E ((b.den E).toNat + j)) := by
  have e : (SB.ap 15 (.a A (.i a (.i n (.a B (.i b (.i m .nil))))))).den E = fns.g 15 [.a (A.den E), .i (a.den E), .i (n.den E), .a (B.den E), .i (b.den E), .i (m.den E)] := by
    simp only [SB.den, SL.den, hE]
  rw [e]
  classical
  exact decide_eq_true_iff
structure I10 (E0 E : Env) (k : Nat) : Prop where
  ag : AgP 100 E0 E
  h130 : E.i 130 = k
  le : (k : Int) ≤ E0.a 2 6
  eq : E0.a 2 6 = E0.i 50
  all : ∀ j, j < k → E0.a 4 (384 + j) = E0.a 50 j
theorem ct10c_ok : CtOk Tryd.prog fns ct10c := by
  refine ct_of_pts (p := prm10 Tryd.prog (.c 6) pre6c) (pts := pts10 Tryd.prog (.c 6) pre6c) (n := 900) (c0 := enterD (prm10 Tryd.prog (.c 6) pre6c) ct10c) (fun E hE => prm10_ok E hE) rfl (by intro q hq; cases hq) Tryd.func10 (by kernel_rfl) ?_ (fun E0 _ E => ∃ k, I10 E0 E k) (fun E0 _ E => (E0.a 2 6 - E.i 130).toNat) oals oarun ?_ ?_
  · intro t ht
    simp only [pts10, List.mem_cons, List.not_mem_nil, or_false] at ht
    subst ht
    exact ⟨by kernel_rfl, by decide⟩
  · intro E hE hF
    have H : AgP 100 E E := AgP.refl 100 E
    have rd6 : (SE.rd (.v 2) (.c 6)).den E = E.a 2 6 := by simp only [SE.den, AE.den]; rfl
    refine ⟨fun a ha => (by cases ha; intro q hq; cases hq), fun x hx => ?_⟩
    unfold oals at hx
    simp only [List.mem_cons, List.not_mem_nil, or_false] at hx
    rcases hx with rfl | rfl
    · intro hf
      have h1 := hf (SB.eq oae0 (.v 50), true) (by simp)
      have h2 := hf (SB.le (.c 0) oae0, true) (by simp)
      rw [eq_t, d_v, show oae0.den E = _ from rd6] at h1
      rw [le_t, d_c, show oae0.den E = _ from rd6] at h2
      exact ⟨⟨_, rfl, .inl ⟨rfl, rfl⟩⟩, fun o => ⟨⟨0, { ag := H.put o, h130 := rfl, le := h2, eq := h1, all := fun j hj => absurd hj (Nat.not_lt_zero _) }⟩, fun b hb => by cases hb⟩⟩
    · intro hf
      have h1 := hf (SB.eq oae0 (.v 50), false) (by simp)
      have h1 : ¬ oae0.den E = E.i 50 := by simpa [SB.den, SE.den] using h1
      have r1 : (Eqn.b (.c false) (.ap 15 (.a (.v 4) (.i (.c 384) (.i oae0 (.a (.v 50) (.i (.c 0) (.i (.v 50) .nil)))))))).ok E E := by
        show false = _
        refine (Bool.eq_false_iff.2 fun h => ?_).symm
        exact h1 ((g15 hE _ _ _ _ _ _).1 h).1
      have r2 : (Eqn.p 1000 (.i (.v 0) (.a (.v 0) (.a (.v 1) (.a (.v 2) (.a (.v 3) (.a (.v 4) .nil)))))) (.i (.v 0) (.a (.v 0) (.a (.v 1) (.a (.v 2) (.a (.v 3) (.a (.v 4) .nil))))))).ok E E := Eqn.p_ag H _ _ rfl
      have r3 : (Eqn.a (.v 50) (.v 50) (.v 50) 1).ok E E := Eqn.a_ag H _ _ _ rfl
      exact ⟨rfl, by (simp only [List.forall_mem_cons, List.not_mem_nil, false_imp_iff, implies_true, and_true]; (repeat' apply And.intro); all_goals (first | exact Eqn.i_ag (n := 100) (by assumption) _ rfl | exact Eqn.b_ag (n := 100) (by assumption) _ rfl | assumption))⟩
  · intro k t ht
    have hk : k = 0 := by
      have := (List.getElem?_eq_some_iff.1 ht).1
      simp [pts10] at this; omega
    subst hk
    refine ⟨op0ls, by rw [← ptD_some ht ct10c.g]; exact op0run, fun E0 E hE0 hE hF0 ⟨k, hI⟩ => ?_⟩
    have H := hI.ag
    have hF' : Facts E0 [((.lt (.c 2) (.v 0)), true), ((.le (.c 0) (.rd (.v 2) (.c 6))), true), ((.le (.rd (.v 2) (.c 6)) (.c 64)), true), ((.le (.c 0) (.v 50)), true), ((.le (.v 50) (.c 64)), true)] := hF0
    have rd6 : ∀ X : Env, (SE.rd (.v 2) (.c 6)).den X = X.a 2 6 := fun X => by simp only [SE.den, AE.den]; rfl
    simp only [facts_cons, facts_nil, lt_t, le_t, d_c, d_v, rd6, and_true] at hF'
    obtain ⟨a1, a2, a3, a4, a5⟩ := hF'
    have q50 := H.i 50 (by decide)
    have qa2 : E.a 2 = E0.a 2 := H.a 2 (by decide)
    have qa4 : E.a 4 = E0.a 4 := H.a 4 (by decide)
    have qa50 : E.a 50 = E0.a 50 := H.a 50 (by decide)
    have h130 := hI.h130; have hle := hI.le; have heq := hI.eq
    have x2 : op0e2.den E = E0.a 4 (384 + k) := by
      show E.a 4 (384 + E.i 130).toNat = _
      rw [qa4, h130, show ((384 : Int) + (k : Int)).toNat = 384 + k by omega]
    have x3 : op0e3.den E = E0.a 50 k := by
      show E.a 50 (E.i 130).toNat = _
      rw [qa50, h130]; rfl
    have x4 : op0e4.den E = E0.a 2 6 := by
      show (SE.rd (.v 2) (.c 6)).den E = _
      rw [rd6, qa2]
    have y4 : (SE.rd (.v 2) (.c 6)).den E0 = E0.a 2 6 := rd6 E0
    have r2 : (Eqn.p 1000 (.i (.v 0) (.a (.v 0) (.a (.v 1) (.a (.v 2) (.a (.v 3) (.a (.v 4) .nil)))))) (.i (.v 0) (.a (.v 0) (.a (.v 1) (.a (.v 2) (.a (.v 3) (.a (.v 4) .nil))))))).ok E E0 := Eqn.p_ag H _ _ rfl
    have r3 : (Eqn.a (.v 50) (.v 50) (.v 50) 1).ok E E0 := Eqn.a_ag H _ _ _ rfl
    have e15 : (SB.ap 15 (.a (.v 4) (.i (.c 384) (.i op0e4 (.a (.v 50) (.i (.c 0) (.i (.v 50) .nil))))))).den E0 = true ↔ ∀ j : Nat, (j : Int) < E0.a 2 6 → E0.a 4 (384 + j) = E0.a 50 j := by
      rw [g15 hE0]
      have z : op0e4.den E0 = E0.a 2 6 := y4
      rw [z]
      constructor
      · intro h j hj
        have := h.2 j hj
        simp only [d_c, d_av] at this
        rw [show (384 : Int).toNat + j = 384 + j by omega, show (0 : Int).toNat + j = j by omega] at this
        exact this
      · intro h
        refine ⟨heq, fun j hj => ?_⟩
        simp only [d_c, d_av]
        rw [show (384 : Int).toNat + j = 384 + j by omega, show (0 : Int).toNat + j = j by omega]
        exact h j hj
    refine ⟨?_, fun x hx => ?_⟩
    · obtain rfl := Option.some.inj ht
      refine facts_append (facts_append (H.facts (by decide) hF0) ?_) ?_
      · show Facts E [((.le (.c 0) (.v 130)), true), ((.le (.v 130) (.c 64)), true)]
        simp only [facts_cons, facts_nil, le_t, d_c, d_v, and_true]; omega
      · show Facts E [((.eq (.rd (.v 2) (.c 6)) (.v 50)), true)]
        simp only [facts_cons, facts_nil, eq_t, d_v, rd6, and_true]
        rw [qa2, q50]; exact heq
    · unfold op0ls at hx
      simp only [List.mem_cons, List.not_mem_nil, or_false] at hx
      rcases hx with rfl | rfl | rfl | rfl
      · intro hf
        have h1 := hf (SB.eq op0e2 op0e3, true) (by simp)
        have h2 := hf (SB.lt (.v 130) op0e4, true) (by simp)
        rw [eq_t, x2, x3] at h1
        rw [lt_t, d_v, x4] at h2
        refine ⟨⟨_, rfl, .inr ⟨rfl, rfl⟩⟩, fun o => ⟨⟨k + 1, { ag := H.put o, h130 := (by show E.i 130 + 1 = _; omega), le := (by omega), eq := heq, all := fun j hj => ?_ }⟩, fun b hb => ?_⟩⟩
        · rcases Nat.lt_or_ge j k with h | h
          · exact hI.all j h
          · rw [show j = k by omega]; exact h1
        · obtain rfl := Option.some.inj hb
          show (E0.a 2 6 - (E.i 130 + 1)).toNat < _
          omega
      · intro hf
        have h1 := hf (SB.eq op0e2 op0e3, false) (by simp)
        have h1 : ¬ op0e2.den E = op0e3.den E := by simpa [SB.den, SE.den] using h1
        have h2 := hf (SB.lt (.v 130) op0e4, true) (by simp)
        rw [lt_t, d_v, x4] at h2
        have r1 : (Eqn.b (.c false) (.ap 15 (.a (.v 4) (.i (.c 384) (.i op0e4 (.a (.v 50) (.i (.c 0) (.i (.v 50) .nil)))))))).ok E E0 := by
          show false = _
          refine (Bool.eq_false_iff.2 fun h => ?_).symm
          have := e15.1 h k (by omega)
          rw [x2, x3] at h1
          exact h1 this
        exact ⟨rfl, by (simp only [List.forall_mem_cons, List.not_mem_nil, false_imp_iff, implies_true, and_true]; (repeat' apply And.intro); all_goals (first | exact Eqn.i_ag (n := 100) (by assumption) _ rfl | exact Eqn.b_ag (n := 100) (by assumption) _ rfl | assumption))⟩
      · intro hf
        have h1 := hf (SB.lt (.v 130) (.v 50), false) (by simp)
        have h2 := hf (SB.lt (.v 130) op0e4, true) (by simp)
        rw [lt_t, d_v, x4] at h2
        rw [lt_f, d_v, d_v] at h1
        omega
      · intro hf
        have h2 := hf (SB.lt (.v 130) op0e4, false) (by simp)
        rw [lt_f, d_v, x4] at h2
        have r1 : (Eqn.b (.c true) (.ap 15 (.a (.v 4) (.i (.c 384) (.i op0e4 (.a (.v 50) (.i (.c 0) (.i (.v 50) .nil)))))))).ok E E0 := by
          show true = _
          exact (e15.2 fun j hj => hI.all j (by omega)).symm
        exact ⟨rfl, by (simp only [List.forall_mem_cons, List.not_mem_nil, false_imp_iff, implies_true, and_true]; (repeat' apply And.intro); all_goals (first | exact Eqn.i_ag (n := 100) (by assumption) _ rfl | exact Eqn.b_ag (n := 100) (by assumption) _ rfl | assumption))⟩
theorem awake {S : Nat → Int} (h0 : S 0 = 0) (h1 : S 1 = 1) (h2 : S 2 = 0) (h5 : S 5 = 1) (h10 : S 10 = 2) : nowAt S 0 2 = 1 ∧ retAt S 0 2 = [0] := by
  have e1 : stq S 0 1 = { q := [1] } := by
    show QS.step {} 0 (S (0 * 5)) (S (0 * 5 + 1)) (S (0 * 5 + 2)) = _
    rw [show S (0 * 5) = 0 from h0, show S (0 * 5 + 1) = 1 from h1, show S (0 * 5 + 2) = 0 from h2]
    kernel_rfl
  have e2 : stq S 0 2 = { q := [1], ready := true } := by
    show QS.step (stq S 0 1) 0 (S (1 * 5)) (S (1 * 5 + 1)) (S (1 * 5 + 2)) = _
    rw [e1, show S (1 * 5) = 1 from h5]
    rfl
  constructor
  · unfold nowAt
    rw [e2, show S (2 * 5) = 2 from h10]
    kernel_rfl
  · unfold retAt
    rw [e2, show S (2 * 5) = 2 from h10]
    rfl
theorem prm7_ok (E : Env) (hE : E.fn = fns) : PrmOk E (prm7 Tryd.prog) where
  bt := by intro b hb; rw [hE]; exact btR_ok b hb
  ct := by
    intro c hc
    have : c = ct6 ∨ c = ct10c := by simpa [prm7] using hc
    rw [hE]
    rcases this with rfl | rfl
    · exact ct6_ok
    · exact ct10c_ok
  mix := Checked.mixed Tryd.checked
  okf := okf_call
  body := okf_body
  mts := by intro x hx; cases hx
  dfr := by intro x hx; cases hx
  dfk := by intro x hx; cases hx
theorem ct7_ok : CtOk Tryd.prog fns ct7 := by
  refine ct_of_ptsX (p := prm7 Tryd.prog) (pts := []) (n := 900) (c0 := enterD (prm7 Tryd.prog) ct7) (fun E hE => prm7_ok E hE) rfl (by intro q hq; cases hq) Tryd.func7 (by kernel_rfl) (by intro t ht; cases ht) (fun _ _ _ => False) (fun _ _ _ => 0) wals warun ?_ (by intro i t ht; cases ht)
  intro E0 hE0 hF
  refine ⟨fun a ha => (by cases ha; intro q hq; cases hq), fun E H1 _ x hx => ?_⟩
  have hE : E.fn = fns := H1.fn.trans hE0
  obtain ⟨S, hS⟩ : ∃ S, S = wae0.den E := ⟨_, rfl⟩
  have sv : ∀ j, S j = (SL.i (.c 0) (.i (.c 1) (.i (.c 0) (.i (.c 1) (.i (.c 1) (.i (.c 1) (.i (.c 0) (.i (.c 0) (.i (.c 0) (.i (.c 0) (.i (.c 2) (.i (.c 0) (.i (.c 0) (.i (.c 0) (.i (.c 0) .nil))))))))))))))).nth E j := fun j => by
    rw [hS]
    unfold wae0
    simp only [AE.den, d_c, Int.toNat_zero, Nat.not_lt_zero, if_false, Nat.sub_zero]
  obtain ⟨n1, n2⟩ := awake (S := S) (sv 0) (sv 1) (sv 2) (sv 5) (sv 10)
  have hok : SOk S 3 := fun i hi => by
    have : i = 0 ∨ i = 1 ∨ i = 2 := by omega
    rcases this with rfl | rfl | rfl
    · rw [show S (0 * 5) = 0 from sv 0, show S (0 * 5 + 1) = 1 from sv 1, show S (0 * 5 + 2) = 0 from sv 2, show S (0 * 5 + 3) = 1 from sv 3, show S (0 * 5 + 4) = 1 from sv 4]
      decide
    · rw [show S (1 * 5) = 1 from sv 5, show S (1 * 5 + 1) = 0 from sv 6, show S (1 * 5 + 2) = 0 from sv 7, show S (1 * 5 + 3) = 0 from sv 8, show S (1 * 5 + 4) = 0 from sv 9]
      decide
    · rw [show S (2 * 5) = 2 from sv 10, show S (2 * 5 + 1) = 0 from sv 11, show S (2 * 5 + 2) = 0 from sv 12, show S (2 * 5 + 3) = 0 from sv 13, show S (2 * 5 + 4) = 0 from sv 14]
      decide
  have c20 : wae5.den E = colA S 0 := by
    rw [hS]; funext t; unfold wae5; simp only [AE.den, SL.den, SE.den, hE]; rfl
  have c21 : wae2.den E = colL S 0 := by
    rw [hS]; funext t; unfold wae2; simp only [AE.den, SL.den, SE.den, hE]; rfl
  have c22 : wae1.den E = colC S 0 := by
    rw [hS]; funext t; unfold wae1; simp only [AE.den, SL.den, SE.den, hE]; rfl
  have x6 : wae6.den E = 1 := by
    show wae5.den E 13 = 1
    rw [c20]; show nowAt S 0 2 = 1; exact n1
  have x3 : wae3.den E = 1 := by
    show wae2.den E 6 = 1
    rw [c21]
    show (((retAt S 0 2).length : Nat) : Int) = 1
    rw [n2]; rfl
  unfold wals at hx
  simp only [List.mem_cons, List.not_mem_nil, or_false] at hx
  rcases hx with rfl | rfl | rfl | rfl | rfl
  · intro hf
    refine ⟨rfl, E0, ?_, fun a' ha' => (by cases ha'; intro q hq; cases hq)⟩
    intro q hq
    have : q = .b (.ap 15 (.a wae1 (.i (.c 384) (.i wae3 (.a wae4 (.i (.c 0) (.i (.c 1) .nil))))))) (.c true) := by simpa using hq
    subst this
    show (SB.ap 15 (.a wae1 (.i (.c 384) (.i wae3 (.a wae4 (.i (.c 0) (.i (.c 1) .nil))))))).den E = true
    rw [g15 hE, x3]
    refine ⟨rfl, fun j hj => ?_⟩
    have : j = 0 := by omega
    subst this
    rw [c22, show ((SE.c 384).den E).toNat + 0 = (2 * 3 + 0) * 64 + 0 from rfl, colC_at _ _ 2 0 0 (by decide) (by decide), show colOf S 0 2 0 = retAt S 0 2 from rfl, n2]
    unfold wae4
    simp only [AE.den, d_c, Int.toNat_zero, Nat.not_lt_zero, if_false, Nat.sub_zero]
    rfl
  · intro hf
    have h1 := hf (SB.le wae3 (.c 64), false) (by simp)
    rw [le_f, x3, d_c] at h1
    omega
  · intro hf
    have h1 := hf (SB.le (.c 0) wae3, false) (by simp)
    rw [le_f, x3, d_c] at h1
    omega
  · intro hf
    have h1 := hf (SB.eq wae6 (.c 1), false) (by simp)
    have h1 : ¬ wae6.den E = 1 := by simpa [SB.den, SE.den] using h1
    exact absurd x6 h1
  · intro hf
    have h1 := hf (SB.ap 3 (.a wae0 (.i (.c 3) .nil)), false) (by simp)
    have e : (SB.ap 3 (.a wae0 (.i (.c 3) .nil))).den E = @decide (SOk S 3) (Classical.propDecidable _) := by
      rw [hS]; simp only [SB.den, SL.den, SE.den, hE]; rfl
    rw [e, @decide_eq_true _ (Classical.propDecidable _) hok] at h1
    cases h1
end Go.Proofs.YtjanndmmhjnpcaaDoor
