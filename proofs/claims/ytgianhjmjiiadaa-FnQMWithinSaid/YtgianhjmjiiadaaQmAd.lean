/- slices.Equal and the first script keep their contracts. -/
import Derived.Test.YtgianhjmjiiadaaQmAc
import Derived.Test.YtgianhjmjiiadaaQmAb
import Derived.Test.YtgianhjmjiiadaaQmJ
import Derived.KernelRfl
set_option autoImplicit true
set_option relaxedAutoImplicit true
set_option linter.unusedVariables false
set_option linter.unusedSimpArgs false
set_option maxRecDepth 100000
set_option maxHeartbeats 4000000
namespace Go.Proofs.Ytgianhjmjiiadaa
open Go Go.Sy Go.RowKit
noncomputable def h12ae0 : SE := .rd (.v 2) (.v 25)
noncomputable def h12ae1 : SE := .mul (.v 25) (.c 128)
noncomputable def h12ax0 : Vl := .go 0 [(130, (.c 0))] [] [] [((.eq h12ae0 (.v 50)), true), ((.le (.c 0) (.v 25)), true), ((.lt (.v 25) (.v 0)), true), ((.le (.c 0) (.v 50)), true), ((.le (.v 50) (.c 64)), true), ((.le (.c 0) h12ae0), true), ((.le h12ae0 (.c 64)), true)] (.code (.loop (loopB (prm12 Try.prog).P 12 4))) (loopK (prm12 Try.prog).P 12 4)
noncomputable def h12ax1 : Vl := .out 0 [.b (.c false) (.ap 12 (.a (.v 4) (.i h12ae1 (.i h12ae0 (.a (.v 50) (.i (.v 50) .nil)))))), .p 1000 (.i (.v 0) (.a (.v 0) (.a (.v 1) (.a (.v 2) (.a (.v 3) (.a (.v 4) .nil)))))) (.i (.v 0) (.a (.v 0) (.a (.v 1) (.a (.v 2) (.a (.v 3) (.a (.v 4) .nil)))))), .a (.v 50) (.v 50) (.v 50) 2, .i (.v 50) (.v 50)] [((.eq h12ae0 (.v 50)), false), ((.le (.c 0) (.v 25)), true), ((.lt (.v 25) (.v 0)), true), ((.le (.c 0) (.v 50)), true), ((.le (.v 50) (.c 64)), true), ((.le (.c 0) h12ae0), true), ((.le h12ae0 (.c 64)), true)]
noncomputable def h12als : List Vl := [h12ax0, h12ax1]
noncomputable def h12p0e0 : SE := .add (.v 130) (.c 1)
noncomputable def h12p0e1 : SE := .mul (.v 25) (.c 128)
noncomputable def h12p0e2 : SE := .mul (.v 130) (.c 2)
noncomputable def h12p0e3 : SE := .add h12p0e1 h12p0e2
noncomputable def h12p0e4 : SE := .rd (.v 4) h12p0e3
noncomputable def h12p0e5 : SE := .rd (.v 50) h12p0e2
noncomputable def h12p0e6 : SE := .add h12p0e2 (.c 1)
noncomputable def h12p0e7 : SE := .add h12p0e1 h12p0e6
noncomputable def h12p0e8 : SE := .rd (.v 4) h12p0e7
noncomputable def h12p0e9 : SE := .rd (.v 50) h12p0e6
noncomputable def h12p0e10 : SE := .rd (.v 2) (.v 25)
noncomputable def h12p0e11 : SE := .mul h12p0e10 (.c 2)
noncomputable def h12p0x0 : Vl := .go 0 [(130, h12p0e0)] [] [] [((.and (.eq h12p0e4 h12p0e5) (.eq h12p0e8 h12p0e9)), true), ((.lt (.v 130) (.v 50)), true), ((.lt h12p0e6 h12p0e11), true), ((.lt (.v 130) h12p0e10), true), ((.le (.c 0) (.v 25)), true), ((.lt (.v 25) (.v 0)), true), ((.le (.c 0) (.v 50)), true), ((.le (.v 50) (.c 64)), true), ((.le (.c 0) h12p0e10), true), ((.le h12p0e10 (.c 64)), true), ((.le (.c 0) (.v 130)), true), ((.le (.v 130) (.c 64)), true), ((.eq h12p0e10 (.v 50)), true)] (.exit .normal) (.loop (loopB (prm12 Try.prog).P 12 4) :: loopK (prm12 Try.prog).P 12 4)
noncomputable def h12p0x1 : Vl := .out 0 [.b (.c false) (.ap 12 (.a (.v 4) (.i h12p0e1 (.i h12p0e10 (.a (.v 50) (.i (.v 50) .nil)))))), .p 1000 (.i (.v 0) (.a (.v 0) (.a (.v 1) (.a (.v 2) (.a (.v 3) (.a (.v 4) .nil)))))) (.i (.v 0) (.a (.v 0) (.a (.v 1) (.a (.v 2) (.a (.v 3) (.a (.v 4) .nil)))))), .a (.v 50) (.v 50) (.v 50) 2, .i (.v 50) (.v 50)] [((.and (.eq h12p0e4 h12p0e5) (.eq h12p0e8 h12p0e9)), false), ((.lt (.v 130) (.v 50)), true), ((.lt h12p0e6 h12p0e11), true), ((.lt (.v 130) h12p0e10), true), ((.le (.c 0) (.v 25)), true), ((.lt (.v 25) (.v 0)), true), ((.le (.c 0) (.v 50)), true), ((.le (.v 50) (.c 64)), true), ((.le (.c 0) h12p0e10), true), ((.le h12p0e10 (.c 64)), true), ((.le (.c 0) (.v 130)), true), ((.le (.v 130) (.c 64)), true), ((.eq h12p0e10 (.v 50)), true)]
noncomputable def h12p0x2 : Vl := .dead [((.lt (.v 130) (.v 50)), false), ((.lt h12p0e6 h12p0e11), true), ((.lt (.v 130) h12p0e10), true), ((.le (.c 0) (.v 25)), true), ((.lt (.v 25) (.v 0)), true), ((.le (.c 0) (.v 50)), true), ((.le (.v 50) (.c 64)), true), ((.le (.c 0) h12p0e10), true), ((.le h12p0e10 (.c 64)), true), ((.le (.c 0) (.v 130)), true), ((.le (.v 130) (.c 64)), true), ((.eq h12p0e10 (.v 50)), true)]
noncomputable def h12p0x3 : Vl := .dead [((.lt h12p0e6 h12p0e11), false), ((.lt (.v 130) h12p0e10), true), ((.le (.c 0) (.v 25)), true), ((.lt (.v 25) (.v 0)), true), ((.le (.c 0) (.v 50)), true), ((.le (.v 50) (.c 64)), true), ((.le (.c 0) h12p0e10), true), ((.le h12p0e10 (.c 64)), true), ((.le (.c 0) (.v 130)), true), ((.le (.v 130) (.c 64)), true), ((.eq h12p0e10 (.v 50)), true)]
noncomputable def h12p0x4 : Vl := .out 0 [.b (.c true) (.ap 12 (.a (.v 4) (.i h12p0e1 (.i h12p0e10 (.a (.v 50) (.i (.v 50) .nil)))))), .p 1000 (.i (.v 0) (.a (.v 0) (.a (.v 1) (.a (.v 2) (.a (.v 3) (.a (.v 4) .nil)))))) (.i (.v 0) (.a (.v 0) (.a (.v 1) (.a (.v 2) (.a (.v 3) (.a (.v 4) .nil)))))), .a (.v 50) (.v 50) (.v 50) 2, .i (.v 50) (.v 50)] [((.lt (.v 130) h12p0e10), false), ((.le (.c 0) (.v 25)), true), ((.lt (.v 25) (.v 0)), true), ((.le (.c 0) (.v 50)), true), ((.le (.v 50) (.c 64)), true), ((.le (.c 0) h12p0e10), true), ((.le h12p0e10 (.c 64)), true), ((.le (.c 0) (.v 130)), true), ((.le (.v 130) (.c 64)), true), ((.eq h12p0e10 (.v 50)), true)]
noncomputable def h12p0ls : List Vl := [h12p0x0, h12p0x1, h12p0x2, h12p0x3, h12p0x4]
theorem h12p0run : (run (prm12 Try.prog) 900 (ptD (pts12 Try.prog) 0 12)).map (vOf (prm12 Try.prog) ct12 (pts12 Try.prog)) = h12p0ls := by kernel_rfl
noncomputable def h9e0 : AE := .tl (.v 0) (.c 0) (.b (.c false) (.b (.c false) (.i (.c 0) (.i (.c 0) (.i (.c 0) (.i (.c 0) (.i (.c 0) (.i (.c 0) .nil))))))))
noncomputable def h9e1 : AE := .tl h9e0 (.c 8) (.b (.c true) (.b (.c false) (.i (.c 0) (.i (.c 0) (.i (.c 0) (.i (.c 0) (.i (.c 0) (.i (.c 0) .nil))))))))
noncomputable def h9e2 : SE := .rd h9e1 (.c 8)
noncomputable def h9e3 : AE := .ap 1 (.a (.v 4) (.i (.c 0) (.a (.v 20) .nil)))
noncomputable def h9e4 : AE := .tl (.v 0) (.c 0) (.i (.c 5) (.i (.c 5) .nil))
noncomputable def h9e5 : AE := .ap 8 (.a h9e4 (.i (.c 1) .nil))
noncomputable def h9e6 : SE := .rd h9e5 (.c 0)
noncomputable def h9e7 : SE := .rd h9e5 (.c 1)
noncomputable def h9e8 : AE := .tl (.v 0) (.c 0) (.i h9e6 (.i h9e7 .nil))
noncomputable def h9e9 : AE := .ap 1 (.a h9e3 (.i (.c 128) (.a h9e8 .nil)))
noncomputable def h9e10 : AE := .tl (.v 2) (.c 0) (.i (.c 0) .nil)
noncomputable def h9e11 : AE := .tl h9e10 (.c 1) (.i (.c 1) .nil)
noncomputable def h9e12 : SE := .rd h9e11 (.c 1)
noncomputable def h9x0 : Vl := .out 0 [.b (.c false) (.c true)] [((.eq h9e2 (.c 0)), true)]
noncomputable def h9x1 : Vl := .out 0 [.b (.ap 12 (.a h9e9 (.i (.c 128) (.i h9e12 (.a h9e4 (.i (.c 1) .nil)))))) (.c true)] [((.le h9e12 (.c 64)), true), ((.le (.c 0) h9e12), true), ((.eq h9e2 (.c 0)), false)]
noncomputable def h9x2 : Vl := .dead [((.le h9e12 (.c 64)), false), ((.le (.c 0) h9e12), true), ((.eq h9e2 (.c 0)), false)]
noncomputable def h9x3 : Vl := .dead [((.le (.c 0) h9e12), false), ((.eq h9e2 (.c 0)), false)]
noncomputable def h9ls : List Vl := [h9x0, h9x1, h9x2, h9x3]
theorem h9run : (run (prm9 Try.prog) 3000 (enterD (prm9 Try.prog) ct9)).map (vOf (prm9 Try.prog) ct9 []) = h9ls := by kernel_rfl
theorem t32 : Try.prog.underlying 32 = some (.slice 36) := by kernel_rfl
theorem t36 : Try.prog.underlying 36 = some (.array 2 2) := by kernel_rfl
theorem s36 : sizeT Try.prog 36 = some 2 := by kernel_rfl
theorem s2 : sizeT Try.prog 2 = some 1 := by kernel_rfl
theorem s35 : sizeT Try.prog 35 = some 8 := by kernel_rfl
theorem btN_ok : ∀ b ∈ btN, BtOk Try.prog fns b := by
  intro b hb
  simp only [btN, List.mem_cons, List.not_mem_nil, or_false] at hb
  rcases hb with rfl | rfl | rfl | rfl | rfl
  · exact btNsLen_ok rokq (f := 0) (by decide) (idxE_ok 1 0) t32
  · exact btNpIx_ok rokq (f := 0) (by decide) (idxE_ok 1 0) rfl t32 s36
  · exact btNpIn_ok rokq (f := 0) (by decide) (idxE_ok 1 0) rfl t36 s2
  · exact btNpLd_ok rokq (f := 0) (by decide) (idxE_ok 1 0) rfl (by kernel_rfl)
  · exact btNpAll_ok rokq (f := 0) (by decide) (idxE_ok 1 0) rfl (by kernel_rfl) s36
theorem btR_ok : ∀ b ∈ btR, BtOk Try.prog fns b := by
  intro b hb
  simp only [btR, List.mem_cons, List.not_mem_nil, or_false] at hb
  rcases hb with rfl | rfl | rfl | rfl | rfl
  · obtain ⟨i, z, hi, hz, hzc, his, hib⟩ := info_of i35
    exact btRecApp_ok rokq t29 hi hz (by rw [hzc, his]) his (by omega) (by decide) (by decide)
  · exact btRecLen_ok rokq t29
  · exact btRecIx_ok rokq t29 s35
  · exact btRecLd_ok rokq (by decide) (by kernel_rfl)
  · exact btRecLd_ok rokq (by decide) (by kernel_rfl)
theorem prm12_ok (E : Env) (hE : E.fn = fns) : PrmOk E (prm12 Try.prog) := prm_ok E hE (by intro c hc; cases hc) btN_ok
theorem g12 {E : Env} (hE : E.fn = fns) (C B : AE) (b n m : SE) : (SB.ap 12 (.a C (.i b (.i n (.a B (.i m .nil)))))).den E = true ↔ (n.den E = m.den E ∧ ∀ j : Nat, (j : Int) < n.den E * 2 → C.den E ((b.den E).toNat + j) = B.den E j) := by
  have e : (SB.ap 12 (.a C (.i b (.i n (.a B (.i m .nil)))))).den E = fns.g 12 [.a (C.den E), .i (b.den E), .i (n.den E), .a (B.den E), .i (m.den E)] := by
    simp only [SB.den, SL.den, hE]
  rw [e]
  classical
  exact decide_eq_true_iff
structure I12 (E0 E : Env) (k : Nat) : Prop where
  ag : AgP 100 E0 E
  i130 : E.i 130 = k
  le : (k : Int) ≤ E0.i 50
  eq : E0.a 2 (E0.i 25).toNat = E0.i 50
  all : ∀ j, j < k * 2 → E0.a 4 ((E0.i 25).toNat * 128 + j) = E0.a 50 j
theorem eqs12 {E0 E : Env} (H : AgP 100 E0 E) : ∀ q ∈ ([.p 1000 (.i (.v 0) (.a (.v 0) (.a (.v 1) (.a (.v 2) (.a (.v 3) (.a (.v 4) .nil)))))) (.i (.v 0) (.a (.v 0) (.a (.v 1) (.a (.v 2) (.a (.v 3) (.a (.v 4) .nil)))))), .a (.v 50) (.v 50) (.v 50) 2, .i (.v 50) (.v 50)] : List Eqn), q.ok E E0 := by
  simp only [List.forall_mem_cons, List.not_mem_nil, false_imp_iff, implies_true, and_true]
  exact ⟨Eqn.p_ag H _ _ rfl, Eqn.a_ag H _ _ _ rfl, Eqn.i_ag H _ rfl⟩
theorem q12 {E0 E : Env} {b : SB} {r : SB} (H : AgP 100 E0 E) (h : b.den E = r.den E0) : ∀ q ∈ (.b b r :: [.p 1000 (.i (.v 0) (.a (.v 0) (.a (.v 1) (.a (.v 2) (.a (.v 3) (.a (.v 4) .nil)))))) (.i (.v 0) (.a (.v 0) (.a (.v 1) (.a (.v 2) (.a (.v 3) (.a (.v 4) .nil)))))), .a (.v 50) (.v 50) (.v 50) 2, .i (.v 50) (.v 50)] : List Eqn), q.ok E E0 := by
  intro q hq
  rcases List.mem_cons.1 hq with rfl | hq
  · exact h
  · exact eqs12 H q hq
def rE12 : SB := .ap 12 (.a (.v 4) (.i (.mul (.v 25) (.c 128)) (.i (.rd (.v 2) (.v 25)) (.a (.v 50) (.i (.v 50) .nil)))))
theorem rE12_t {E : Env} (hE : E.fn = fns) (h25 : 0 ≤ E.i 25) : rE12.den E = true ↔ (E.a 2 (E.i 25).toNat = E.i 50 ∧ ∀ j : Nat, (j : Int) < E.a 2 (E.i 25).toNat * 2 → E.a 4 ((E.i 25).toNat * 128 + j) = E.a 50 j) := by
  unfold rE12
  rw [g12 hE]
  have e1 : ((SE.mul (.v 25) (.c 128)).den E).toNat = (E.i 25).toNat * 128 := by
    show (E.i 25 * 128).toNat = _
    omega
  rw [e1]
  simp only [AE.den, SE.den]
theorem rE12_f {E : Env} (hE : E.fn = fns) (h25 : 0 ≤ E.i 25) (h : ¬ (E.a 2 (E.i 25).toNat = E.i 50 ∧ ∀ j : Nat, (j : Int) < E.a 2 (E.i 25).toNat * 2 → E.a 4 ((E.i 25).toNat * 128 + j) = E.a 50 j)) : rE12.den E = false := by
  cases hc : rE12.den E with
  | false => rfl
  | true => exact absurd ((rE12_t hE h25).1 hc) h
theorem ct12_ok : CtOk Try.prog fns ct12 := by
  refine ct_of_pts (p := prm12 Try.prog) (pts := pts12 Try.prog) (n := 900) (c0 := enterD (prm12 Try.prog) ct12) (fun E hE => prm12_ok E hE) rfl (by intro q hq; cases hq) Try.func12 (by kernel_rfl) ?_ (fun E0 _ E => ∃ k, I12 E0 E k) (fun E0 _ E => (E0.i 50 - E.i 130).toNat) h12als (by kernel_rfl) ?_ ?_
  · intro t ht
    simp only [pts12, List.mem_cons, List.not_mem_nil, or_false] at ht
    subst ht
    exact ⟨by kernel_rfl, by decide⟩
  · intro E hE hF
    have h25 : 0 ≤ E.i 25 := of_decide_eq_true (hF (.le (.c 0) (.v 25), true) (by simp [ct12, idxP]))
    have h50 : 0 ≤ E.i 50 := of_decide_eq_true (hF (.le (.c 0) (.v 50), true) (by simp [ct12, bd]))
    refine ⟨fun a ha => (by cases ha; intro q hq; cases hq), fun x hx => ?_⟩
    unfold h12als at hx
    simp only [List.mem_cons, List.not_mem_nil, or_false] at hx
    rcases hx with rfl | rfl
    · intro hf
      have h1 : E.a 2 (E.i 25).toNat = E.i 50 := eq_t.1 (fat hf 0 rfl)
      refine ⟨⟨_, rfl, .inl ⟨rfl, rfl⟩⟩, fun o => ⟨⟨0, (AgP.refl 100 E).put o, rfl, by omega, h1, fun j hj => absurd hj (by omega)⟩, fun b hb => by cases hb⟩⟩
    · intro hf
      have h1 : ¬ E.a 2 (E.i 25).toNat = E.i 50 := eq_f.1 (fat hf 0 rfl)
      exact ⟨rfl, q12 (AgP.refl 100 E) (r := rE12) (rE12_f hE h25 (fun h => h1 h.1)).symm⟩
  · intro i t ht
    have hi : i = 0 := by
      have := (List.getElem?_eq_some_iff.1 ht).1
      simp [pts12] at this; omega
    subst hi
    obtain rfl := Option.some.inj ht
    refine ⟨h12p0ls, h12p0run, fun E0 E hE0 hE hF0 ⟨k, hI⟩ => ?_⟩
    have h25 : 0 ≤ E0.i 25 := of_decide_eq_true (hF0 (.le (.c 0) (.v 25), true) (by simp [ct12, idxP]))
    have h50 : E0.i 50 ≤ 64 := of_decide_eq_true (hF0 (.le (.v 50) (.c 64), true) (by simp [ct12, bd]))
    have h51 : 0 ≤ E0.i 50 := of_decide_eq_true (hF0 (.le (.c 0) (.v 50), true) (by simp [ct12, bd]))
    have e25 := hI.ag.i 25 (by decide); have e50 := hI.ag.i 50 (by decide); have a2 := hI.ag.a 2 (by decide); have a4 := hI.ag.a 4 (by decide); have a50 := hI.ag.a 50 (by decide)
    have h130 := hI.i130
    have hle := hI.le
    have heq := hI.eq
    have dL : h12p0e10.den E = E0.i 50 := by
      show E.a 2 (E.i 25).toNat = _
      rw [a2, e25, heq]
    refine ⟨facts_append (facts_append (hI.ag.facts (by decide) hF0) (by simp only [bd, facts_cons, facts_nil, le_t, d_c, d_v, and_true]; omega)) (by
      simp only [facts_cons, facts_nil, and_true]
      exact eq_t.2 (by rw [show (SE.rd (.v 2) ix1).den E = h12p0e10.den E from rfl, dL]; exact e50.symm)), fun x hx => ?_⟩
    unfold h12p0ls at hx
    simp only [List.mem_cons, List.not_mem_nil, or_false] at hx
    have cC : ∀ (x : SE) (u : Nat), 0 ≤ x.den E → (x.den E).toNat = u → (SE.rd (.v 4) (.add (.mul (.v 25) (.c 128)) x)).den E = E0.a 4 ((E0.i 25).toNat * 128 + u) := fun x u h0 hx => by
      show E.a 4 (E.i 25 * 128 + x.den E).toNat = _
      rw [a4, e25, show (E0.i 25 * 128 + x.den E).toNat = (E0.i 25).toNat * 128 + u by omega]
    have cB : ∀ (x : SE) (u : Nat), (x.den E).toNat = u → (SE.rd (.v 50) x).den E = E0.a 50 u := fun x u hx => by
      show E.a 50 (x.den E).toNat = _
      rw [a50, hx]
    have x0 : (SE.mul (.v 130) (.c 2)).den E = (k : Int) * 2 := by show E.i 130 * 2 = _; rw [h130]
    have x1 : (SE.add (.mul (.v 130) (.c 2)) (.c 1)).den E = (k : Int) * 2 + 1 := by show E.i 130 * 2 + 1 = _; rw [h130]
    have r0 := cC (.mul (.v 130) (.c 2)) (k * 2) (by rw [x0]; omega) (by rw [x0]; omega)
    have r1 := cC (.add (.mul (.v 130) (.c 2)) (.c 1)) (k * 2 + 1) (by rw [x1]; omega) (by rw [x1]; omega)
    have b0 := cB (.mul (.v 130) (.c 2)) (k * 2) (by rw [x0]; omega)
    have b1 := cB (.add (.mul (.v 130) (.c 2)) (.c 1)) (k * 2 + 1) (by rw [x1]; omega)
    have hand : (SB.and (.eq (.rd (.v 4) (.add (.mul (.v 25) (.c 128)) (.mul (.v 130) (.c 2)))) (.rd (.v 50) (.mul (.v 130) (.c 2)))) (.eq (.rd (.v 4) (.add (.mul (.v 25) (.c 128)) (.add (.mul (.v 130) (.c 2)) (.c 1)))) (.rd (.v 50) (.add (.mul (.v 130) (.c 2)) (.c 1))))).den E = (E0.a 4 ((E0.i 25).toNat * 128 + k * 2) == E0.a 50 (k * 2) && E0.a 4 ((E0.i 25).toNat * 128 + (k * 2 + 1)) == E0.a 50 (k * 2 + 1)) := by
      show ((SE.rd (.v 4) (.add (.mul (.v 25) (.c 128)) (.mul (.v 130) (.c 2)))).den E == (SE.rd (.v 50) (.mul (.v 130) (.c 2))).den E && (SE.rd (.v 4) (.add (.mul (.v 25) (.c 128)) (.add (.mul (.v 130) (.c 2)) (.c 1)))).den E == (SE.rd (.v 50) (.add (.mul (.v 130) (.c 2)) (.c 1))).den E) = _
      rw [r0, r1, b0, b1]
    rcases hx with rfl | rfl | rfl | rfl | rfl
    · intro hf
      have h1 := hand.symm.trans (fat hf 0 rfl)
      have h2 : E.i 130 < E.i 50 := lt_t.1 (fat hf 1 rfl)
      rw [Bool.and_eq_true, beq_iff_eq, beq_iff_eq] at h1
      refine ⟨⟨_, rfl, .inr ⟨rfl, rfl⟩⟩, fun o => ⟨⟨k + 1, hI.ag.put o, by show E.i 130 + 1 = _; omega, by omega, heq, fun j hj => ?_⟩, fun b hb => ?_⟩⟩
      · rcases Nat.lt_or_ge j (k * 2) with c | c
        · exact hI.all j c
        · have : j = k * 2 ∨ j = k * 2 + 1 := by omega
          rcases this with rfl | rfl
          · exact h1.1
          · exact h1.2
      · cases hb
        show (E0.i 50 - (E.i 130 + 1)).toNat < (E0.i 50 - E.i 130).toNat
        omega
    · intro hf
      have h1 := hand.symm.trans (fat hf 0 rfl)
      have h2 : E.i 130 < E.i 50 := lt_t.1 (fat hf 1 rfl)
      refine ⟨rfl, q12 hI.ag (r := rE12) (rE12_f hE0 h25 (fun h => ?_)).symm⟩
      have g0 := h.2 (k * 2) (by omega)
      have g1 := h.2 (k * 2 + 1) (by omega)
      rw [g0, g1] at h1
      simp at h1
    · intro hf
      have h1 : E.i 50 ≤ E.i 130 := lt_f.1 (fat hf 0 rfl)
      have h2 : E.i 130 < h12p0e10.den E := lt_t.1 (fat hf 2 rfl)
      rw [dL] at h2
      omega
    · intro hf
      have h1 : h12p0e10.den E * 2 ≤ E.i 130 * 2 + 1 := lt_f.1 (fat hf 0 rfl)
      have h2 : E.i 130 < h12p0e10.den E := lt_t.1 (fat hf 1 rfl)
      omega
    · intro hf
      have h2 : h12p0e10.den E ≤ E.i 130 := lt_f.1 (fat hf 0 rfl)
      rw [dL] at h2
      refine ⟨rfl, q12 hI.ag (r := rE12) ((rE12_t hE0 h25).2 ⟨heq, fun j hj => hI.all j (by omega)⟩).symm⟩
theorem prm9_ok (E : Env) (hE : E.fn = fns) : PrmOk E (prm9 Try.prog) where
  bt := by intro b hb; rw [hE]; exact btR_ok b hb
  ct := by
    intro c hc
    have : c = ct33kn ∨ c = ct12 := by simpa [prm9] using hc
    rw [hE]
    rcases this with rfl | rfl
    · exact ct33kn_ok
    · exact ct12_ok
  mix := Checked.mixed Try.checked
  okf := okf_call
  body := okf_body
  mts := by intro x hx; cases hx
  dfr := by
    intro f hf a w
    have : f = 13 := by simpa [prm9] using hf
    subst this
    exact catch_idle a w
  dfk := by
    intro f hf
    have : f = 13 := by simpa [prm9] using hf
    subst this; decide
theorem ct9_ok : CtOk Try.prog fns ct9 := by
  refine ct_of_ptsX (p := prm9 Try.prog) (pts := []) (n := 3000) (c0 := enterD (prm9 Try.prog) ct9) (fun E hE => prm9_ok E hE) rfl (by intro q hq; cases hq) Try.func9 (by kernel_rfl) (by intro t ht; cases ht) (fun _ _ _ => True) (fun _ _ _ => 0) h9ls h9run ?_ (by intro i t ht; cases ht)
  intro E0 hE0 hF0
  refine ⟨fun a ha => (by cases ha; intro q hq; cases hq), fun E H1 _ x hx => ?_⟩
  have hE : E.fn = fns := H1.fn.trans hE0
  obtain ⟨ii, bb, aa, oo, fn⟩ := E
  have hfn : fn = fns := hE
  subst hfn
  unfold h9ls at hx
  simp only [List.mem_cons, List.not_mem_nil, or_false] at hx
  rcases hx with rfl | rfl | rfl | rfl
  · intro hf
    have h1 : (1 : Int) = 0 := eq_t.1 (fat hf 0 rfl)
    omega
  · intro hf
    refine ⟨rfl, E0, ?_, fun a' ha' => (by cases ha'; intro q hq; cases hq)⟩
    simp only [List.forall_mem_cons, List.not_mem_nil, false_imp_iff, implies_true, and_true]
    refine (g12 rfl _ _ _ _ _).2 ⟨rfl, fun j hj => ?_⟩
    have hj' : (j : Int) < 1 * 2 := hj
    have : j = 0 ∨ j = 1 := by omega
    rcases this with rfl | rfl <;> simp [h9e9, h9e3, h9e8, h9e4, h9e5, h9e6, h9e7, AE.den, SL.den, SE.den, SL.nth, fns, rvA]
  · intro hf
    have h1 : (64 : Int) < 1 := le_f.1 (fat hf 0 rfl)
    omega
  · intro hf
    have h1 : (1 : Int) < 0 := le_f.1 (fat hf 0 rfl)
    omega
end Go.Proofs.Ytgianhjmjiiadaa
