/- Copies, the plain rule's beginning, FCPlay with any number of streams, and whether a window is told: contracts. -/
import Derived.Test.YtpjifimjoinnnaaDoorFcA
import Derived.Test.YtpjifimjoinnnaaDoorFcO
import Derived.Test.YtpjifimjoinnnaaDoorFcB
import Derived.Test.YtpjifimjoinnnaaDoorFcX
import Derived.Test.YtpjifimjoinnnaaDoorFcP1
import Derived.Test.YtpjifimjoinnnaaDoorFcP2
import Derived.Test.YtpjifimjoinnnaaDoorFcP3
import Derived.Test.YtpjifimjoinnnaaDoorFcZb
import Derived.KernelRfl
set_option autoImplicit true
set_option relaxedAutoImplicit true
set_option linter.unusedVariables false
set_option linter.unusedSimpArgs false
set_option maxRecDepth 100000
set_option maxHeartbeats 4000000
namespace Go.Proofs.YtpjifimjoinnnaaDoor
open Go Go.Sy Go.RowKit
noncomputable def zaf0 : Fx := [((.and (.v 1000) (.not (.le (.v 41) (.c 0)))), false), ((.le (.c 0) (.v 41)), true), ((.le (.v 41) (.c 1000)), true)]
noncomputable def zax0 : Vl := .out 0 [.a (.v 2) (.v 2) (.v 41) 3, .i (.v 41) (.v 41), .i (.c 0) (.v 41)] (((.v 1000), true) :: zaf0)
noncomputable def zax1 : Vl := .out 0 [.a (.v 2) (.v 2) (.v 41) 3, .i (.v 41) (.v 41), .a (.v 2) (.v 2) (.v 41) 3, .i (.v 41) (.v 41)] (((.v 1000), false) :: zaf0)
noncomputable def zals : List Vl := [zax0, zax1]
theorem zarun : (run (prmA Tryd.prog) 100 (enterD (prmA Tryd.prog) ct9)).map (vOf (prmA Tryd.prog) ct9 []) = zals := by kernel_rfl
-- 2 ways; terms: 
noncomputable def zbf0 : Fx := [((.and (.v 1000) (.not (.le (.v 0) (.c 0)))), false), ((.le (.c 0) (.v 0)), true), ((.le (.v 0) (.c 1000)), true)]
noncomputable def zbx0 : Vl := .out 0 [.a (.v 0) (.v 0) (.v 0) 6, .i (.v 0) (.v 0), .i (.c 0) (.v 0)] (((.v 1000), true) :: zbf0)
noncomputable def zbx1 : Vl := .out 0 [.a (.v 0) (.v 0) (.v 0) 6, .i (.v 0) (.v 0), .a (.v 0) (.v 0) (.v 0) 6, .i (.v 0) (.v 0)] (((.v 1000), false) :: zbf0)
noncomputable def zbls : List Vl := [zbx0, zbx1]
theorem zbrun : (run (prmA Tryd.prog) 100 (enterD (prmA Tryd.prog) ct10)).map (vOf (prmA Tryd.prog) ct10 []) = zbls := by kernel_rfl
-- 2 ways; terms: 
noncomputable def zcx0 : Vl := .go 0 [(4, (.c 0))] [] [] [((.le (.c 0) (.v 41)), true), ((.le (.v 41) (.c 1000)), true)] (.code (.loop (loopB (prmB Tryd.prog).P 5 3))) (loopK (prmB Tryd.prog).P 5 3)
noncomputable def zcls : List Vl := [zcx0]
noncomputable def zde0 : SE := .add (.v 4) (.c 1)
noncomputable def zde1 : SE := .mul (.v 4) (.c 12)
noncomputable def zde2 : SE := .mul (.v 4) (.c 3)
noncomputable def zde3 : SE := .rd (.v 2) zde2
noncomputable def zde4 : SE := .add zde2 (.c 1)
noncomputable def zde5 : SE := .rd (.v 2) zde4
noncomputable def zde6 : SE := .add zde2 (.c 2)
noncomputable def zde7 : SE := .rd (.v 2) zde6
noncomputable def zde8 : AE := .tl (.v 3) zde1 (.i (.c 0) (.i (.c 0) (.i zde3 (.i zde3 (.i zde5 (.i (.c 0) (.i (.c 0) (.i (.c 0) (.i zde7 (.i (.c 0) (.b (.c false) (.b (.c false) .nil))))))))))))
noncomputable def zde9 : AE := .ap 2 (.a (.v 2) .nil)
noncomputable def zdf0 : Fx := [((.le (.c 0) (.v 41)), true), ((.le (.v 41) (.c 1000)), true), ((.le (.c 0) (.v 4)), true), ((.le (.v 4) (.c 1000)), true)]
noncomputable def zdx0 : Vl := .go 0 [(4, zde0)] [] [(3, zde8)] (((.lt (.v 4) (.v 41)), true) :: zdf0) (.exit .normal) (.loop (loopB (prmB Tryd.prog).P 5 3) :: loopK (prmB Tryd.prog).P 5 3)
noncomputable def zdx1 : Vl := .out 0 [.a (.v 2) (.v 2) (.v 41) 3, .i (.v 41) (.v 41), .a (.v 3) zde9 (.v 41) 12, .i (.v 4) (.v 41), .i (.v 12) (.v 12), .i (.v 12) (.v 12), .i (.v 13) (.v 13), .i (.v 14) (.v 14)] (((.lt (.v 4) (.v 41)), false) :: zdf0)
noncomputable def zdls : List Vl := [zdx0, zdx1]
theorem zdrun : (run (prmB Tryd.prog) 200 (ptD (pts5 Tryd.prog) 0 5)).map (vOf (prmB Tryd.prog) ct5 (pts5 Tryd.prog)) = zdls := by kernel_rfl
-- 2 ways; terms: zde0, zde1, zde2, zde3, zde4, zde5, zde6, zde7, zde8, zde9
noncomputable def zee0 : AE := .tl (.v 0) (.c 0) (.i (.c 100) (.i (.c 100) (.i (.c 0) .nil)))
noncomputable def zee1 : AE := .tl (.v 0) (.c 0) (.i (.c 0) (.i (.c 0) (.i (.c 0) (.i (.c 50) (.i (.c 1) (.b (.c false) (.i (.c 1) (.i (.c 0) (.i (.c 50) (.i (.c 0) (.i (.c 0) (.b (.c false) (.i (.c 3) (.i (.c 0) (.i (.c 0) (.i (.c 0) (.i (.c 2) (.b (.c false) .nil))))))))))))))))))
noncomputable def zee2 : AE := .ap 0 (.i (.c 100) (.i (.c 100) (.i (.c 0) (.a zee0 (.a zee1 .nil)))))
noncomputable def zee3 : SE := .rd zee2 (.c 10)
noncomputable def zee4 : SE := .rd zee2 (.c 17)
noncomputable def zef0 : Fx := [((.ap 0 (.i (.c 100) (.i (.c 100) (.i (.c 0) (.a zee0 (.i (.c 1) (.a zee1 (.i (.c 3) .nil)))))))), true)]
noncomputable def zex0 : Vl := .out 0 [.b (.c false) (.c true)] (((.eq zee3 (.c 0)), true) :: zef0)
noncomputable def zex1 : Vl := .out 0 [.b (.eq zee4 (.c 150)) (.c true)] (((.eq zee3 (.c 0)), false) :: zef0)
noncomputable def zex2 : Vl := .dead [((.ap 0 (.i (.c 100) (.i (.c 100) (.i (.c 0) (.a zee0 (.i (.c 1) (.a zee1 (.i (.c 3) .nil)))))))), false)]
noncomputable def zels : List Vl := [zex0, zex1, zex2]
variable {E : Env}
theorem prmA_ok (E : Env) (hE : E.fn = fns) : PrmOk E (prmA Tryd.prog) where
  bt := by
    intro b hb
    simp only [prmA, List.mem_cons, List.not_mem_nil, or_false] at hb
    rcases hb with rfl | rfl
    · exact btIsNil_ok (e := 27) (by kernel_rfl)
    · exact btIsNil_ok (e := 34) (by kernel_rfl)
  ct := by intro c hc; cases hc
  mix := by kernel_rfl
  okf := okf_call
  body := okf_body
  mts := by intro x hx; cases hx
  dfr := by intro x hx; cases hx
  dfk := by intro x hx; cases hx
theorem prmB_ok (E : Env) (hE : E.fn = fns) : PrmOk E (prmB Tryd.prog) where
  ct := by intro c hc; cases hc
  mix := by kernel_rfl
  okf := okf_call
  body := okf_body
  mts := by intro x hx; cases hx
  dfr := by intro x hx; cases hx
  dfk := by intro x hx; cases hx
theorem ct9_ok : CtOk Tryd.prog fns ct9 := by
  refine ct_of_ptsX (p := prmA Tryd.prog) (pts := []) (n := 100) (c0 := enterD (prmA Tryd.prog) ct9) (fun E hE => prmA_ok E hE) rfl (by intro q hq; cases hq) Tryd.func9 (by kernel_rfl) (by intro t ht; cases ht) (fun _ _ _ => True) (fun _ _ _ => 0) zals zarun ?_ (by intro i t ht; simp at ht)
  intro E0 hE hF
  simp only [ct9, bd, List.cons_append, List.nil_append, facts_cons, facts_nil, le_t, d_c, d_v, and_true] at hF
  refine ⟨noFacts (by simp [ct9]), fun E hag _ x hx => ?_⟩
  have e41 : E.i 41 = E0.i 41 := hag.i 41 (by decide)
  unfold zals at hx
  simp only [List.mem_cons, List.not_mem_nil, or_false] at hx
  rcases hx with rfl | rfl
  · intro hf
    have a0 := (fat hf 0 rfl)
    have a1 := (fat hf 1 rfl)
    rw [imp_f] at a1
    have a2 := le_t.1 (a1 a0)
    have a2 : E.i 41 ≤ 0 := a2
    refine ⟨rfl, E0, ?_, fun a ha => by obtain rfl := Option.some.inj ha; intro q hq; cases hq⟩
    exact List.forall_mem_cons.2 ⟨fun j _ => congrFun (hag.a 2 (by decide)) j, List.forall_mem_cons.2 ⟨e41, List.forall_mem_cons.2 ⟨(show (0 : Int) = E0.i 41 by omega), fun q hq => by cases hq⟩⟩⟩
  · intro hf
    refine ⟨rfl, E0, ?_, fun a ha => by obtain rfl := Option.some.inj ha; intro q hq; cases hq⟩
    exact List.forall_mem_cons.2 ⟨fun j _ => congrFun (hag.a 2 (by decide)) j, List.forall_mem_cons.2 ⟨e41, List.forall_mem_cons.2 ⟨fun j _ => congrFun (hag.a 2 (by decide)) j, List.forall_mem_cons.2 ⟨e41, fun q hq => by cases hq⟩⟩⟩⟩
theorem ct10_ok : CtOk Tryd.prog fns ct10 := by
  refine ct_of_ptsX (p := prmA Tryd.prog) (pts := []) (n := 100) (c0 := enterD (prmA Tryd.prog) ct10) (fun E hE => prmA_ok E hE) rfl (by intro q hq; cases hq) Tryd.func10 (by kernel_rfl) (by intro t ht; cases ht) (fun _ _ _ => True) (fun _ _ _ => 0) zbls zbrun ?_ (by intro i t ht; simp at ht)
  intro E0 hE hF
  simp only [ct10, bd, List.cons_append, List.nil_append, facts_cons, facts_nil, le_t, d_c, d_v, and_true] at hF
  refine ⟨noFacts (by simp [ct10]), fun E hag _ x hx => ?_⟩
  have e41 : E.i 0 = E0.i 0 := hag.i 0 (by decide)
  unfold zbls at hx
  simp only [List.mem_cons, List.not_mem_nil, or_false] at hx
  rcases hx with rfl | rfl
  · intro hf
    have a0 := (fat hf 0 rfl)
    have a1 := (fat hf 1 rfl)
    rw [imp_f] at a1
    have a2 := le_t.1 (a1 a0)
    have a2 : E.i 0 ≤ 0 := a2
    refine ⟨rfl, E0, ?_, fun a ha => by obtain rfl := Option.some.inj ha; intro q hq; cases hq⟩
    exact List.forall_mem_cons.2 ⟨fun j _ => congrFun (hag.a 0 (by decide)) j, List.forall_mem_cons.2 ⟨e41, List.forall_mem_cons.2 ⟨(show (0 : Int) = E0.i 0 by omega), fun q hq => by cases hq⟩⟩⟩
  · intro hf
    refine ⟨rfl, E0, ?_, fun a ha => by obtain rfl := Option.some.inj ha; intro q hq; cases hq⟩
    exact List.forall_mem_cons.2 ⟨fun j _ => congrFun (hag.a 0 (by decide)) j, List.forall_mem_cons.2 ⟨e41, List.forall_mem_cons.2 ⟨fun j _ => congrFun (hag.a 0 (by decide)) j, List.forall_mem_cons.2 ⟨e41, fun q hq => by cases hq⟩⟩⟩⟩
def begA (B : Nat → Int) (o : Nat) : Int := ((st0 0 0 0 B).p (o / 12)).get (o % 12)
structure I5 (E0 E : Env) : Prop where
  h41 : E.i 41 = E0.i 41
  h12 : E.i 12 = E0.i 12
  h13 : E.i 13 = E0.i 13
  h14 : E.i 14 = E0.i 14
  a2 : E.a 2 = E0.a 2
  h4 : 0 ≤ E.i 4 ∧ E.i 4 ≤ E.i 41
  row : ∀ j, j < (E.i 4).toNat * 12 → E.a 3 j = begA (E0.a 2) j
theorem ct5_ok : CtOk Tryd.prog fns ct5 := by
  refine ct_of_pts (p := prmB Tryd.prog) (pts := pts5 Tryd.prog) (n := 200) (c0 := enterD (prmB Tryd.prog) ct5) (fun E hE => prmB_ok E hE) rfl (by intro q hq; cases hq) Tryd.func5 (by kernel_rfl) ?_ (fun E0 _ E => I5 E0 E) (fun _ _ E => (E.i 41 - E.i 4).toNat) zcls (by kernel_rfl) ?_ ?_
  · intro t ht
    simp only [pts5, List.mem_cons, List.not_mem_nil, or_false] at ht
    subst ht
    exact ⟨by kernel_rfl, by decide⟩
  · intro E hE hF
    simp only [ct5, bd, List.cons_append, List.nil_append, facts_cons, facts_nil, le_t, d_c, d_v, and_true] at hF
    refine ⟨noFacts (by simp [ct5]), fun x hx => ?_⟩
    unfold zcls at hx
    simp only [List.mem_cons, List.not_mem_nil, or_false] at hx
    subst hx
    intro hf
    refine ⟨⟨_, rfl, .inl ⟨rfl, rfl⟩⟩, fun o => ⟨⟨rfl, rfl, rfl, rfl, rfl, ⟨by show (0 : Int) ≤ 0; decide, hF.1⟩, fun j hj => by have hj' : j < 0 * 12 := hj; omega⟩, fun b hb => by cases hb⟩⟩
  · intro k t ht
    have hk : k = 0 := by
      have := (List.getElem?_eq_some_iff.1 ht).1
      simp [pts5] at this; omega
    subst hk
    refine ⟨zdls, by rw [← ptD_some ht ct5.g]; exact zdrun, fun E0 E hE0 hE hF0 hI => ?_⟩
    simp only [ct5, bd, List.cons_append, List.nil_append, facts_cons, facts_nil, le_t, d_c, d_v, and_true] at hF0
    obtain ⟨h41, h12, h13, h14, a2, h4, row⟩ := hI
    refine ⟨?_, fun x hx => ?_⟩
    · obtain rfl := Option.some.inj ht
      simp only [pt53, bd, List.cons_append, List.nil_append, facts_cons, facts_nil, le_t, d_c, d_v, and_true]
      omega
    · unfold zdls at hx
      simp only [List.mem_cons, List.not_mem_nil, or_false] at hx
      rcases hx with rfl | rfl
      · intro hf
        have hlt : E.i 4 < E.i 41 := by
          have := (fat hf 0 rfl)
          simpa only [lt_t, d_v] using this
        refine ⟨⟨_, rfl, .inr ⟨rfl, rfl⟩⟩, fun o => ⟨⟨h41, h12, h13, h14, a2, ?_, ?_⟩, fun b hb => ?_⟩⟩
        · show 0 ≤ E.i 4 + 1 ∧ E.i 4 + 1 ≤ E.i 41; omega
        · intro j hj
          have hj : j < (E.i 4 + 1).toNat * 12 := hj
          show zde8.den E j = _
          have e0 : (zde1.den E).toNat = (E.i 4).toNat * 12 := by
            show (E.i 4 * 12).toNat = _; omega
          simp only [zde8, AE.den, e0]
          split
          · rename_i h; exact row j h
          · rename_i h
            obtain ⟨c, hc, rfl⟩ : ∃ c, c < 12 ∧ j = 12 * (E.i 4).toNat + c := ⟨j - (E.i 4).toNat * 12, by omega, by omega⟩
            have r0 : zde3.den E = E0.a 2 (3 * (E.i 4).toNat) := by
              show E.a 2 (E.i 4 * 3).toNat = _
              rw [a2, show (E.i 4 * 3).toNat = 3 * (E.i 4).toNat by omega]
            have r1 : zde5.den E = E0.a 2 (3 * (E.i 4).toNat + 1) := by
              show E.a 2 (E.i 4 * 3 + 1).toNat = _
              rw [a2, show (E.i 4 * 3 + 1).toNat = 3 * (E.i 4).toNat + 1 by omega]
            have r2 : zde7.den E = E0.a 2 (3 * (E.i 4).toNat + 2) := by
              show E.a 2 (E.i 4 * 3 + 2).toNat = _
              rw [a2, show (E.i 4 * 3 + 2).toNat = 3 * (E.i 4).toNat + 2 by omega]
            unfold begA
            rw [show (12 * (E.i 4).toNat + c) / 12 = (E.i 4).toNat by omega, show (12 * (E.i 4).toNat + c) % 12 = c by omega, show 12 * (E.i 4).toNat + c - (E.i 4).toNat * 12 = c by omega]
            match c, hc with
            | 0, _ => rfl | 1, _ => rfl | 2, _ => exact r0 | 3, _ => exact r0 | 4, _ => exact r1 | 5, _ => rfl | 6, _ => rfl | 7, _ => rfl | 8, _ => exact r2 | 9, _ => rfl | 10, _ => rfl | 11, _ => rfl
        · obtain rfl := Option.some.inj hb
          show (E.i 41 - (E.i 4 + 1)).toNat < (E.i 41 - E.i 4).toNat; omega
      · intro hf
        have hge : E.i 41 ≤ E.i 4 := by
          have := (fat hf 0 rfl)
          simpa only [lt_f, d_v] using this
        refine ⟨rfl, ?_⟩
        refine List.forall_mem_cons.2 ⟨fun j _ => congrFun a2 j, List.forall_mem_cons.2 ⟨h41, List.forall_mem_cons.2 ⟨fun j hj => ?_, List.forall_mem_cons.2 ⟨(show E.i 4 = E0.i 41 by omega), List.forall_mem_cons.2 ⟨h12, List.forall_mem_cons.2 ⟨h12, List.forall_mem_cons.2 ⟨h13, List.forall_mem_cons.2 ⟨h14, fun q hq => by cases hq⟩⟩⟩⟩⟩⟩⟩⟩
        have hj : j < (E0.i 41).toNat * 12 := hj
        show E.a 3 j = E0.fn.a 2 [.a ((AE.v 2).den E0)] j
        rw [row j (by rw [show (E.i 4).toNat = (E0.i 41).toNat by omega]; exact hj), hE0]
        rfl
theorem g0g_den {E : Env} (hE : E.fn = fns) : (SB.ap 0 (.i (.v 12) (.i (.v 13) (.i (.v 14) (.a (.v 2) (.i (.v 41) (.a (.v 0) (.i (.v 0) .nil)))))))).den E = true ↔ scrOk (E.i 41).toNat (s0E E) (E.a 0) (E.i 0).toNat := by
  show E.fn.g 0 [.i (E.i 12), .i (E.i 13), .i (E.i 14), .a ((AE.v 2).den E), .i (E.i 41), .a ((AE.v 0).den E), .i (E.i 0)] = true ↔ _
  rw [hE]
  exact @decide_eq_true_iff _ (Classical.propDecidable _)
theorem ct8_all {n : Nat} (h : 1 ≤ n ∧ n ≤ 3) : CtOk Tryd.prog fns (ct8 n) := by
  have : n = 1 ∨ n = 2 ∨ n = 3 := by omega
  rcases this with rfl | rfl | rfl
  · exact ct8_1
  · exact ct8_2
  · exact ct8_3
theorem ct8g_ok : CtOk Tryd.prog fns ct8g := by
  refine ct_same (fun E => ct8 (E.i 41).toNat) fun E hE hF => ?_
  simp only [ct8g, bd, List.cons_append, List.nil_append, facts_cons, facts_nil, le_t, d_c, d_v, and_true, g0g_den hE] at hF
  obtain ⟨n1, n3, l0, l1, c0, c1, hs⟩ := hF
  have e : ((E.i 41).toNat : Int) = E.i 41 := by omega
  have hr : BSame E (.row (.v 2) row3 (.v 41) [] 27) (.row (.v 2) row3 (.c ((E.i 41).toNat : Int)) [] 27) := BSame.row rfl (by rw [d_v, d_c, e]) _ _ _
  refine ⟨ct8_all (by omega), rfl, rfl, rfl, rfl, fun β => rfl, HSame.cons hr (HSame.cons (BSame.refl _ _) (HSame.nil _)), ?_, _, _, rfl, rfl, rfl, rfl, rfl, rfl, rfl, HSame.cons hr.symm (HSame.cons (BSame.refl _ _) (HSame.cons (BSame.refl _ _) (HSame.nil _)))⟩
  simp only [ct8, bd, List.cons_append, List.nil_append, facts_cons, facts_nil, le_t, d_c, d_v, and_true, g0_den hE]
  exact ⟨l0, l1, c0, c1, hs⟩
theorem g3_den {E : Env} (hE : E.fn = fns) : (SB.ap 3 (.a cA (.i (.v 40) (.b (.v 12) (.a (.v 0) (.i (.v 60) (.i (.v 61) (.i (.v 62) (.i (.v 63) (.i (.v 64) (.b (.v 13) (.i (.v 41) .nil)))))))))))).den E = true ↔ ok7 (E.i 41).toNat (sE E) (xE E) := by
  show E.fn.g 3 [.a (cA.den E), .i (E.i 40), .i (b2i (E.b 12)), .a ((AE.v 0).den E), .i (E.i 60), .i (E.i 61), .i (E.i 62), .i (E.i 63), .i (E.i 64), .i (b2i (E.b 13)), .i (E.i 41)] = true ↔ _
  rw [hE]
  show @decide (ok7 _ ⟨toP (cA.den E) 0, _, _, _⟩ _) (Classical.propDecidable _) = true ↔ _
  rw [cA_den]
  exact @decide_eq_true_iff _ (Classical.propDecidable _)
theorem rS_den {E : Env} (h : 0 ≤ E.i 61) (c : Nat) : (rS c).den E = E.a 0 (12 * (E.i 61).toNat + c) := by
  unfold rS
  rw [d_rd]
  have e : ((if c = 0 then SE.mul (.v 61) (.c 12) else .add (.mul (.v 61) (.c 12)) (.c c)).den E).toNat = 12 * (E.i 61).toNat + c := by
    split
    · rename_i h0; subst h0; simp only [d_mul, d_v, d_c]; omega
    · simp only [d_add, d_mul, d_v, d_c]; omega
  rw [e]; rfl
theorem ct7g_ok : CtOk Tryd.prog fns ct7g := by
  intro E β w hE hg hw hF
  refine ct7_ok E β w hE hg hw ?_
  simp only [ct7g, bd, List.cons_append, List.nil_append, facts_cons, facts_nil, le_t, d_c, d_v, and_true, g3_den hE] at hF
  obtain ⟨⟨⟨h0, h1, h2, h3, h4, h5, h6, h7, h8, h9⟩, ⟨p0, p1, p2, p3, p4, p5, p6, p7, p8, p9⟩, r, k, S, n, off, a, fin, ct, pt, prh, psl, csl, h7'⟩, n1, n3⟩ := hF
  have hS0 : 0 ≤ E.i 61 := S.1
  have hSl : E.i 61 < E.i 41 := by
    have : E.i 61 < ((E.i 41).toNat : Int) := S.2
    omega
  have rs := fun c => rS_den hS0 c
  simp only [ct7, rttF, bd, List.cons_append, List.nil_append, facts_cons, facts_nil, le_t, lt_t, d_c, d_v, d_add, imp_f, eq_t, and_true, rs]
  exact ⟨h0.1, h0.2, h1.1, h1.2, h2.1, h2.2, h3.1, h3.2, h4.1, h4.2, h5.1, h5.2, h6.1, h6.2, h7.1, h7.2, h8.1, h8.2, h9.1, h9.2, r.1, r.2, n1, n3, k.1, k.2, hS0, hSl, n.1, n.2, off.1, off.2, a.1, a.2,
    p0.1, p0.2, p1.1, p1.2, p2.1, p2.2, p3.1, p3.2, p4.1, p4.2, p5.1, p5.2, p6.1, p6.2, p7.1, p7.2, p8.1, p8.2, p9.1, p9.2, fin.1, fin.2, ct, pt, prh, psl, csl, fun h => (h7' h).1, fun h => (h7' h).2⟩
def Bc (j : Nat) : Int := [100, 100, 0].getD j 0
def Xc (j : Nat) : Int := [0, 0, 0, 50, 1, 0, 1, 0, 50, 0, 0, 0, 3, 0, 0, 0, 2, 0].getD j 0
theorem Bc_den (E : Env) : zee0.den E = Bc := by
  funext j
  match j with
  | 0 => rfl | 1 => rfl | 2 => rfl
  | n + 3 => rfl
theorem Xc_den (E : Env) : zee1.den E = Xc := by
  funext j
  match j with
  | 0 => rfl | 1 => rfl | 2 => rfl | 3 => rfl | 4 => rfl | 5 => rfl | 6 => rfl | 7 => rfl | 8 => rfl | 9 => rfl | 10 => rfl | 11 => rfl | 12 => rfl | 13 => rfl | 14 => rfl | 15 => rfl | 16 => rfl | 17 => rfl
  | n + 18 => rfl
instance (p : P1) : Decidable (okP p) := by unfold okP; infer_instance
instance (n : Nat) (s : Fs) : Decidable (Good n s) := by unfold Good; infer_instance
instance (n : Nat) (s : Fs) (x : Stp1) : Decidable (okIn n s x) := by unfold okIn; infer_instance
theorem scr_c : scrOk 1 (st0 100 100 0 Bc) Xc 3 := by
  have h : ∀ k, k ≤ 3 → Good 1 (runF 1 (st0 100 100 0 Bc) Xc k) ∧ (k < 3 → okIn 1 (runF 1 (st0 100 100 0 Bc) Xc k) (inp Xc k)) := by decide +kernel
  exact h
theorem out_c10 : outF 1 (st0 100 100 0 Bc) Xc 10 = 1 := by decide +kernel
theorem out_c17 : outF 1 (st0 100 100 0 Bc) Xc 17 = 150 := by decide +kernel
theorem prm11_ok (E : Env) (hE : E.fn = fns) : PrmOk E (prm11 Tryd.prog) where
  ct := by
    intro c hc
    simp only [prm11, List.mem_cons, List.not_mem_nil, or_false] at hc
    subst hc; rw [hE]; exact ct8g_ok
  mix := by kernel_rfl
  okf := okf_call
  body := okf_body
  mts := by intro x hx; cases hx
  dfr := by intro x hx; cases hx
  dfk := by intro x hx; cases hx
theorem ct11_ok : CtOk Tryd.prog fns ct11 := by
  refine ct_of_pts (p := prm11 Tryd.prog) (pts := []) (n := 200) (c0 := enterD (prm11 Tryd.prog) ct11) (fun E hE => prm11_ok E hE) rfl (by intro q hq; cases hq) Tryd.func11 (by kernel_rfl) (by intro t ht; cases ht) (fun _ _ _ => True) (fun _ _ _ => 0) zels (by kernel_rfl) ?_ (by intro i t ht; simp at ht)
  intro E hE hF
  refine ⟨noFacts (by simp [ct11]), fun x hx => ?_⟩
  have e2 : ∀ j, zee2.den E j = outF 1 (st0 100 100 0 Bc) Xc j := fun j => by
    show E.fn.a 0 [.i 100, .i 100, .i 0, .a (zee0.den E), .a (zee1.den E)] j = _
    rw [hE, Bc_den, Xc_den]; rfl
  have e3 : zee3.den E = 1 := (e2 10).trans out_c10
  have e4 : zee4.den E = 150 := (e2 17).trans out_c17
  unfold zels at hx
  simp only [List.mem_cons, List.not_mem_nil, or_false] at hx
  rcases hx with rfl | rfl | rfl
  · intro hf
    have := eq_t.1 ((fat hf 0 rfl))
    rw [e3, d_c] at this; omega
  · intro hf
    refine ⟨rfl, List.forall_mem_cons.2 ⟨?_, fun q hq => by cases hq⟩⟩
    show (SB.eq zee4 (.c 150)).den E = true
    rw [eq_t, e4]; rfl
  · intro hf
    have := (fat hf 0 rfl)
    have h2 : (SB.ap 0 (.i (.c 100) (.i (.c 100) (.i (.c 0) (.a zee0 (.i (.c 1) (.a zee1 (.i (.c 3) .nil)))))))).den E = true := by
      show E.fn.g 0 [.i 100, .i 100, .i 0, .a (zee0.den E), .i 1, .a (zee1.den E), .i 3] = true
      rw [hE, Bc_den, Xc_den]
      exact (@decide_eq_true_iff _ (Classical.propDecidable _)).2 scr_c
    rw [h2] at this; cases this
end Go.Proofs.YtpjifimjoinnnaaDoor
