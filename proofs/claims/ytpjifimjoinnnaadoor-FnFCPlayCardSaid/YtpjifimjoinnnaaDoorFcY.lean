/- The next byte of a script. -/
import Derived.Test.YtpjifimjoinnnaaDoorFcL
import Derived.Test.YtpjifimjoinnnaaDoorFcS
import Derived.KernelRfl
set_option autoImplicit true
set_option relaxedAutoImplicit true
set_option linter.unusedVariables false
set_option linter.unusedSimpArgs false
set_option maxRecDepth 100000
set_option maxHeartbeats 4000000
namespace Go.Proofs.YtpjifimjoinnnaaDoor
open Go Go.Sy Go.RowKit
noncomputable def ybe0 : SE := .add (.v 51) (.v 52)
noncomputable def ybe1 : SE := .rd (.v 5) (.v 51)
noncomputable def ybe2 : SE := .wrap .i64 ybe1
noncomputable def ybe3 : SE := .ni (.v 53) (.c 1)
noncomputable def ybe4 : SE := .add (.v 51) ybe3
noncomputable def ybe5 : SE := .sub (.v 52) (.c 1)
noncomputable def ybe6 : SE := .sub (.v 53) (.c 1)
noncomputable def ybf0 : Fx := [((.le (.c 0) (.v 50)), true), ((.le (.v 50) (.c 4294967296)), true), ((.le (.c 0) (.v 51)), true), ((.le (.v 51) (.c 4294967296)), true), ((.le (.c 0) (.v 52)), true), ((.le (.v 52) (.c 4294967296)), true), ((.le (.c 0) (.v 53)), true), ((.le (.v 53) (.c 9223372036854775807)), true), ((.le (.v 52) (.v 53)), true), ((.le ybe0 (.v 50)), true), ((.ap 1 (.a (.v 5) (.i (.v 50) .nil))), true)]
noncomputable def ybf1 : Fx := ((.lt (.c 0) (.v 52)), true) :: ((.eq (.v 52) (.c 0)), false) :: ybf0
noncomputable def ybx0 : Vl := .out 0 [.i (.c 0) (.v 500), .a (.v 5) (.v 5) (.v 50) 1, .i (.v 50) (.v 50), .i (.v 51) (.v 501), .i (.v 52) (.v 502), .i (.v 53) (.v 503)] (((.eq (.v 52) (.c 0)), true) :: ybf0)
noncomputable def ybx1 : Vl := .out 0 [.i ybe2 (.v 500), .a (.v 5) (.v 5) (.v 50) 1, .i (.v 50) (.v 50), .i ybe4 (.v 501), .i ybe5 (.v 502), .i ybe6 (.v 503)] (((.lt (.v 51) (.v 50)), true) :: ybf1)
noncomputable def ybx2 : Vl := .dead (((.lt (.v 51) (.v 50)), false) :: ybf1)
noncomputable def ybx3 : Vl := .dead (((.lt (.c 0) (.v 52)), false) :: ((.eq (.v 52) (.c 0)), false) :: ybf0)
noncomputable def ybls : List Vl := [ybx0, ybx1, ybx2, ybx3]
theorem ybrun : (run (prm4 Tryd.prog) 300 (enterD (prm4 Tryd.prog) ct4)).map (vOf (prm4 Tryd.prog) ct4 []) = ybls := by kernel_rfl
-- 4 ways; terms: ybe0, ybe1, ybe2, ybe3, ybe4, ybe5, ybe6
variable {E : Env}
theorem prm4_ok (E : Env) (hE : E.fn = fns) : PrmOk E (prm4 Tryd.prog) where
  ct := by intro c hc; cases hc
  mix := by kernel_rfl
  okf := okf_call
  body := okf_body
  mts := by intro x hx; cases hx
  dfr := by intro x hx; cases hx
  dfk := by intro x hx; cases hx
theorem g1_den (hE : E.fn = fns) : (SB.ap 1 (.a (.v 5) (.i (.v 50) .nil))).den E = true ↔ rng255 (E.a 5) (E.i 50).toNat := by
  show E.fn.g 1 [.a ((AE.v 5).den E), .i (E.i 50)] = true ↔ _
  rw [hE]
  exact @decide_eq_true_iff _ (Classical.propDecidable _)
def V4 (E : Env) (v o l c : Int) : Env := { E with i := fun j => if j = 500 then v else if j = 501 then o else if j = 502 then l else c }
theorem ct4_ok : CtOk Tryd.prog fns ct4 := by
  refine ct_of_ptsX (p := prm4 Tryd.prog) (pts := []) (n := 300) (c0 := enterD (prm4 Tryd.prog) ct4) (fun E hE => prm4_ok E hE) rfl (by intro q hq; cases hq) Tryd.func4 (by kernel_rfl) (by intro t ht; cases ht) (fun _ _ _ => True) (fun _ _ _ => 0) ybls ybrun ?_ (by intro i t ht; simp at ht)
  intro E hE hF
  simp only [ct4, codF, bd, List.cons_append, List.nil_append, facts_cons, facts_nil, le_t, d_c, d_v, d_add, and_true, g1_den hE] at hF
  obtain ⟨n0, n1, o0, o1, l0, l1, c0, c1, lc, ol, hr⟩ := hF
  refine ⟨noFacts (by simp [ct4]), fun E' _ hnox x hx => ?_⟩
  have hEE := hnox rfl
  subst hEE
  unfold ybls at hx
  simp only [List.mem_cons, List.not_mem_nil, or_false] at hx
  rcases hx with rfl | rfl | rfl | rfl
  · intro hf
    have a0 := (fat hf 0 rfl)
    rw [eq_t] at a0
    have a0 : E'.i 52 = 0 := a0
    refine ⟨rfl, V4 E' 0 (E'.i 51) (E'.i 52) (E'.i 53), ?_, fun a' ha' => ?_⟩
    · refine List.forall_mem_cons.2 ⟨rfl, List.forall_mem_cons.2 ⟨fun j _ => by rw [d_av, d_av]; rfl, List.forall_mem_cons.2 ⟨rfl, List.forall_mem_cons.2 ⟨rfl, List.forall_mem_cons.2 ⟨rfl, List.forall_mem_cons.2 ⟨rfl, fun q hq => by cases hq⟩⟩⟩⟩⟩⟩
    · obtain rfl := Option.some.inj ha'
      have h500 : (E'.upd xb 4 (V4 E' 0 (E'.i 51) (E'.i 52) (E'.i 53))).i 500 = 0 := rfl
      have h501 : (E'.upd xb 4 (V4 E' 0 (E'.i 51) (E'.i 52) (E'.i 53))).i 501 = E'.i 51 := rfl
      have h502 : (E'.upd xb 4 (V4 E' 0 (E'.i 51) (E'.i 52) (E'.i 53))).i 502 = E'.i 52 := rfl
      have h503 : (E'.upd xb 4 (V4 E' 0 (E'.i 51) (E'.i 52) (E'.i 53))).i 503 = E'.i 53 := rfl
      have h50 : (E'.upd xb 4 (V4 E' 0 (E'.i 51) (E'.i 52) (E'.i 53))).i 50 = E'.i 50 := rfl
      have h52 : (E'.upd xb 4 (V4 E' 0 (E'.i 51) (E'.i 52) (E'.i 53))).i 52 = E'.i 52 := rfl
      simp only [ct4, codX, bd, List.cons_append, List.nil_append, facts_cons, facts_nil, le_t, lt_t, and_f, not_t, lt_f, d_c, d_v, d_add, and_true, h500, h501, h502, h503, h50, h52]
      omega
  · intro hf
    have a1 := (fat hf 1 rfl)
    rw [lt_t] at a1
    have a1 : 0 < E'.i 52 := a1
    have hb := hr (E'.i 51).toNat (by omega)
    have hw : ybe2.den E' = E'.a 5 (E'.i 51).toNat := by
      show IntKind.i64.wrap ((AE.v 5).den E' (E'.i 51).toNat) = _
      rw [d_av]
      exact w64 (by omega)
    have hni : 0 ≤ ybe3.den E' ∧ ybe3.den E' ≤ 1 := by
      show 0 ≤ ini (E'.i 53) 1 ∧ ini (E'.i 53) 1 ≤ 1
      unfold ini; split <;> omega
    refine ⟨rfl, V4 E' (ybe2.den E') (ybe4.den E') (ybe5.den E') (ybe6.den E'), ?_, fun a' ha' => ?_⟩
    · refine List.forall_mem_cons.2 ⟨rfl, List.forall_mem_cons.2 ⟨fun j _ => by rw [d_av, d_av]; rfl, List.forall_mem_cons.2 ⟨rfl, List.forall_mem_cons.2 ⟨rfl, List.forall_mem_cons.2 ⟨rfl, List.forall_mem_cons.2 ⟨rfl, fun q hq => by cases hq⟩⟩⟩⟩⟩⟩
    · obtain rfl := Option.some.inj ha'
      have h500 : (E'.upd xb 4 (V4 E' (ybe2.den E') (ybe4.den E') (ybe5.den E') (ybe6.den E'))).i 500 = ybe2.den E' := rfl
      have h501 : (E'.upd xb 4 (V4 E' (ybe2.den E') (ybe4.den E') (ybe5.den E') (ybe6.den E'))).i 501 = E'.i 51 + ybe3.den E' := rfl
      have h502 : (E'.upd xb 4 (V4 E' (ybe2.den E') (ybe4.den E') (ybe5.den E') (ybe6.den E'))).i 502 = E'.i 52 - 1 := rfl
      have h503 : (E'.upd xb 4 (V4 E' (ybe2.den E') (ybe4.den E') (ybe5.den E') (ybe6.den E'))).i 503 = E'.i 53 - 1 := rfl
      have h50 : (E'.upd xb 4 (V4 E' (ybe2.den E') (ybe4.den E') (ybe5.den E') (ybe6.den E'))).i 50 = E'.i 50 := rfl
      have h52 : (E'.upd xb 4 (V4 E' (ybe2.den E') (ybe4.den E') (ybe5.den E') (ybe6.den E'))).i 52 = E'.i 52 := rfl
      simp only [ct4, codX, bd, List.cons_append, List.nil_append, facts_cons, facts_nil, le_t, lt_t, and_f, not_t, lt_f, d_c, d_v, d_add, and_true, h500, h501, h502, h503, h50, h52]
      omega
  · intro hf
    have a0 := (fat hf 0 rfl)
    have a1 := (fat hf 1 rfl)
    rw [lt_f] at a0; rw [lt_t] at a1
    have a0 : E'.i 50 ≤ E'.i 51 := a0
    have a1 : 0 < E'.i 52 := a1
    omega
  · intro hf
    have a0 := (fat hf 0 rfl)
    have a1 := (fat hf 1 rfl)
    rw [lt_f] at a0; rw [eq_f] at a1
    have a0 : E'.i 52 ≤ 0 := a0
    have a1 : E'.i 52 ≠ 0 := a1
    omega
end Go.Proofs.YtpjifimjoinnnaaDoor
