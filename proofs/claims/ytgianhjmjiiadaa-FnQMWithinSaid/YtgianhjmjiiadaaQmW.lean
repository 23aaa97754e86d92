/- The tracker's ReceivedPacket keeps its contracts. -/
import Derived.Test.YtgianhjmjiiadaaQmQ
import Derived.KernelRfl
set_option autoImplicit true
set_option relaxedAutoImplicit true
set_option linter.unusedVariables false
set_option linter.unusedSimpArgs false
set_option maxRecDepth 100000
set_option maxHeartbeats 4000000
namespace Go.Proofs.Ytgianhjmjiiadaa
open Go Go.Sy Go.RowKit
noncomputable def h30nae0 : SE := .add (.v 31) (.c 1)
noncomputable def h30nae1 : SE := .ite (.eq (.v 50) (.c 3)) h30nae0 (.v 31)
noncomputable def h30nae2 : SE := .add (.v 32) (.c 1)
noncomputable def h30nae3 : SE := .ite (.eq (.v 50) (.c 2)) h30nae2 (.v 32)
noncomputable def h30nae4 : SE := .add (.v 33) (.c 1)
noncomputable def h30nae5 : SE := .ite (.eq (.v 50) (.c 4)) h30nae4 (.v 33)
noncomputable def h30nae6 : AE := .ap 3 (.a (.v 0) (.i (.v 0) (.i (.v 1) .nil)))
noncomputable def h30nae7 : SE := .ap 3 (.a (.v 0) (.i (.v 0) (.i (.v 1) .nil)))
noncomputable def h30nae8 : SE := .add (.v 0) (.c 1)
noncomputable def h30naf0 : Fx := [((.le (.c 1) h30nae7), true), ((.le h30nae7 h30nae8), true), ((.ap 1 (.a h30nae6 (.i h30nae7 .nil))), true), ((.le (.c 0) (.v 0)), true), ((.le (.v 0) (.c 60)), true), ((.le (.c 0) (.v 1)), true), ((.le (.v 1) (.c 400)), true), ((.ap 1 (.a (.v 0) (.i (.v 0) .nil))), true), ((.lt (.v 1) (.v 6)), false), ((.ap 6 (.a (.v 0) (.i (.v 0) (.i (.v 1) .nil)))), false), ((.le (.c 0) (.v 31)), true), ((.le (.v 31) (.c 1000)), true), ((.le (.c 0) (.v 32)), true), ((.le (.v 32) (.c 1000)), true), ((.le (.c 0) (.v 33)), true), ((.le (.v 33) (.c 1000)), true)]
noncomputable def h30naf1 : Fx := ((.eq (.v 50) (.c 2)), true) :: ((.eq (.v 50) (.c 3)), false) :: h30naf0
noncomputable def h30naf2 : Fx := ((.eq (.v 50) (.c 2)), false) :: ((.eq (.v 50) (.c 3)), false) :: h30naf0
noncomputable def h30nax0 : Vl := .out 0 [.i h30nae0 h30nae1, .i (.v 32) h30nae3, .i (.v 33) h30nae5, .i (.v 6) (.v 6), .b (.c true) (.not (.and (.not (.v 0)) (.not (.v 2)))), .i (.v 34) (.v 34), .i (.v 35) (.v 35), .i (.v 36) (.v 36), .b (.v 1) (.v 1), .i (.v 37) (.v 37), .i (.v 38) (.v 38), .i (.v 39) (.v 39), .a h30nae6 h30nae6 h30nae7 2, .i h30nae7 h30nae7] (((.v 2), true) :: ((.eq (.v 50) (.c 3)), true) :: h30naf0)
noncomputable def h30nax1 : Vl := .out 0 [.i h30nae0 h30nae1, .i (.v 32) h30nae3, .i (.v 33) h30nae5, .i (.v 6) (.v 6), .b (.v 0) (.not (.and (.not (.v 0)) (.not (.v 2)))), .i (.v 34) (.v 34), .i (.v 35) (.v 35), .i (.v 36) (.v 36), .b (.v 1) (.v 1), .i (.v 37) (.v 37), .i (.v 38) (.v 38), .i (.v 39) (.v 39), .a h30nae6 h30nae6 h30nae7 2, .i h30nae7 h30nae7] (((.v 2), false) :: ((.eq (.v 50) (.c 3)), true) :: h30naf0)
noncomputable def h30nax2 : Vl := .out 0 [.i (.v 31) h30nae1, .i h30nae2 h30nae3, .i (.v 33) h30nae5, .i (.v 6) (.v 6), .b (.c true) (.not (.and (.not (.v 0)) (.not (.v 2)))), .i (.v 34) (.v 34), .i (.v 35) (.v 35), .i (.v 36) (.v 36), .b (.v 1) (.v 1), .i (.v 37) (.v 37), .i (.v 38) (.v 38), .i (.v 39) (.v 39), .a h30nae6 h30nae6 h30nae7 2, .i h30nae7 h30nae7] (((.v 2), true) :: h30naf1)
noncomputable def h30nax3 : Vl := .out 0 [.i (.v 31) h30nae1, .i h30nae2 h30nae3, .i (.v 33) h30nae5, .i (.v 6) (.v 6), .b (.v 0) (.not (.and (.not (.v 0)) (.not (.v 2)))), .i (.v 34) (.v 34), .i (.v 35) (.v 35), .i (.v 36) (.v 36), .b (.v 1) (.v 1), .i (.v 37) (.v 37), .i (.v 38) (.v 38), .i (.v 39) (.v 39), .a h30nae6 h30nae6 h30nae7 2, .i h30nae7 h30nae7] (((.v 2), false) :: h30naf1)
noncomputable def h30nax4 : Vl := .out 0 [.i (.v 31) h30nae1, .i (.v 32) h30nae3, .i h30nae4 h30nae5, .i (.v 6) (.v 6), .b (.c true) (.not (.and (.not (.v 0)) (.not (.v 2)))), .i (.v 34) (.v 34), .i (.v 35) (.v 35), .i (.v 36) (.v 36), .b (.v 1) (.v 1), .i (.v 37) (.v 37), .i (.v 38) (.v 38), .i (.v 39) (.v 39), .a h30nae6 h30nae6 h30nae7 2, .i h30nae7 h30nae7] (((.v 2), true) :: ((.eq (.v 50) (.c 4)), true) :: h30naf2)
noncomputable def h30nax5 : Vl := .out 0 [.i (.v 31) h30nae1, .i (.v 32) h30nae3, .i h30nae4 h30nae5, .i (.v 6) (.v 6), .b (.v 0) (.not (.and (.not (.v 0)) (.not (.v 2)))), .i (.v 34) (.v 34), .i (.v 35) (.v 35), .i (.v 36) (.v 36), .b (.v 1) (.v 1), .i (.v 37) (.v 37), .i (.v 38) (.v 38), .i (.v 39) (.v 39), .a h30nae6 h30nae6 h30nae7 2, .i h30nae7 h30nae7] (((.v 2), false) :: ((.eq (.v 50) (.c 4)), true) :: h30naf2)
noncomputable def h30nax6 : Vl := .out 0 [.i (.v 31) h30nae1, .i (.v 32) h30nae3, .i (.v 33) h30nae5, .i (.v 6) (.v 6), .b (.c true) (.not (.and (.not (.v 0)) (.not (.v 2)))), .i (.v 34) (.v 34), .i (.v 35) (.v 35), .i (.v 36) (.v 36), .b (.v 1) (.v 1), .i (.v 37) (.v 37), .i (.v 38) (.v 38), .i (.v 39) (.v 39), .a h30nae6 h30nae6 h30nae7 2, .i h30nae7 h30nae7] (((.v 2), true) :: ((.eq (.v 50) (.c 4)), false) :: h30naf2)
noncomputable def h30nax7 : Vl := .out 0 [.i (.v 31) h30nae1, .i (.v 32) h30nae3, .i (.v 33) h30nae5, .i (.v 6) (.v 6), .b (.v 0) (.not (.and (.not (.v 0)) (.not (.v 2)))), .i (.v 34) (.v 34), .i (.v 35) (.v 35), .i (.v 36) (.v 36), .b (.v 1) (.v 1), .i (.v 37) (.v 37), .i (.v 38) (.v 38), .i (.v 39) (.v 39), .a h30nae6 h30nae6 h30nae7 2, .i h30nae7 h30nae7] (((.v 2), false) :: ((.eq (.v 50) (.c 4)), false) :: h30naf2)
noncomputable def h30nals : List Vl := [h30nax0, h30nax1, h30nax2, h30nax3, h30nax4, h30nax5, h30nax6, h30nax7]
noncomputable def h30tae0 : SE := .add (.v 31) (.c 1)
noncomputable def h30tae1 : SE := .ite (.eq (.v 50) (.c 3)) h30tae0 (.v 31)
noncomputable def h30tae2 : SE := .add (.v 32) (.c 1)
noncomputable def h30tae3 : SE := .ite (.eq (.v 50) (.c 2)) h30tae2 (.v 32)
noncomputable def h30tae4 : SE := .add (.v 33) (.c 1)
noncomputable def h30tae5 : SE := .ite (.eq (.v 50) (.c 4)) h30tae4 (.v 33)
noncomputable def h30tae6 : AE := .ap 3 (.a (.v 0) (.i (.v 0) (.i (.v 1) .nil)))
noncomputable def h30tae7 : SE := .ap 3 (.a (.v 0) (.i (.v 0) (.i (.v 1) .nil)))
noncomputable def h30tae8 : SE := .add (.v 0) (.c 1)
noncomputable def h30taf0 : Fx := [((.le (.c 1) h30tae7), true), ((.le h30tae7 h30tae8), true), ((.ap 1 (.a h30tae6 (.i h30tae7 .nil))), true), ((.le (.c 0) (.v 0)), true), ((.le (.v 0) (.c 60)), true), ((.le (.c 0) (.v 1)), true), ((.le (.v 1) (.c 400)), true), ((.ap 1 (.a (.v 0) (.i (.v 0) .nil))), true), ((.lt (.v 1) (.v 6)), false), ((.ap 6 (.a (.v 0) (.i (.v 0) (.i (.v 1) .nil)))), false), ((.le (.c 0) (.v 31)), true), ((.le (.v 31) (.c 1000)), true), ((.le (.c 0) (.v 32)), true), ((.le (.v 32) (.c 1000)), true), ((.le (.c 0) (.v 33)), true), ((.le (.v 33) (.c 1000)), true)]
noncomputable def h30taf1 : Fx := ((.eq (.v 50) (.c 2)), true) :: ((.eq (.v 50) (.c 3)), false) :: h30taf0
noncomputable def h30taf2 : Fx := ((.eq (.v 50) (.c 2)), false) :: ((.eq (.v 50) (.c 3)), false) :: h30taf0
noncomputable def h30tax0 : Vl := .out 0 [.i h30tae0 h30tae1, .i (.v 32) h30tae3, .i (.v 33) h30tae5, .i (.v 6) (.v 6), .b (.c true) (.not (.and (.not (.v 0)) (.not (.v 2)))), .i (.v 34) (.v 34), .i (.v 35) (.v 35), .i (.v 36) (.v 36), .b (.v 1) (.v 1), .i (.v 37) (.v 37), .i (.v 38) (.v 38), .i (.v 39) (.v 39), .a h30tae6 h30tae6 h30tae7 2, .i h30tae7 h30tae7] (((.v 2), true) :: ((.eq (.v 50) (.c 3)), true) :: h30taf0)
noncomputable def h30tax1 : Vl := .out 0 [.i h30tae0 h30tae1, .i (.v 32) h30tae3, .i (.v 33) h30tae5, .i (.v 6) (.v 6), .b (.v 0) (.not (.and (.not (.v 0)) (.not (.v 2)))), .i (.v 34) (.v 34), .i (.v 35) (.v 35), .i (.v 36) (.v 36), .b (.v 1) (.v 1), .i (.v 37) (.v 37), .i (.v 38) (.v 38), .i (.v 39) (.v 39), .a h30tae6 h30tae6 h30tae7 2, .i h30tae7 h30tae7] (((.v 2), false) :: ((.eq (.v 50) (.c 3)), true) :: h30taf0)
noncomputable def h30tax2 : Vl := .out 0 [.i (.v 31) h30tae1, .i h30tae2 h30tae3, .i (.v 33) h30tae5, .i (.v 6) (.v 6), .b (.c true) (.not (.and (.not (.v 0)) (.not (.v 2)))), .i (.v 34) (.v 34), .i (.v 35) (.v 35), .i (.v 36) (.v 36), .b (.v 1) (.v 1), .i (.v 37) (.v 37), .i (.v 38) (.v 38), .i (.v 39) (.v 39), .a h30tae6 h30tae6 h30tae7 2, .i h30tae7 h30tae7] (((.v 2), true) :: h30taf1)
noncomputable def h30tax3 : Vl := .out 0 [.i (.v 31) h30tae1, .i h30tae2 h30tae3, .i (.v 33) h30tae5, .i (.v 6) (.v 6), .b (.v 0) (.not (.and (.not (.v 0)) (.not (.v 2)))), .i (.v 34) (.v 34), .i (.v 35) (.v 35), .i (.v 36) (.v 36), .b (.v 1) (.v 1), .i (.v 37) (.v 37), .i (.v 38) (.v 38), .i (.v 39) (.v 39), .a h30tae6 h30tae6 h30tae7 2, .i h30tae7 h30tae7] (((.v 2), false) :: h30taf1)
noncomputable def h30tax4 : Vl := .out 0 [.i (.v 31) h30tae1, .i (.v 32) h30tae3, .i h30tae4 h30tae5, .i (.v 6) (.v 6), .b (.c true) (.not (.and (.not (.v 0)) (.not (.v 2)))), .i (.v 34) (.v 34), .i (.v 35) (.v 35), .i (.v 36) (.v 36), .b (.v 1) (.v 1), .i (.v 37) (.v 37), .i (.v 38) (.v 38), .i (.v 39) (.v 39), .a h30tae6 h30tae6 h30tae7 2, .i h30tae7 h30tae7] (((.v 2), true) :: ((.eq (.v 50) (.c 4)), true) :: h30taf2)
noncomputable def h30tax5 : Vl := .out 0 [.i (.v 31) h30tae1, .i (.v 32) h30tae3, .i h30tae4 h30tae5, .i (.v 6) (.v 6), .b (.v 0) (.not (.and (.not (.v 0)) (.not (.v 2)))), .i (.v 34) (.v 34), .i (.v 35) (.v 35), .i (.v 36) (.v 36), .b (.v 1) (.v 1), .i (.v 37) (.v 37), .i (.v 38) (.v 38), .i (.v 39) (.v 39), .a h30tae6 h30tae6 h30tae7 2, .i h30tae7 h30tae7] (((.v 2), false) :: ((.eq (.v 50) (.c 4)), true) :: h30taf2)
noncomputable def h30tax6 : Vl := .out 0 [.i (.v 31) h30tae1, .i (.v 32) h30tae3, .i (.v 33) h30tae5, .i (.v 6) (.v 6), .b (.c true) (.not (.and (.not (.v 0)) (.not (.v 2)))), .i (.v 34) (.v 34), .i (.v 35) (.v 35), .i (.v 36) (.v 36), .b (.v 1) (.v 1), .i (.v 37) (.v 37), .i (.v 38) (.v 38), .i (.v 39) (.v 39), .a h30tae6 h30tae6 h30tae7 2, .i h30tae7 h30tae7] (((.v 2), true) :: ((.eq (.v 50) (.c 4)), false) :: h30taf2)
noncomputable def h30tax7 : Vl := .out 0 [.i (.v 31) h30tae1, .i (.v 32) h30tae3, .i (.v 33) h30tae5, .i (.v 6) (.v 6), .b (.v 0) (.not (.and (.not (.v 0)) (.not (.v 2)))), .i (.v 34) (.v 34), .i (.v 35) (.v 35), .i (.v 36) (.v 36), .b (.v 1) (.v 1), .i (.v 37) (.v 37), .i (.v 38) (.v 38), .i (.v 39) (.v 39), .a h30tae6 h30tae6 h30tae7 2, .i h30tae7 h30tae7] (((.v 2), false) :: ((.eq (.v 50) (.c 4)), false) :: h30taf2)
noncomputable def h30tals : List Vl := [h30tax0, h30tax1, h30tax2, h30tax3, h30tax4, h30tax5, h30tax6, h30tax7]
theorem prm30n_ok (E : Env) (hE : E.fn = fns) : PrmOk E (prm30 Try.prog laN an2) := prm_ok E hE (by
    intro c hc
    simp only [List.mem_cons, List.not_mem_nil, or_false] at hc
    subst hc; exact ct40n_ok) (by intro b hb; cases hb)
theorem ct30n_ok : CtOk Try.prog fns (ct30 laN an2) := by
  refine ct_of_pts (p := prm30 Try.prog laN an2) (pts := []) (n := 900) (c0 := enterD (prm30 Try.prog laN an2) (ct30 laN an2)) (fun E hE => prm30n_ok E hE) rfl (by intro q hq; cases hq) Try.func30 (by kernel_rfl) (by intro t ht; cases ht) (fun _ _ _ => True) (fun _ _ _ => 0) h30nals (by kernel_rfl) ?_ (by intro i t ht; cases ht)
  intro E hE hF
  obtain ⟨n, hn, hn60, p0, p1, hr⟩ := pre50 (la := laN) (ex := an2) hE (fun q hq => hF q (by
    have hq' : q ∈ (bd (.v 0) 0 60 ++ bd (.v 1) 0 400) ++ [rgF (.v 0) (.v 0)] := hq
    simp only [ct30, List.mem_append] at hq' ⊢
    rcases hq' with (h | h) | h
    · simp [h]
    · simp [h]
    · simp at h; simp [h]))
  have D1 : h30nae1.den E = if (E.i 50 == 3) = true then E.i 31 + 1 else E.i 31 := rfl
  have D3 : h30nae3.den E = if (E.i 50 == 2) = true then E.i 32 + 1 else E.i 32 := rfl
  have D5 : h30nae5.den E = if (E.i 50 == 4) = true then E.i 33 + 1 else E.i 33 := rfl
  have D0 : h30nae0.den E = E.i 31 + 1 := rfl
  have D2 : h30nae2.den E = E.i 32 + 1 := rfl
  have D4 : h30nae4.den E = E.i 33 + 1 := rfl
  have DB : (SB.not (.and (.not (.v 0)) (.not (.v 2)))).den E = (!(!E.b 0 && !E.b 2)) := rfl
  have DT : (SB.c true).den E = true := rfl
  have DV : ∀ k, (SB.v k).den E = E.b k := fun _ => rfl
  refine ⟨fun a ha => ?_, fun x hx => ?_⟩
  · obtain rfl := Option.some.inj ha; exact ad_facts hE hn p0 (by omega) hr
  · unfold h30nals at hx
    simp only [List.mem_cons, List.not_mem_nil, or_false] at hx
    rcases hx with rfl | rfl | rfl | rfl | rfl | rfl | rfl | rfl
    all_goals
      intro hf
      refine ⟨rfl, ?_⟩
      simp only [h30naf0, h30naf1, h30naf2, facts_cons, facts_nil, eq_t, eq_f, d_v, d_c, DV, and_true] at hf
      simp only [List.forall_mem_cons, List.not_mem_nil, false_imp_iff, implies_true, and_true, true_and, Eqn.ok]
      simp only [D0, D1, D2, D3, D4, D5, DB, DT, DV, d_v, beq_iff_eq]
      cases hb0 : E.b 0 <;> cases hb2 : E.b 2 <;> simp_all
theorem prm30t_ok (E : Env) (hE : E.fn = fns) : PrmOk E (prm30 Try.prog laT an3) := prm_ok E hE (by
    intro c hc
    simp only [List.mem_cons, List.not_mem_nil, or_false] at hc
    subst hc; exact ct40t_ok) (by intro b hb; cases hb)
theorem ct30t_ok : CtOk Try.prog fns (ct30 laT an3) := by
  refine ct_of_pts (p := prm30 Try.prog laT an3) (pts := []) (n := 900) (c0 := enterD (prm30 Try.prog laT an3) (ct30 laT an3)) (fun E hE => prm30t_ok E hE) rfl (by intro q hq; cases hq) Try.func30 (by kernel_rfl) (by intro t ht; cases ht) (fun _ _ _ => True) (fun _ _ _ => 0) h30tals (by kernel_rfl) ?_ (by intro i t ht; cases ht)
  intro E hE hF
  obtain ⟨n, hn, hn60, p0, p1, hr⟩ := pre50 (la := laN) (ex := an2) hE (fun q hq => hF q (by
    have hq' : q ∈ (bd (.v 0) 0 60 ++ bd (.v 1) 0 400) ++ [rgF (.v 0) (.v 0)] := hq
    simp only [ct30, List.mem_append] at hq' ⊢
    rcases hq' with (h | h) | h
    · simp [h]
    · simp [h]
    · simp at h; simp [h]))
  have D1 : h30tae1.den E = if (E.i 50 == 3) = true then E.i 31 + 1 else E.i 31 := rfl
  have D3 : h30tae3.den E = if (E.i 50 == 2) = true then E.i 32 + 1 else E.i 32 := rfl
  have D5 : h30tae5.den E = if (E.i 50 == 4) = true then E.i 33 + 1 else E.i 33 := rfl
  have D0 : h30tae0.den E = E.i 31 + 1 := rfl
  have D2 : h30tae2.den E = E.i 32 + 1 := rfl
  have D4 : h30tae4.den E = E.i 33 + 1 := rfl
  have DB : (SB.not (.and (.not (.v 0)) (.not (.v 2)))).den E = (!(!E.b 0 && !E.b 2)) := rfl
  have DT : (SB.c true).den E = true := rfl
  have DV : ∀ k, (SB.v k).den E = E.b k := fun _ => rfl
  refine ⟨fun a ha => ?_, fun x hx => ?_⟩
  · obtain rfl := Option.some.inj ha; exact ad_facts hE hn p0 (by omega) hr
  · unfold h30tals at hx
    simp only [List.mem_cons, List.not_mem_nil, or_false] at hx
    rcases hx with rfl | rfl | rfl | rfl | rfl | rfl | rfl | rfl
    all_goals
      intro hf
      refine ⟨rfl, ?_⟩
      simp only [h30taf0, h30taf1, h30taf2, facts_cons, facts_nil, eq_t, eq_f, d_v, d_c, DV, and_true] at hf
      simp only [List.forall_mem_cons, List.not_mem_nil, false_imp_iff, implies_true, and_true, true_and, Eqn.ok]
      simp only [D0, D1, D2, D3, D4, D5, DB, DT, DV, d_v, beq_iff_eq]
      cases hb0 : E.b 0 <;> cases hb2 : E.b 2 <;> simp_all
end Go.Proofs.Ytgianhjmjiiadaa
