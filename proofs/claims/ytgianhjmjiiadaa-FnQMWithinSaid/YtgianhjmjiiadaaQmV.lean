/- AcksPacket keeps its contract. -/
import Derived.Test.YtgianhjmjiiadaaQmQ
import Derived.KernelRfl
set_option autoImplicit true
set_option relaxedAutoImplicit true
set_option linter.unusedVariables false
set_option linter.unusedSimpArgs false
set_option maxRecDepth 100000
set_option maxHeartbeats 4000000
namespace Go.Proofs.Ytgianhjmjiiadaa
open Go Go.Sy Go.RowKit
noncomputable def h59ax0 : Vl := .go 0 [(21, (.v 40)), (20, (.c 0))] [] [] [((.le (.c 1) (.v 40)), true), ((.le (.v 40) (.c 61)), true), ((.ap 2 (.a (.v 2) (.i (.v 40) .nil))), true)] (.code (.loop (loopB (prm59 Try.prog).P 59 2))) (loopK (prm59 Try.prog).P 59 2)
noncomputable def h59als : List Vl := [h59ax0]
noncomputable def h59p0e0 : SE := .add (.v 20) (.v 21)
noncomputable def h59p0e1 : SE := .shr .u64 h59p0e0 (.c 1)
noncomputable def h59p0e2 : SE := .wrap .i64 h59p0e1
noncomputable def h59p0e3 : SE := .mul h59p0e2 (.c 2)
noncomputable def h59p0e4 : SE := .rd (.v 2) h59p0e3
noncomputable def h59p0e5 : SE := .add h59p0e2 (.c 1)
noncomputable def h59p0e6 : SE := .wrap .i64 h59p0e5
noncomputable def h59p0e7 : SE := .ap 9 (.a (.v 2) (.i (.v 40) (.i (.v 1) .nil)))
noncomputable def h59p0x0 : Vl := .go 0 [(21, h59p0e2)] [] [] [((.le h59p0e4 (.v 1)), true), ((.lt h59p0e2 (.v 40)), true), ((.le (.c 0) h59p0e2), true), ((.lt (.v 20) (.v 21)), true), ((.le (.c 1) (.v 40)), true), ((.le (.v 40) (.c 61)), true), ((.ap 2 (.a (.v 2) (.i (.v 40) .nil))), true), ((.le (.c 0) (.v 20)), true), ((.le (.v 20) (.c 61)), true), ((.le (.c 0) (.v 21)), true), ((.le (.v 21) (.c 61)), true), ((.le (.v 20) (.v 21)), true), ((.le (.v 21) (.v 40)), true)] (.exit .normal) (.loop (loopB (prm59 Try.prog).P 59 2) :: loopK (prm59 Try.prog).P 59 2)
noncomputable def h59p0x1 : Vl := .go 0 [(20, h59p0e6)] [] [] [((.le h59p0e4 (.v 1)), false), ((.lt h59p0e2 (.v 40)), true), ((.le (.c 0) h59p0e2), true), ((.lt (.v 20) (.v 21)), true), ((.le (.c 1) (.v 40)), true), ((.le (.v 40) (.c 61)), true), ((.ap 2 (.a (.v 2) (.i (.v 40) .nil))), true), ((.le (.c 0) (.v 20)), true), ((.le (.v 20) (.c 61)), true), ((.le (.c 0) (.v 21)), true), ((.le (.v 21) (.c 61)), true), ((.le (.v 20) (.v 21)), true), ((.le (.v 21) (.v 40)), true)] (.exit .normal) (.loop (loopB (prm59 Try.prog).P 59 2) :: loopK (prm59 Try.prog).P 59 2)
noncomputable def h59p0x2 : Vl := .dead [((.lt h59p0e2 (.v 40)), false), ((.le (.c 0) h59p0e2), true), ((.lt (.v 20) (.v 21)), true), ((.le (.c 1) (.v 40)), true), ((.le (.v 40) (.c 61)), true), ((.ap 2 (.a (.v 2) (.i (.v 40) .nil))), true), ((.le (.c 0) (.v 20)), true), ((.le (.v 20) (.c 61)), true), ((.le (.c 0) (.v 21)), true), ((.le (.v 21) (.c 61)), true), ((.le (.v 20) (.v 21)), true), ((.le (.v 21) (.v 40)), true)]
noncomputable def h59p0x3 : Vl := .dead [((.le (.c 0) h59p0e2), false), ((.lt (.v 20) (.v 21)), true), ((.le (.c 1) (.v 40)), true), ((.le (.v 40) (.c 61)), true), ((.ap 2 (.a (.v 2) (.i (.v 40) .nil))), true), ((.le (.c 0) (.v 20)), true), ((.le (.v 20) (.c 61)), true), ((.le (.c 0) (.v 21)), true), ((.le (.v 21) (.c 61)), true), ((.le (.v 20) (.v 21)), true), ((.le (.v 21) (.v 40)), true)]
noncomputable def h59p0x4 : Vl := .out 0 [.i (.v 20) h59p0e7, .i (.v 41) (.v 41), .i (.v 42) (.v 42), .i (.v 43) (.v 43), .i (.v 44) (.v 44), .a (.v 2) (.v 2) (.v 40) 2, .i (.v 40) (.v 40), .i (.v 1) (.v 1)] [((.lt (.v 20) (.v 21)), false), ((.le (.c 1) (.v 40)), true), ((.le (.v 40) (.c 61)), true), ((.ap 2 (.a (.v 2) (.i (.v 40) .nil))), true), ((.le (.c 0) (.v 20)), true), ((.le (.v 20) (.c 61)), true), ((.le (.c 0) (.v 21)), true), ((.le (.v 21) (.c 61)), true), ((.le (.v 20) (.v 21)), true), ((.le (.v 21) (.v 40)), true)]
noncomputable def h59p0ls : List Vl := [h59p0x0, h59p0x1, h59p0x2, h59p0x3, h59p0x4]
theorem h59p0run : (run (prm59 Try.prog) 900 (ptD (pts59 Try.prog) 0 59)).map (vOf (prm59 Try.prog) ct59 (pts59 Try.prog)) = h59p0ls := by kernel_rfl
noncomputable def h53ae0 : SE := .sub (.v 40) (.c 1)
noncomputable def h53ae1 : SE := .mul h53ae0 (.c 2)
noncomputable def h53ae2 : SE := .rd (.v 2) h53ae1
noncomputable def h53ae3 : SE := .rd (.v 2) (.c 1)
noncomputable def h53ae4 : SE := .ap 9 (.a (.v 2) (.i (.v 40) (.i (.v 1) .nil)))
noncomputable def h53ae5 : SE := .mul h53ae4 (.c 2)
noncomputable def h53ae6 : SE := .add h53ae5 (.c 1)
noncomputable def h53ae7 : SE := .rd (.v 2) h53ae6
noncomputable def h53ax0 : Vl := .out 0 [.b (.c false) (.ap 7 (.a (.v 2) (.i (.v 40) (.i (.v 1) .nil)))), .i (.v 41) (.v 41), .i (.v 42) (.v 42), .i (.v 43) (.v 43), .i (.v 44) (.v 44), .a (.v 2) (.v 2) (.v 40) 2, .i (.v 40) (.v 40)] [((.lt (.v 1) h53ae2), true), ((.lt h53ae0 (.v 40)), true), ((.le (.c 1) (.v 40)), true), ((.le (.v 40) (.c 61)), true), ((.le (.c 0) (.v 1)), true), ((.le (.v 1) (.c 400)), true), ((.ap 2 (.a (.v 2) (.i (.v 40) .nil))), true)]
noncomputable def h53ax1 : Vl := .out 0 [.b (.c false) (.ap 7 (.a (.v 2) (.i (.v 40) (.i (.v 1) .nil)))), .i (.v 41) (.v 41), .i (.v 42) (.v 42), .i (.v 43) (.v 43), .i (.v 44) (.v 44), .a (.v 2) (.v 2) (.v 40) 2, .i (.v 40) (.v 40)] [((.lt h53ae3 (.v 1)), true), ((.lt (.v 1) h53ae2), false), ((.lt h53ae0 (.v 40)), true), ((.le (.c 1) (.v 40)), true), ((.le (.v 40) (.c 61)), true), ((.le (.c 0) (.v 1)), true), ((.le (.v 1) (.c 400)), true), ((.ap 2 (.a (.v 2) (.i (.v 40) .nil))), true)]
noncomputable def h53ax2 : Vl := .out 0 [.b (.le (.v 1) h53ae7) (.ap 7 (.a (.v 2) (.i (.v 40) (.i (.v 1) .nil)))), .i (.v 41) (.v 41), .i (.v 42) (.v 42), .i (.v 43) (.v 43), .i (.v 44) (.v 44), .a (.v 2) (.v 2) (.v 40) 2, .i (.v 40) (.v 40)] [((.lt h53ae4 (.v 40)), true), ((.le h53ae4 (.c 60)), true), ((.le (.c 0) h53ae4), true), ((.lt h53ae3 (.v 1)), false), ((.lt (.v 1) h53ae2), false), ((.lt h53ae0 (.v 40)), true), ((.le (.c 1) (.v 40)), true), ((.le (.v 40) (.c 61)), true), ((.le (.c 0) (.v 1)), true), ((.le (.v 1) (.c 400)), true), ((.ap 2 (.a (.v 2) (.i (.v 40) .nil))), true)]
noncomputable def h53ax3 : Vl := .dead [((.lt h53ae4 (.v 40)), false), ((.le h53ae4 (.c 60)), true), ((.le (.c 0) h53ae4), true), ((.lt h53ae3 (.v 1)), false), ((.lt (.v 1) h53ae2), false), ((.lt h53ae0 (.v 40)), true), ((.le (.c 1) (.v 40)), true), ((.le (.v 40) (.c 61)), true), ((.le (.c 0) (.v 1)), true), ((.le (.v 1) (.c 400)), true), ((.ap 2 (.a (.v 2) (.i (.v 40) .nil))), true)]
noncomputable def h53ax4 : Vl := .dead [((.le h53ae4 (.c 60)), false), ((.le (.c 0) h53ae4), true), ((.lt h53ae3 (.v 1)), false), ((.lt (.v 1) h53ae2), false), ((.lt h53ae0 (.v 40)), true), ((.le (.c 1) (.v 40)), true), ((.le (.v 40) (.c 61)), true), ((.le (.c 0) (.v 1)), true), ((.le (.v 1) (.c 400)), true), ((.ap 2 (.a (.v 2) (.i (.v 40) .nil))), true)]
noncomputable def h53ax5 : Vl := .dead [((.le (.c 0) h53ae4), false), ((.lt h53ae3 (.v 1)), false), ((.lt (.v 1) h53ae2), false), ((.lt h53ae0 (.v 40)), true), ((.le (.c 1) (.v 40)), true), ((.le (.v 40) (.c 61)), true), ((.le (.c 0) (.v 1)), true), ((.le (.v 1) (.c 400)), true), ((.ap 2 (.a (.v 2) (.i (.v 40) .nil))), true)]
noncomputable def h53ax6 : Vl := .dead [((.lt h53ae0 (.v 40)), false), ((.le (.c 1) (.v 40)), true), ((.le (.v 40) (.c 61)), true), ((.le (.c 0) (.v 1)), true), ((.le (.v 1) (.c 400)), true), ((.ap 2 (.a (.v 2) (.i (.v 40) .nil))), true)]
noncomputable def h53als : List Vl := [h53ax0, h53ax1, h53ax2, h53ax3, h53ax4, h53ax5, h53ax6]
theorem prm59_ok (E : Env) (hE : E.fn = fns) : PrmOk E (prm59 Try.prog) := prm_ok E hE (by intro c hc; cases hc) (by intro b hb; cases hb)
theorem rd_of {E : Env} (hE : E.fn = fns) {m : Nat} (hm : E.i 40 = m) (h : rdF.1.den E = true) : RgD (E.a 2) m := by
  have e' : E.fn.g 2 [.a (fun j => E.a 2 j), .i (E.i 40)] = true := h
  rw [hE] at e'
  have e2 : @decide (RgD (fun j => E.a 2 j) (E.i 40).toNat) (Classical.propDecidable _) = true := e'
  have := @of_decide_eq_true _ (Classical.propDecidable _) e2
  rw [hm] at this; exact this
theorem of_rd {E : Env} (hE : E.fn = fns) {m : Nat} (hm : E.i 40 = m) (h : RgD (E.a 2) m) : rdF.1.den E = true := by
  show E.fn.g 2 [.a (fun j => E.a 2 j), .i (E.i 40)] = true
  rw [hE]
  show @decide (RgD (fun j => E.a 2 j) (E.i 40).toNat) (Classical.propDecidable _) = true
  rw [hm]
  exact @decide_eq_true _ (Classical.propDecidable _) h
theorem fi_den {E : Env} (hE : E.fn = fns) {m : Nat} (hm : E.i 40 = m) : (f3 9 (.v 2) (.v 40) (.v 1)).den E = fiR (E.a 2) (E.i 1) m ∧ (b3 7 (.v 2) (.v 40) (.v 1)).den E = acks (E.a 2) m (E.i 1) := by
  refine ⟨?_, ?_⟩ <;> (simp only [f3, b3, SB.den, SE.den, AE.den, SL.den, hE])
  · show ((fiR (fun j => E.a 2 j) (E.i 1) (E.i 40).toNat : Nat) : Int) = _; rw [hm]; rfl
  · show acks (fun j => E.a 2 j) (E.i 40).toNat (E.i 1) = _; rw [hm]; rfl
theorem pre59 {E0 : Env} (hE : E0.fn = fns) (hF : Facts E0 ct59.pre) : ∃ m : Nat, E0.i 40 = m ∧ 1 ≤ m ∧ m ≤ 61 ∧ RgD (E0.a 2) m := by
  have h := hF rdF (by simp [ct59])
  have a : 1 ≤ E0.i 40 := of_decide_eq_true (hF (.le (.c 1) (.v 40), true) (by simp [ct59, bd]))
  have b : E0.i 40 ≤ 61 := of_decide_eq_true (hF (.le (.v 40) (.c 61), true) (by simp [ct59, bd]))
  exact ⟨(E0.i 40).toNat, by omega, by omega, by omega, rd_of hE (by omega) h⟩
structure I59 (m : Nat) (E0 E : Env) (lo hi : Nat) : Prop where
  s : Sm2 E0 E
  i20 : E.i 20 = (lo : Int)
  i21 : E.i 21 = (hi : Int)
  lh : lo ≤ hi
  hm : hi ≤ m
  h1 : ∀ j, j < lo → E0.i 1 < E0.a 2 (j * 2)
  h2 : hi < m → E0.a 2 (hi * 2) ≤ E0.i 1
theorem sm2_put {E0 E : Env} (h : Sm2 E0 E) {k : Nat} (hk : k = 20 ∨ k = 21) (x : SE) (o : Nat → Value) : Sm2 E0 (E.put [(k, x)] [] [] o) := by
  refine ⟨fun m h1 h2 => ?_, h.b, h.a⟩
  show (match fnd m [(k, x)] with | some e => e.den E | none => E.i m) = _
  simp only [fnd, if_neg (show ¬ k = m by omega)]; exact h.i m h1 h2
theorem ct59_ok : CtOk Try.prog fns ct59 := by
  refine ct_of_pts (p := prm59 Try.prog) (pts := pts59 Try.prog) (n := 900) (c0 := enterD (prm59 Try.prog) ct59) (fun E hE => prm59_ok E hE) rfl (by intro q hq; cases hq) Try.func59 (by kernel_rfl) ?_ (fun E0 _ E => ∃ lo hi, I59 (E0.i 40).toNat E0 E lo hi) (fun E0 _ E => (E.i 21 - E.i 20).toNat) h59als (by kernel_rfl) ?_ ?_
  · intro t ht
    simp only [pts59, List.mem_cons, List.not_mem_nil, or_false] at ht
    subst ht
    exact ⟨by kernel_rfl, by decide⟩
  · intro E hE hF
    obtain ⟨m, hm, m1, m61, hr⟩ := pre59 hE hF
    refine ⟨fun a ha => ?_, fun x hx => ?_⟩
    · obtain rfl := Option.some.inj ha; intro q hq; cases hq
    · unfold h59als at hx
      simp only [List.mem_cons, List.not_mem_nil, or_false] at hx
      subst hx
      intro hf
      refine ⟨⟨_, rfl, .inl ⟨rfl, rfl⟩⟩, fun o => ⟨⟨0, m, ⟨fun k h1 h2 => ?_, rfl, rfl⟩, rfl, hm, Nat.zero_le _, by omega, fun j h => absurd h (Nat.not_lt_zero _), fun h => by omega⟩, fun b hb => by cases hb⟩⟩
      show (match fnd k [(21, SE.v 40), (20, SE.c 0)] with | some e => e.den E | none => E.i k) = _
      simp only [fnd, if_neg (Ne.symm h1), if_neg (Ne.symm h2)]
  · intro kk t ht
    have hk : kk = 0 := by
      have := (List.getElem?_eq_some_iff.1 ht).1
      simp [pts59] at this; omega
    subst hk
    refine ⟨h59p0ls, by rw [← ptD_some ht ct59.g]; exact h59p0run, fun E0 E hE0 hE hF0 ⟨lo, hi, hI⟩ => ?_⟩
    obtain ⟨m, hm, m1, m61, hr⟩ := pre59 hE0 hF0
    have hmt : (E0.i 40).toNat = m := by omega
    rw [hmt] at hI
    obtain ⟨hS, h20, h21, hlh, hhm, g1, g2⟩ := hI
    have q40 := hS.i 40 (by decide) (by decide); have q1 := hS.i 1 (by decide) (by decide)
    have qa : E.a 2 = E0.a 2 := by rw [hS.a]
    have hmE : E.i 40 = m := q40.trans hm
    refine ⟨?_, fun x hx => ?_⟩
    · obtain rfl := Option.some.inj ht
      show Facts E ([((.le (.c 1) (.v 40)), true), ((.le (.v 40) (.c 61)), true), (rdF.1, true), ((.le (.c 0) (.v 20)), true), ((.le (.v 20) (.c 61)), true), ((.le (.c 0) (.v 21)), true), ((.le (.v 21) (.c 61)), true), ((.le (.v 20) (.v 21)), true), ((.le (.v 21) (.v 40)), true)])
      have hsr : rdF.1.den E = true := of_rd hE hmE (by rw [qa]; exact hr)
      simp only [facts_cons, facts_nil, le_t, d_c, d_v, and_true]
      refine ⟨by omega, by omega, hsr, by omega, by omega, by omega, by omega, by omega, by omega⟩
    · unfold h59p0ls at hx
      simp only [List.mem_cons, List.not_mem_nil, or_false] at hx
      obtain ⟨t, ht⟩ : ∃ t, (lo + hi) / 2 = t := ⟨_, rfl⟩
      have D2 : h59p0e2.den E = (t : Int) := by
        show IntKind.i64.wrap ((E.i 20 + E.i 21).fdiv (2 ^ min (1 : Int).toNat IntKind.u64.bits)) = _
        have e : (2 : Int) ^ min (1 : Int).toNat IntKind.u64.bits = 2 := by decide
        rw [e, h20, h21, Int.fdiv_eq_ediv_of_nonneg _ (by decide)]
        have e2 : ((lo : Int) + (hi : Int)) / 2 = (t : Int) := by omega
        rw [e2]
        exact wrap_id (by simp [IntKind.min, IntKind.max, IntKind.bits, IntKind.signed]; omega)
      have D6 : h59p0e6.den E = (t : Int) + 1 := by
        show IntKind.i64.wrap (h59p0e2.den E + 1) = _
        rw [D2]
        exact wrap_id (by simp [IntKind.min, IntKind.max, IntKind.bits, IntKind.signed]; omega)
      have D4 : h59p0e4.den E = E0.a 2 (t * 2) := by
        show E.a 2 (h59p0e2.den E * 2).toNat = _
        rw [qa, D2, show ((t : Int) * 2).toNat = t * 2 by omega]
      rcases hx with rfl | rfl | rfl | rfl | rfl
      · intro hf
        simp only [facts_cons, facts_nil, le_t, le_f, lt_t, lt_f, d_v, d_c, D2, D4, h20, h21, hmE, q1, and_true] at hf
        refine ⟨⟨_, rfl, .inr ⟨rfl, rfl⟩⟩, fun o => ⟨⟨lo, t, ?_⟩, fun b hb => ?_⟩⟩
        · rw [hmt]
          exact ⟨sm2_put hS (.inr rfl) _ o, h20, D2, by omega, by omega, g1, fun _ => by omega⟩
        · obtain rfl := Option.some.inj hb
          show (h59p0e2.den E - E.i 20).toNat < (E.i 21 - E.i 20).toNat
          rw [D2]; omega
      · intro hf
        simp only [facts_cons, facts_nil, le_t, le_f, lt_t, lt_f, d_v, d_c, D2, D4, h20, h21, hmE, q1, and_true] at hf
        refine ⟨⟨_, rfl, .inr ⟨rfl, rfl⟩⟩, fun o => ⟨⟨t + 1, hi, ?_⟩, fun b hb => ?_⟩⟩
        · rw [hmt]
          refine ⟨sm2_put hS (.inl rfl) _ o, ?_, h21, by omega, hhm, fun j hj => ?_, g2⟩
          · show h59p0e6.den E = _
            rw [D6]; omega
          · rcases Nat.lt_or_ge j t with h | h
            · have := hr.gap j t h (by omega); have := hr.le t (by omega); omega
            · have : j = t := by omega
              subst this; omega
        · obtain rfl := Option.some.inj hb
          show (E.i 21 - h59p0e6.den E).toNat < (E.i 21 - E.i 20).toNat
          rw [D6]; omega
      · intro hf
        simp only [facts_cons, facts_nil, le_t, le_f, lt_t, lt_f, d_v, d_c, D2, h20, h21, hmE, q1, and_true] at hf
        omega
      · intro hf
        simp only [facts_cons, facts_nil, le_t, le_f, lt_t, lt_f, d_v, d_c, D2, h20, h21, hmE, q1, and_true] at hf
        omega
      · intro hf
        simp only [facts_cons, facts_nil, le_t, le_f, lt_t, lt_f, d_v, d_c, h20, h21, hmE, q1, and_true] at hf
        have hlo : lo = hi := by omega
        subst hlo
        have hfi : fiR (E0.a 2) (E0.i 1) m = lo := fiR_eq hr hhm g1 g2
        have e7 : h59p0e7.den E0 = _ := (fi_den hE0 hm).1
        refine ⟨rfl, ?_⟩
        simp only [List.forall_mem_cons, List.not_mem_nil, false_imp_iff, implies_true, and_true, true_and, Eqn.ok]
        refine ⟨by rw [e7, hfi]; exact h20, hS.i 41 (by decide) (by decide), hS.i 42 (by decide) (by decide), hS.i 43 (by decide) (by decide), hS.i 44 (by decide) (by decide), fun j _ => ?_, hS.i 40 (by decide) (by decide), hS.i 1 (by decide) (by decide)⟩
        show E.a 2 j = E0.a 2 j
        rw [qa]
theorem prm53_ok (E : Env) (hE : E.fn = fns) : PrmOk E (prm53 Try.prog) := prm_ok E hE (by
    intro c hc
    simp only [List.mem_cons, List.not_mem_nil, or_false] at hc
    subst hc; exact ct59_ok) (by intro b hb; cases hb)
theorem ct53_ok : CtOk Try.prog fns ct53 := by
  refine ct_of_pts (p := prm53 Try.prog) (pts := []) (n := 900) (c0 := enterD (prm53 Try.prog) ct53) (fun E hE => prm53_ok E hE) rfl (by intro q hq; cases hq) Try.func53 (by kernel_rfl) (by intro t ht; cases ht) (fun _ _ _ => True) (fun _ _ _ => 0) h53als (by kernel_rfl) ?_ (by intro i t ht; cases ht)
  intro E hE hF
  have h := hF rdF (by simp [ct53])
  have a : 1 ≤ E.i 40 := of_decide_eq_true (hF (.le (.c 1) (.v 40), true) (by simp [ct53, bd]))
  have b : E.i 40 ≤ 61 := of_decide_eq_true (hF (.le (.v 40) (.c 61), true) (by simp [ct53, bd]))
  obtain ⟨m, hm⟩ : ∃ m : Nat, E.i 40 = m := ⟨(E.i 40).toNat, by omega⟩
  have hr := rd_of hE hm h
  obtain ⟨dF, dA⟩ := fi_den hE hm
  have D0 : h53ae0.den E = (m : Int) - 1 := by show E.i 40 - 1 = _; rw [hm]
  have D2 : h53ae2.den E = E.a 2 ((m - 1) * 2) := by
    show E.a 2 ((E.i 40 - 1) * 2).toNat = _
    rw [show ((E.i 40 - 1) * 2).toNat = (m - 1) * 2 by omega]
  have D3 : h53ae3.den E = E.a 2 1 := rfl
  have D4 : h53ae4.den E = _ := dF
  have hex : E.a 2 ((m - 1) * 2) ≤ E.i 1 → fiR (E.a 2) (E.i 1) m < m ∧ acks (E.a 2) m (E.i 1) = decide (E.i 1 ≤ E.a 2 (fiR (E.a 2) (E.i 1) m * 2 + 1)) := fun hle => by
    obtain ⟨k, hk1, hk2, hk3⟩ : ∃ k, k < m ∧ (∀ j, j < k → E.i 1 < E.a 2 (j * 2)) ∧ E.a 2 (k * 2) ≤ E.i 1 := by
      have key : ∀ d, d < m → (∀ j, j < m - 1 - d → E.i 1 < E.a 2 (j * 2)) ∨ ∃ k, k < m ∧ (∀ j, j < k → E.i 1 < E.a 2 (j * 2)) ∧ E.a 2 (k * 2) ≤ E.i 1 := by
        intro d
        rcases Nat.lt_or_ge d (m - 1) with hd | hd
        · intro _
          have : ∀ s, s ≤ m - 1 → (∀ j, j < s → E.i 1 < E.a 2 (j * 2)) ∨ ∃ k, k < m ∧ (∀ j, j < k → E.i 1 < E.a 2 (j * 2)) ∧ E.a 2 (k * 2) ≤ E.i 1 := by
            intro s
            induction s with
            | zero => intro _; left; intro j hj; omega
            | succ s ih =>
              intro hs
              rcases ih (by omega) with h' | h'
              · by_cases h2 : E.i 1 < E.a 2 (s * 2)
                · left; intro j hj
                  rcases Nat.lt_or_ge j s with h3 | h3
                  · exact h' j h3
                  · have : j = s := by omega
                    subst this; exact h2
                · exact .inr ⟨s, by omega, h', Int.not_lt.1 h2⟩
              · exact .inr h'
          exact this _ (by omega)
        · intro _; left; intro j hj; omega
      rcases key 0 (by omega) with h' | h'
      · exact ⟨m - 1, by omega, fun j hj => h' j (by omega), hle⟩
      · exact h'
    have e := fiR_eq hr (by omega : k ≤ m) hk2 (fun _ => hk3)
    rw [e]
    exact ⟨hk1, acks_at hr hk1 hk2 hk3⟩
  refine ⟨fun a ha => ?_, fun x hx => ?_⟩
  · obtain rfl := Option.some.inj ha; intro q hq; cases hq
  · unfold h53als at hx
    simp only [List.mem_cons, List.not_mem_nil, or_false] at hx
    have fin : ∀ B : SB, B.den E = acks (E.a 2) m (E.i 1) → ∀ q ∈ ([.b B (.ap 7 (.a (.v 2) (.i (.v 40) (.i (.v 1) .nil)))), .i (.v 41) (.v 41), .i (.v 42) (.v 42), .i (.v 43) (.v 43), .i (.v 44) (.v 44), .a (.v 2) (.v 2) (.v 40) 2, .i (.v 40) (.v 40)] : List Eqn), q.ok E E := fun B hB => by
      simp only [List.forall_mem_cons, List.not_mem_nil, false_imp_iff, implies_true, and_true, true_and, Eqn.ok]
      exact hB.trans dA.symm
    rcases hx with rfl | rfl | rfl | rfl | rfl | rfl | rfl
    · intro hf
      have h1 := hf (SB.lt (.v 1) h53ae2, true) (by simp)
      simp only [lt_t, d_v, D2] at h1
      refine ⟨rfl, fin _ ?_⟩
      rw [acks_no (fun i hi hh => ?_)]; · rfl
      rcases Nat.lt_or_ge i (m - 1) with h2 | h2
      · have := hr.gap i (m - 1) h2 (by omega); have := hr.le (m - 1) (by omega); omega
      · have : i = m - 1 := by omega
        subst this; omega
    · intro hf
      have h1 := hf (SB.lt h53ae3 (.v 1), true) (by simp)
      simp only [lt_t, d_v, D3] at h1
      refine ⟨rfl, fin _ ?_⟩
      rw [acks_no (fun i hi hh => ?_)]; · rfl
      rcases Nat.eq_zero_or_pos i with h2 | h2
      · subst h2; simp at hh; omega
      · have := hr.gap 0 i h2 hi; have := hr.le 0 (by omega); simp at *; omega
    · intro hf
      have h1 := hf (SB.lt (.v 1) h53ae2, false) (by simp)
      simp only [lt_f, d_v, D2] at h1
      obtain ⟨e1, e2⟩ := hex h1
      refine ⟨rfl, fin _ ?_⟩
      rw [e2]
      show decide (E.i 1 ≤ E.a 2 (h53ae4.den E * 2 + 1).toNat) = _
      rw [D4, show ((fiR (E.a 2) (E.i 1) m : Int) * 2 + 1).toNat = fiR (E.a 2) (E.i 1) m * 2 + 1 by omega]
    · intro hf
      have h1 := hf (SB.lt (.v 1) h53ae2, false) (by simp)
      have h2 := hf (SB.lt h53ae4 (.v 40), false) (by simp)
      simp only [lt_f, d_v, D2, D4, hm] at h1 h2
      have := (hex h1).1; omega
    · intro hf
      have h1 := hf (SB.lt (.v 1) h53ae2, false) (by simp)
      have h2 := hf (SB.le h53ae4 (.c 60), false) (by simp)
      simp only [lt_f, le_f, d_v, d_c, D2, D4, hm] at h1 h2
      have := (hex h1).1; omega
    · intro hf
      have h2 := hf (SB.le (.c 0) h53ae4, false) (by simp)
      simp only [le_f, d_c, D4] at h2
      omega
    · intro hf
      have h2 := hf (SB.lt h53ae0 (.v 40), false) (by simp)
      simp only [lt_f, d_v, D0, hm] at h2
      omega
end Go.Proofs.Ytgianhjmjiiadaa
