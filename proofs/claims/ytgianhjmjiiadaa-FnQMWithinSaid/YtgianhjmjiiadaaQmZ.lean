/- hasNewMissingPackets keeps its contract (a frame kept). -/
import Derived.Test.YtgianhjmjiiadaaQmY
set_option autoImplicit true
set_option relaxedAutoImplicit true
set_option linter.unusedVariables false
set_option linter.unusedSimpArgs false
set_option maxRecDepth 100000
set_option maxHeartbeats 4000000
namespace Go.Proofs.Ytgianhjmjiiadaa
open Go Go.Sy Go.RowKit
theorem prm54t_ok (E : Env) (hE : E.fn = fns) : PrmOk E (prm54t Try.prog) := prm_ok E hE (by
    intro c hc
    simp only [List.mem_cons, List.not_mem_nil, or_false] at hc
    subst hc; exact ct61t_ok) (by intro b hb; cases hb)
theorem nm_den {E : Env} (hE : E.fn = fns) {n : Nat} (hn : E.i 0 = n) : nmE.den E = (decide (1 ≤ E.i 35) && decide (hm (E.a 0) n (E.i 35 - 1) (E.i 6) ≠ -1 ∧ E.a 2 1 ≤ hm (E.a 0) n (E.i 35 - 1) (E.i 6) ∧ E.a 2 1 - 1 < hm (E.a 0) n (E.i 35 - 1) (E.i 6))) := by
  simp only [nmE, SB.den, SL.den, AE.den, SE.den, hE]
  show (decide (1 ≤ E.i 35) && decide (hm (fun j => E.a 0 j) (E.i 0).toNat (E.i 35 - 1) (E.i 6) ≠ -1 ∧ E.a 2 1 ≤ hm (fun j => E.a 0 j) (E.i 0).toNat (E.i 35 - 1) (E.i 6) ∧ E.a 2 1 - 1 < hm (fun j => E.a 0 j) (E.i 0).toNat (E.i 35 - 1) (E.i 6))) = _
  rw [hn]; rfl
theorem ct54t_ok : CtOk Try.prog fns ct54t := by
  refine ct_of_pts (p := prm54t Try.prog) (pts := []) (n := 900) (c0 := enterD (prm54t Try.prog) ct54t) (fun E hE => prm54t_ok E hE) rfl (by intro q hq; cases hq) Try.func54 (by kernel_rfl) (by intro t ht; cases ht) (fun _ _ _ => True) (fun _ _ _ => 0) h54tls (by kernel_rfl) ?_ (by intro i t ht; cases ht)
  intro E hE hF
  have a : 1 ≤ E.i 0 := of_decide_eq_true (hF (.le (.c 1) (.v 0), true) (by simp [ct54t, bd]))
  have a4 : 1 ≤ E.i 40 := of_decide_eq_true (hF (.le (.c 1) (.v 40), true) (by simp [ct54t, bd]))
  obtain ⟨n, hn⟩ : ∃ n : Nat, E.i 0 = n := ⟨(E.i 0).toNat, by omega⟩
  obtain ⟨m, hm'⟩ : ∃ m : Nat, E.i 40 = m := ⟨(E.i 40).toNat, by omega⟩
  have hd : RgD (E.a 2) m := rd_of hE hm' (hF rdF (by simp [ct54t]))
  have l0 := hd.lo 0 (by omega)
  have l1 := hd.le 0 (by omega)
  have l2 := hd.hi 0 (by omega)
  simp only [Nat.zero_mul, Nat.zero_add] at l0 l1 l2
  have dM := nm_den hE hn
  have D1 : h54te1.den E = hm (E.a 0) n (E.i 35 - 1) (E.i 6) := by
    simp only [h54te1, h54te0, SE.den, SL.den, AE.den, hE]
    show hm (fun j => E.a 0 j) (E.i 0).toNat (E.i 35 - 1) (E.i 6) = _
    rw [hn]; rfl
  have D2 : h54te2.den E = E.a 2 1 := rfl
  have D3 : h54te3.den E = E.a 2 1 - 1 := rfl
  generalize hm (E.a 0) n (E.i 35 - 1) (E.i 6) = H at dM D1
  refine ⟨fun a ha => ?_, fun x hx => ?_⟩
  · obtain rfl := Option.some.inj ha; intro q hq; cases hq
  · unfold h54tls at hx
    simp only [List.mem_cons, List.not_mem_nil, or_false] at hx
    rcases hx with rfl | rfl | rfl | rfl | rfl | rfl
    all_goals intro hf
    all_goals simp only [facts_cons, facts_nil, lt_t, lt_f, le_t, le_f, eq_t, eq_f, d_v, d_c, D1, D2, D3, and_true] at hf
    all_goals first | omega | skip
    all_goals
      refine ⟨rfl, ?_⟩
      simp only [List.forall_mem_cons, List.not_mem_nil, false_imp_iff, implies_true, and_true, true_and, Eqn.ok]
      refine Eq.trans ?_ dM.symm
      rw [Bool.eq_iff_iff]
      simp only [lt_t, D1, D3, d_bc, Bool.and_eq_true, decide_eq_true_eq, Bool.false_eq_true, false_iff, not_and]
      omega
end Go.Proofs.Ytgianhjmjiiadaa
