/- FnQCPlays over a nil slice. -/
import Derived.Test.YtjanndmmhjnpcaaDoorQcAc
set_option autoImplicit true
set_option relaxedAutoImplicit true
set_option linter.unusedVariables false
set_option linter.unusedSimpArgs false
set_option maxRecDepth 100000
set_option maxHeartbeats 8000000
namespace Go.Proofs.YtjanndmmhjnpcaaDoor
open Go Go.Sy Go.RowKit
noncomputable def znx0 : Vl := .out 0 [] [((.ap 3 (.a (.v 5) (.i (.c 0) .nil))), true), ((.le (.c 0) (.v 30)), true), ((.le (.v 30) (.c 255)), true), ((.le (.c 0) (.v 12)), true), ((.le (.v 12) (.c 4294967295)), true)]
noncomputable def znx1 : Vl := .dead [((.ap 3 (.a (.v 5) (.i (.c 0) .nil))), false), ((.le (.c 0) (.v 30)), true), ((.le (.v 30) (.c 255)), true), ((.le (.c 0) (.v 12)), true), ((.le (.v 12) (.c 4294967295)), true)]
noncomputable def znls : List Vl := [znx0, znx1]
theorem znrun : (run (prm4n Tryd.prog) 900 (enterD (prm4n Tryd.prog) ct4n)).map (vOf (prm4n Tryd.prog) ct4n []) = znls := by kernel_rfl
-- 2 ways; terms:
theorem prm4n_ok (E : Env) (hE : E.fn = fns) : PrmOk E (prm4n Tryd.prog) where
  bt := by
    intro b hb
    rw [hE]
    exact btR_ok b hb
  ct := by
    intro c hc
    have : c = ct6 ∨ c = ct7 := by simpa [prm4n] using hc
    rw [hE]
    rcases this with rfl | rfl
    · exact ct6_ok
    · exact ct7_ok
  mix := Checked.mixed Tryd.checked
  okf := okf_call
  body := okf_body
  mts := by intro x hx; cases hx
  dfr := by intro x hx; cases hx
  dfk := by intro x hx; cases hx
theorem ct4n_ok : CtOk Tryd.prog fns ct4n := by
  refine ct_of_ptsX (p := prm4n Tryd.prog) (pts := []) (n := 900) (c0 := enterD (prm4n Tryd.prog) ct4n) (fun E hE => prm4n_ok E hE) rfl (by intro q hq; cases hq) Tryd.func4 (by kernel_rfl) (by intro t ht; cases ht) (fun _ _ _ => False) (fun _ _ _ => 0) znls znrun ?_ (by intro i t ht; cases ht)
  intro E0 hE0 hF
  refine ⟨fun a ha => (by cases ha; intro q hq; cases hq), fun E H1 _ x hx => ?_⟩
  have hE : E.fn = fns := H1.fn.trans hE0
  unfold znls at hx
  simp only [List.mem_cons, List.not_mem_nil, or_false] at hx
  rcases hx with rfl | rfl
  · intro hf
    exact ⟨rfl, E0, fun q hq => (by cases hq), fun a' ha' => (by cases ha'; intro q hq; cases hq)⟩
  · intro hf
    have h1 := hf (SB.ap 3 (.a (.v 5) (.i (.c 0) .nil)), false) (by simp)
    have e : (SB.ap 3 (.a (.v 5) (.i (.c 0) .nil))).den E = @decide (SOk ((AE.v 5).den E) 0) (Classical.propDecidable _) := by
      simp only [SB.den, SL.den, SE.den, hE]; rfl
    have hs : SOk ((AE.v 5).den E) 0 := fun i hi => absurd hi (Nat.not_lt_zero _)
    rw [e, @decide_eq_true _ (Classical.propDecidable _) hs] at h1
    cases h1
end Go.Proofs.YtjanndmmhjnpcaaDoor
