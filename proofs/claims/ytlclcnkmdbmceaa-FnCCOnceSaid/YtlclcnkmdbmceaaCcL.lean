/- The steps, whether a controller grows, and the law of probes keep their contracts. -/
import Derived.Test.YtlclcnkmdbmceaaCcP
import Derived.Test.YtlclcnkmdbmceaaCcJ
import Derived.Test.YtlclcnkmdbmceaaCcD
set_option linter.unusedVariables false
set_option linter.unusedSimpArgs false
set_option maxRecDepth 100000
set_option maxHeartbeats 4000000
namespace Go.Proofs.Ytlclcnkmdbmceaa
open Go Go.Sy Go.RowKit

noncomputable def sax0 : Vl := .go 0 [(3, (.c 0)), (5, (.c 1)), (4, (.c 0)), (2, (.v 2)), (1, (.v 1)), (0, (.v 0))] [] [] [((.le (.c 1) (.v 0)), true), ((.le (.v 0) (.c 40)), true), ((.le (.c 1200) (.v 1)), true), ((.le (.v 1) (.c 1455)), true), ((.le (.c 0) (.v 2)), true), ((.le (.v 2) (.c 40)), true), ((.le (.v 2) (.v 0)), true)] (.code (.loop (loopB (prm5 Try.prog).P 5 4))) (loopK (prm5 Try.prog).P 5 4)
noncomputable def sals : List Vl := [sax0]
theorem sarun : (run (prm5 Try.prog) 600 (enterD (prm5 Try.prog) ct5)).map (vOf (prm5 Try.prog) ct5 (pts5 Try.prog)) = sals := by kernel_rfl
-- 1 ways; terms: 

noncomputable def s0e0 : SE := .add (.v 3) (.c 1)
noncomputable def s0e1 : SE := .add (.v 5) (.c 1)
noncomputable def s0e2 : SE := .add (.v 4) (.v 1)
noncomputable def s0e3 : SE := .mul (.v 3) (.c 6)
noncomputable def s0e4 : SE := .mul (.v 5) (.c 1000000)
noncomputable def s0e5 : AE := .tl (.v 0) s0e3 (.i (.c 0) (.i (.v 5) (.i (.v 1) (.i (.v 4) (.i s0e4 (.b (.c true) .nil))))))
noncomputable def s0x0 : Vl := .go 0 [(3, s0e0), (5, s0e1), (4, s0e2), (2, (.v 2)), (1, (.v 1)), (0, (.v 0))] [] [(0, s0e5)] [((.le (.v 5) (.v 0)), true), ((.le (.c 1) (.v 0)), true), ((.le (.v 0) (.c 40)), true), ((.le (.c 1200) (.v 1)), true), ((.le (.v 1) (.c 1455)), true), ((.le (.c 0) (.v 2)), true), ((.le (.v 2) (.c 40)), true), ((.le (.c 0) (.v 3)), true), ((.le (.v 3) (.c 100)), true), ((.le (.c (-200000)) (.v 4)), true), ((.le (.v 4) (.c 200000)), true), ((.le (.c 1) (.v 5)), true), ((.le (.v 5) (.c 41)), true)] (.exit .normal) (.loop (loopB (prm5 Try.prog).P 5 4) :: loopK (prm5 Try.prog).P 5 4)
noncomputable def s0x1 : Vl := .go 1 [(3, (.v 3)), (5, (.c 1)), (4, (.v 4)), (2, (.v 2)), (1, (.v 1)), (0, (.v 0))] [] [(0, (.v 0))] [((.le (.v 5) (.v 0)), false), ((.le (.c 1) (.v 0)), true), ((.le (.v 0) (.c 40)), true), ((.le (.c 1200) (.v 1)), true), ((.le (.v 1) (.c 1455)), true), ((.le (.c 0) (.v 2)), true), ((.le (.v 2) (.c 40)), true), ((.le (.c 0) (.v 3)), true), ((.le (.v 3) (.c 100)), true), ((.le (.c (-200000)) (.v 4)), true), ((.le (.v 4) (.c 200000)), true), ((.le (.c 1) (.v 5)), true), ((.le (.v 5) (.c 41)), true)] (.code (.loop (loopB (prm5 Try.prog).P 5 9))) (loopK (prm5 Try.prog).P 5 9)
noncomputable def s0ls : List Vl := [s0x0, s0x1]
theorem s0run : (run (prm5 Try.prog) 600 (ptD (pts5 Try.prog) 0 5)).map (vOf (prm5 Try.prog) ct5 (pts5 Try.prog)) = s0ls := by kernel_rfl
-- 2 ways; terms: s0e0, s0e1, s0e2, s0e3, s0e4, s0e5

noncomputable def s1e0 : SE := .add (.v 3) (.c 1)
noncomputable def s1e1 : SE := .add (.v 5) (.c 1)
noncomputable def s1e2 : SE := .sub (.v 4) (.v 1)
noncomputable def s1e3 : SE := .mul (.v 3) (.c 6)
noncomputable def s1e4 : SE := .add (.v 0) (.v 5)
noncomputable def s1e5 : SE := .add s1e4 (.c 100)
noncomputable def s1e6 : SE := .mul s1e5 (.c 1000000)
noncomputable def s1e7 : AE := .tl (.v 0) s1e3 (.i (.c 1) (.i (.v 5) (.i (.v 1) (.i (.v 4) (.i s1e6 (.b (.c false) .nil))))))
noncomputable def s1e8 : AE := .ap 1 (.i (.v 0) (.i (.v 1) .nil))
noncomputable def s1e9 : SE := .add (.v 0) (.v 2)
noncomputable def s1x0 : Vl := .go 1 [(3, s1e0), (5, s1e1), (4, s1e2), (2, (.v 2)), (1, (.v 1)), (0, (.v 0))] [] [(0, s1e7)] [((.le (.v 5) (.v 2)), true), ((.le (.c 1) (.v 0)), true), ((.le (.v 0) (.c 40)), true), ((.le (.c 1200) (.v 1)), true), ((.le (.v 1) (.c 1455)), true), ((.le (.c 0) (.v 2)), true), ((.le (.v 2) (.c 40)), true), ((.le (.c 0) (.v 3)), true), ((.le (.v 3) (.c 100)), true), ((.le (.c (-200000)) (.v 4)), true), ((.le (.v 4) (.c 200000)), true), ((.le (.c 1) (.v 5)), true), ((.le (.v 5) (.c 41)), true)] (.exit .normal) (.loop (loopB (prm5 Try.prog).P 5 9) :: loopK (prm5 Try.prog).P 5 9)
noncomputable def s1x1 : Vl := .out 0 [.a (.v 0) s1e8 s1e9 6, .i (.v 3) s1e9] [((.le (.v 5) (.v 2)), false), ((.le (.c 1) (.v 0)), true), ((.le (.v 0) (.c 40)), true), ((.le (.c 1200) (.v 1)), true), ((.le (.v 1) (.c 1455)), true), ((.le (.c 0) (.v 2)), true), ((.le (.v 2) (.c 40)), true), ((.le (.c 0) (.v 3)), true), ((.le (.v 3) (.c 100)), true), ((.le (.c (-200000)) (.v 4)), true), ((.le (.v 4) (.c 200000)), true), ((.le (.c 1) (.v 5)), true), ((.le (.v 5) (.c 41)), true)]
noncomputable def s1ls : List Vl := [s1x0, s1x1]
theorem s1run : (run (prm5 Try.prog) 600 (ptD (pts5 Try.prog) 1 5)).map (vOf (prm5 Try.prog) ct5 (pts5 Try.prog)) = s1ls := by kernel_rfl
-- 2 ways; terms: s1e0, s1e1, s1e2, s1e3, s1e4, s1e5, s1e6, s1e7, s1e8, s1e9

noncomputable def qe0 : AE := .ap 1 (.i (.c 32) (.i (.c 1280) .nil))
noncomputable def qe1 : AE := .ap 0 (.b (.c true) (.i (.c 1280) (.a qe0 .nil)))
noncomputable def qe2 : SE := .rd qe1 (.c 1)
noncomputable def qe3 : SE := .rd qe1 (.c 186)
noncomputable def qe4 : SE := .rd qe1 (.c 234)
noncomputable def qx0 : Vl := .out 0 [.b (.c false) (.c true)] [((.eq qe2 (.c 0)), true), ((.ap 0 (.b (.c true) (.i (.c 1280) (.a qe0 (.i (.c 40) .nil))))), true)]
noncomputable def qx1 : Vl := .out 0 [.b (.lt qe3 qe4) (.c true)] [((.eq qe2 (.c 0)), false), ((.ap 0 (.b (.c true) (.i (.c 1280) (.a qe0 (.i (.c 40) .nil))))), true)]
noncomputable def qx2 : Vl := .dead [((.ap 0 (.b (.c true) (.i (.c 1280) (.a qe0 (.i (.c 40) .nil))))), false)]
noncomputable def qls : List Vl := [qx0, qx1, qx2]
theorem qrun : (run (prm6 Try.prog) 600 (enterD (prm6 Try.prog) ct6)).map (vOf (prm6 Try.prog) ct6 []) = qls := by kernel_rfl
-- 3 ways; terms: qe0, qe1, qe2, qe3, qe4

noncomputable def le0 : SE := .add (.c 1200) (.v 1)
noncomputable def le1 : SE := .tmod (.v 2) (.c 40)
noncomputable def le2 : SE := .add (.c 1) le1
noncomputable def le3 : AE := .ap 1 (.i le2 (.i le0 .nil))
noncomputable def le4 : SE := .tmod (.v 3) le2
noncomputable def le5 : SE := .add le2 le4
noncomputable def le6 : SE := .mul le5 (.c 6)
noncomputable def le7 : AE := .tl le3 le6 (.i (.c 6) (.i (.c 0) (.i (.c 0) (.i (.c 0) (.i (.c 0) (.b (.c true) .nil))))))
noncomputable def le8 : AE := .ap 0 (.b (.v 0) (.i le0 (.a le7 .nil)))
noncomputable def le9 : SE := .add le5 (.c 1)
noncomputable def le10 : SE := .sub le9 (.c 1)
noncomputable def le11 : SE := .mul le10 (.c 6)
noncomputable def le12 : SE := .add le11 (.c 1)
noncomputable def le13 : SE := .rd le8 le12
noncomputable def le14 : SE := .rd le8 le11
noncomputable def le15 : SE := .mul (.c 2) le0
noncomputable def lx0 : Vl := .out 0 [.b (.c false) (.c true)] [((.eq le13 (.c 0)), true), ((.eq le14 le15), true), ((.lt le10 le9), true), ((.ap 0 (.b (.v 0) (.i le0 (.a le7 (.i le9 .nil))))), true), ((.le le4 le2), true), ((.le le4 (.c 40)), true), ((.le (.c 0) le4), true), ((.le (.c 0) (.v 1)), true), ((.le (.v 1) (.c 255)), true), ((.le (.c 0) (.v 2)), true), ((.le (.v 2) (.c 255)), true), ((.le (.c 0) (.v 3)), true), ((.le (.v 3) (.c 255)), true)]
noncomputable def lx1 : Vl := .out 0 [] [((.eq le13 (.c 0)), false), ((.eq le14 le15), true), ((.lt le10 le9), true), ((.ap 0 (.b (.v 0) (.i le0 (.a le7 (.i le9 .nil))))), true), ((.le le4 le2), true), ((.le le4 (.c 40)), true), ((.le (.c 0) le4), true), ((.le (.c 0) (.v 1)), true), ((.le (.v 1) (.c 255)), true), ((.le (.c 0) (.v 2)), true), ((.le (.v 2) (.c 255)), true), ((.le (.c 0) (.v 3)), true), ((.le (.v 3) (.c 255)), true)]
noncomputable def lx2 : Vl := .out 0 [.b (.c false) (.c true)] [((.eq le14 le15), false), ((.lt le10 le9), true), ((.ap 0 (.b (.v 0) (.i le0 (.a le7 (.i le9 .nil))))), true), ((.le le4 le2), true), ((.le le4 (.c 40)), true), ((.le (.c 0) le4), true), ((.le (.c 0) (.v 1)), true), ((.le (.v 1) (.c 255)), true), ((.le (.c 0) (.v 2)), true), ((.le (.v 2) (.c 255)), true), ((.le (.c 0) (.v 3)), true), ((.le (.v 3) (.c 255)), true)]
noncomputable def lx3 : Vl := .dead [((.lt le10 le9), false), ((.ap 0 (.b (.v 0) (.i le0 (.a le7 (.i le9 .nil))))), true), ((.le le4 le2), true), ((.le le4 (.c 40)), true), ((.le (.c 0) le4), true), ((.le (.c 0) (.v 1)), true), ((.le (.v 1) (.c 255)), true), ((.le (.c 0) (.v 2)), true), ((.le (.v 2) (.c 255)), true), ((.le (.c 0) (.v 3)), true), ((.le (.v 3) (.c 255)), true)]
noncomputable def lx4 : Vl := .dead [((.ap 0 (.b (.v 0) (.i le0 (.a le7 (.i le9 .nil))))), false), ((.le le4 le2), true), ((.le le4 (.c 40)), true), ((.le (.c 0) le4), true), ((.le (.c 0) (.v 1)), true), ((.le (.v 1) (.c 255)), true), ((.le (.c 0) (.v 2)), true), ((.le (.v 2) (.c 255)), true), ((.le (.c 0) (.v 3)), true), ((.le (.v 3) (.c 255)), true)]
noncomputable def lx5 : Vl := .dead [((.le le4 le2), false), ((.le le4 (.c 40)), true), ((.le (.c 0) le4), true), ((.le (.c 0) (.v 1)), true), ((.le (.v 1) (.c 255)), true), ((.le (.c 0) (.v 2)), true), ((.le (.v 2) (.c 255)), true), ((.le (.c 0) (.v 3)), true), ((.le (.v 3) (.c 255)), true)]
noncomputable def lx6 : Vl := .dead [((.le le4 (.c 40)), false), ((.le (.c 0) le4), true), ((.le (.c 0) (.v 1)), true), ((.le (.v 1) (.c 255)), true), ((.le (.c 0) (.v 2)), true), ((.le (.v 2) (.c 255)), true), ((.le (.c 0) (.v 3)), true), ((.le (.v 3) (.c 255)), true)]
noncomputable def lx7 : Vl := .dead [((.le (.c 0) le4), false), ((.le (.c 0) (.v 1)), true), ((.le (.v 1) (.c 255)), true), ((.le (.c 0) (.v 2)), true), ((.le (.v 2) (.c 255)), true), ((.le (.c 0) (.v 3)), true), ((.le (.v 3) (.c 255)), true)]
noncomputable def lls : List Vl := [lx0, lx1, lx2, lx3, lx4, lx5, lx6, lx7]
theorem lrun : (run (prm4 Try.prog) 600 (enterD (prm4 Try.prog) ct4)).map (vOf (prm4 Try.prog) ct4 []) = lls := by kernel_rfl
-- 8 ways; terms: le0, le1, le2, le3, le4, le5, le6, le7, le8, le9, le10, le11, le12, le13, le14, le15


theorem prm5_ok (E : Env) : PrmOk E (prm5 Try.prog) where
  ct := by intro c hc; cases hc
  mix := by kernel_rfl
  okf := okf_call
  body := okf_body
  mts := by intro x hx; cases hx
  dfr := by intro x hx; cases hx
  dfk := by intro x hx; cases hx
structure I5 (E0 E : Env) (k r : Nat) : Prop where
  h0 : E.i 0 = E0.i 0
  h1 : E.i 1 = E0.i 1
  h2 : E.i 2 = E0.i 2
  h3 : E.i 3 = r
  h5 : 1 ≤ E.i 5
  r0 : k = 0 → E.i 3 = E.i 5 - 1 ∧ E.i 5 ≤ E.i 0 + 1 ∧ E.i 4 = (E.i 5 - 1) * E.i 1
  r1 : k = 1 → E.i 3 = E.i 0 + (E.i 5 - 1) ∧ E.i 5 ≤ E.i 2 + 1 ∧ E.i 4 = (E.i 0 - (E.i 5 - 1)) * E.i 1
  row : ∀ j, j < r * 6 → E.a 0 j = sentA (E.i 0) (E.i 1) j
theorem row5 {E : Env} {r : Nat} {a : Nat → Int} {e : SE} {l : SL} (hrow : ∀ j, j < r * 6 → E.a 0 j = sentA (E.i 0) (E.i 1) j) (he : (e.den E).toNat = r * 6) (ha : a = (AE.tl (.v 0) e l).den E) (hc : ∀ c, c < 6 → l.nth E c = sentRow (E.i 0) (E.i 1) r c) :
    ∀ j, j < (r + 1) * 6 → a j = sentA (E.i 0) (E.i 1) j := by
  intro j hj
  rw [ha]
  simp only [AE.den, he]
  split
  · rename_i h; exact hrow j h
  · rename_i h
    obtain ⟨c, rfl⟩ : ∃ c, j = 6 * r + c := ⟨j - r * 6, by omega⟩
    rw [sentA_at (by omega), show 6 * r + c - r * 6 = c by omega]
    exact hc c (by omega)
theorem ct5_ok : CtOk Try.prog fns ct5 := by
  refine ct_of_pts (p := prm5 Try.prog) (pts := pts5 Try.prog) (n := 600) (c0 := enterD (prm5 Try.prog) ct5) (fun E _ => prm5_ok E) rfl (by intro q hq; cases hq) Try.func5 (by kernel_rfl) ?_ (fun E0 k E => ∃ r, I5 E0 E k r) (fun E0 k E => ((if k = 0 then 200 else 100) - E.i 5).toNat) sals (by kernel_rfl) ?_ ?_
  · intro t ht
    simp only [pts5, List.mem_cons, List.not_mem_nil, or_false] at ht
    rcases ht with rfl | rfl
    · exact ⟨by kernel_rfl, by decide⟩
    · exact ⟨by kernel_rfl, by decide⟩
  · intro E hE hF
    simp only [ct5, bd, List.cons_append, List.nil_append, facts_cons, facts_nil, le_t, d_c, d_v, and_true] at hF
    refine ⟨fun a ha => ?_, fun x hx => ?_⟩
    · obtain rfl := Option.some.inj ha; intro q hq; cases hq
    · unfold sals at hx
      simp only [List.mem_cons, List.not_mem_nil, or_false] at hx
      subst hx
      intro hf
      refine ⟨⟨_, rfl, .inl ⟨rfl, rfl⟩⟩, fun o => ⟨⟨0, rfl, rfl, rfl, rfl, ?_, fun _ => ⟨rfl, ?_, ?_⟩, (fun h => by cases h), fun j hj => by omega⟩, fun b hb => by cases hb⟩⟩
      · show (1 : Int) ≤ 1; decide
      · show (1 : Int) ≤ E.i 0 + 1; omega
      · show (0 : Int) = (1 - 1) * E.i 1; omega
  · intro k t ht
    have hk : k = 0 ∨ k = 1 := by
      have := (List.getElem?_eq_some_iff.1 ht).1
      simp [pts5] at this; omega
    rcases hk with rfl | rfl
    · refine ⟨s0ls, by rw [← ptD_some ht ct5.g]; exact s0run, fun E0 E hE0 hE hF0 ⟨r, hI⟩ => ?_⟩
      simp only [ct5, bd, List.cons_append, List.nil_append, facts_cons, facts_nil, le_t, d_c, d_v, and_true] at hF0
      obtain ⟨h0, h1, h2, h3, h5, r0, _, row⟩ := hI
      obtain ⟨q1, q2, q3⟩ := r0 rfl
      have hb := mul_bd (a := E.i 5 - 1) (b := E.i 1) (by omega) (by omega)
      have hmul : E.i 5 * E.i 1 = (E.i 5 - 1) * E.i 1 + E.i 1 := by
        have := Int.add_mul (E.i 5 - 1) 1 (E.i 1)
        rw [show E.i 5 - 1 + 1 = E.i 5 by omega, Int.one_mul] at this
        exact this
      refine ⟨?_, fun x hx => ?_⟩
      · obtain rfl := Option.some.inj ht
        simp only [fc5, bd, List.cons_append, List.nil_append, facts_cons, facts_nil, le_t, d_c, d_v, and_true]
        omega
      · unfold s0ls at hx
        simp only [List.mem_cons, List.not_mem_nil, or_false] at hx
        rcases hx with rfl | rfl
        · intro hf
          have hle : E.i 5 ≤ E.i 0 := by
            have := hf ((.le (.v 5) (.v 0)), true) (by simp)
            simpa only [le_t, d_v] using this
          refine ⟨⟨_, rfl, .inr ⟨rfl, rfl⟩⟩, fun o => ⟨⟨r + 1, h0, h1, h2, ?_, ?_, fun _ => ⟨?_, ?_, ?_⟩, (fun h => by cases h), ?_⟩, fun b hb => ?_⟩⟩
          · show E.i 3 + 1 = _; omega
          · show 1 ≤ E.i 5 + 1; omega
          · show E.i 3 + 1 = E.i 5 + 1 - 1; omega
          · show E.i 5 + 1 ≤ E.i 0 + 1; omega
          · show E.i 4 + E.i 1 = (E.i 5 + 1 - 1) * E.i 1
            rw [show E.i 5 + 1 - 1 = E.i 5 by omega, hmul]; omega
          · refine row5 (E := E) (e := s0e3) (l := (.i (.c 0) (.i (.v 5) (.i (.v 1) (.i (.v 4) (.i s0e4 (.b (.c true) .nil))))))) row (by simp only [s0e3, d_mul, d_v, d_c, h3]; omega) rfl ?_
            have hr : (r : Int) < E.i 0 := by omega
            have hr5 : (r : Int) = E.i 5 - 1 := by omega
            intro c hc
            match c, hc with
            | 0, _ => show (0 : Int) = if (r : Int) < E.i 0 then 0 else 1; rw [if_pos hr]
            | 1, _ => show E.i 5 = if (r : Int) < E.i 0 then (r : Int) + 1 else r - E.i 0 + 1; rw [if_pos hr]; omega
            | 2, _ => rfl
            | 3, _ => show E.i 4 = if (r : Int) < E.i 0 then (r : Int) * E.i 1 else (2 * E.i 0 - r) * E.i 1; rw [if_pos hr, hr5]; exact q3
            | 4, _ => show E.i 5 * 1000000 = if (r : Int) < E.i 0 then ((r : Int) + 1) * 1000000 else (r + 101) * 1000000; rw [if_pos hr]; omega
            | 5, _ => show (1 : Int) = if (r : Int) < E.i 0 then 1 else 0; rw [if_pos hr]
          · obtain rfl := Option.some.inj hb
            show ((if 0 = 0 then 200 else 100) - (E.i 5 + 1)).toNat < ((if 0 = 0 then 200 else 100) - E.i 5).toNat
            simp only [if_true]; omega
        · intro hf
          have hle : ¬ E.i 5 ≤ E.i 0 := by
            have := hf ((.le (.v 5) (.v 0)), false) (by simp)
            simp only [le_f, d_v] at this; omega
          have e5 : E.i 5 - 1 = E.i 0 := by omega
          refine ⟨⟨_, rfl, by first | exact .inl ⟨rfl, rfl⟩ | exact .inr ⟨rfl, rfl⟩⟩, fun o => ⟨⟨r, h0, h1, h2, h3, ?_, (fun h => by cases h), fun _ => ⟨?_, ?_, ?_⟩, row⟩, fun b hb => ?_⟩⟩
          · show (1 : Int) ≤ 1; decide
          · show E.i 3 = E.i 0 + (1 - 1); omega
          · show (1 : Int) ≤ E.i 2 + 1; omega
          · show E.i 4 = (E.i 0 - (1 - 1)) * E.i 1
            rw [q3, e5, show E.i 0 - (1 - 1) = E.i 0 by omega]
          · obtain rfl := Option.some.inj hb
            show ((if 1 = 0 then 200 else 100) - (1 : Int)).toNat < ((if 0 = 0 then 200 else 100) - E.i 5).toNat
            rw [if_neg (by decide), if_pos rfl]; omega
    · refine ⟨s1ls, by rw [← ptD_some ht ct5.g]; exact s1run, fun E0 E hE0 hE hF0 ⟨r, hI⟩ => ?_⟩
      simp only [ct5, bd, List.cons_append, List.nil_append, facts_cons, facts_nil, le_t, d_c, d_v, and_true] at hF0
      obtain ⟨h0, h1, h2, h3, h5, _, r1, row⟩ := hI
      obtain ⟨q1, q2, q3⟩ := r1 rfl
      have hb := mul_bd (a := E.i 0 - (E.i 5 - 1)) (b := E.i 1) (by omega) (by omega)
      have hmul : (E.i 0 - (E.i 5 - 1)) * E.i 1 = (E.i 0 - E.i 5) * E.i 1 + E.i 1 := by
        have := Int.add_mul (E.i 0 - E.i 5) 1 (E.i 1)
        rw [show E.i 0 - E.i 5 + 1 = E.i 0 - (E.i 5 - 1) by omega, Int.one_mul] at this
        exact this
      refine ⟨?_, fun x hx => ?_⟩
      · obtain rfl := Option.some.inj ht
        simp only [fc5, bd, List.cons_append, List.nil_append, facts_cons, facts_nil, le_t, d_c, d_v, and_true]
        omega
      · unfold s1ls at hx
        simp only [List.mem_cons, List.not_mem_nil, or_false] at hx
        rcases hx with rfl | rfl
        · intro hf
          have hle : E.i 5 ≤ E.i 2 := by
            have := hf ((.le (.v 5) (.v 2)), true) (by simp)
            simpa only [le_t, d_v] using this
          refine ⟨⟨_, rfl, .inr ⟨rfl, rfl⟩⟩, fun o => ⟨⟨r + 1, h0, h1, h2, ?_, ?_, (fun h => by cases h), fun _ => ⟨?_, ?_, ?_⟩, ?_⟩, fun b hb => ?_⟩⟩
          · show E.i 3 + 1 = _; omega
          · show 1 ≤ E.i 5 + 1; omega
          · show E.i 3 + 1 = E.i 0 + (E.i 5 + 1 - 1); omega
          · show E.i 5 + 1 ≤ E.i 2 + 1; omega
          · show E.i 4 - E.i 1 = (E.i 0 - (E.i 5 + 1 - 1)) * E.i 1
            rw [show E.i 5 + 1 - 1 = E.i 5 by omega]; omega
          · refine row5 (E := E) (e := s1e3) (l := (.i (.c 1) (.i (.v 5) (.i (.v 1) (.i (.v 4) (.i s1e6 (.b (.c false) .nil))))))) row (by simp only [s1e3, d_mul, d_v, d_c, h3]; omega) rfl ?_
            have hr : ¬ (r : Int) < E.i 0 := by omega
            have hr5 : (r : Int) = E.i 0 + (E.i 5 - 1) := by omega
            intro c hc
            match c, hc with
            | 0, _ => show (1 : Int) = if (r : Int) < E.i 0 then 0 else 1; rw [if_neg hr]
            | 1, _ => show E.i 5 = if (r : Int) < E.i 0 then (r : Int) + 1 else r - E.i 0 + 1; rw [if_neg hr]; omega
            | 2, _ => rfl
            | 3, _ => show E.i 4 = if (r : Int) < E.i 0 then (r : Int) * E.i 1 else (2 * E.i 0 - r) * E.i 1; rw [if_neg hr, q3, show 2 * E.i 0 - (r : Int) = E.i 0 - (E.i 5 - 1) by omega]
            | 4, _ => show (E.i 0 + E.i 5 + 100) * 1000000 = if (r : Int) < E.i 0 then ((r : Int) + 1) * 1000000 else (r + 101) * 1000000; rw [if_neg hr]; omega
            | 5, _ => show (0 : Int) = if (r : Int) < E.i 0 then 1 else 0; rw [if_neg hr]
          · obtain rfl := Option.some.inj hb
            show ((if 1 = 0 then 200 else 100) - (E.i 5 + 1)).toNat < ((if 1 = 0 then 200 else 100) - E.i 5).toNat
            rw [if_neg (by decide)]; omega
        · intro hf
          have hle : ¬ E.i 5 ≤ E.i 2 := by
            have := hf ((.le (.v 5) (.v 2)), false) (by simp)
            simp only [le_f, d_v] at this; omega
          refine ⟨rfl, ?_⟩
          simp only [List.forall_mem_cons, List.not_mem_nil, false_imp_iff, implies_true, and_true, Eqn.ok]
          refine ⟨fun j hj => ?_, ?_⟩
          · have hj' : j < (E0.i 0 + E0.i 2).toNat * 6 := hj
            unfold s1e8; rw [d_av, row j (by omega), h0, h1, d_aap]
            show _ = E0.fn.a 1 [.i (E0.i 0), .i (E0.i 1)] j
            rw [hE0]; rfl
          · show E.i 3 = E0.i 0 + E0.i 2; omega
theorem prm6_ok (E : Env) (hE : E.fn = fns) : PrmOk E (prm6 Try.prog) where
  ct := by
    intro c hc
    simp only [prm6, List.mem_cons, List.not_mem_nil, or_false] at hc
    rw [hE]
    rcases hc with rfl | rfl
    · exact ct7_ok
    · exact ct5_ok
  mix := by kernel_rfl
  okf := okf_call
  body := okf_body
  mts := by intro x hx; cases hx
  dfr := by intro x hx; cases hx
  dfk := by intro x hx; cases hx
theorem g0d {E : Env} (hE : E.fn = fns) {r : SB} {l n : SE} {a : AE} : (SB.ap 0 (.b r (.i l (.a a (.i n .nil))))).den E = true ↔ scrOk (winOf (b2i (r.den E)) (l.den E)) (l.den E) (a.den E) (n.den E).toNat := by
  show E.fn.g 0 [.i (b2i (r.den E)), .i (l.den E), .a (a.den E), .i (n.den E)] = true ↔ _
  rw [hE]
  exact @decide_eq_true_iff _ (Classical.propDecidable _)
theorem a0d {E : Env} (hE : E.fn = fns) {r : SB} {l : SE} {a : AE} (j : Nat) : (AE.ap 0 (.b r (.i l (.a a .nil)))).den E j = outA (winOf (b2i (r.den E)) (l.den E)) (l.den E) (a.den E) j := by
  rw [d_aap]
  show E.fn.a 0 [.i (b2i (r.den E)), .i (l.den E), .a (a.den E)] j = _
  rw [hE]; rfl
theorem a1d {E : Env} (hE : E.fn = fns) {l m : SE} (j : Nat) : (AE.ap 1 (.i l (.i m .nil))).den E j = sentA (l.den E) (m.den E) j := by
  rw [d_aap]
  show E.fn.a 1 [.i (l.den E), .i (m.den E)] j = _
  rw [hE]; rfl
theorem ct6_ok : CtOk Try.prog fns ct6 := by
  refine ct_of_pts (p := prm6 Try.prog) (pts := []) (n := 600) (c0 := enterD (prm6 Try.prog) ct6) (fun E hE => prm6_ok E hE) rfl (by intro q hq; cases hq) Try.func6 (by kernel_rfl) (by intro t ht; cases ht) (fun _ _ _ => True) (fun _ _ _ => 0) qls qrun ?_ (by intro i t ht; simp at ht)
  intro E hE hF
  obtain ⟨w1, w2, w3⟩ := awake (W := winOf 1 1280) (A := qe0.den E) (fun j _ => a1d hE j)
  have h2 : qe2.den E = 1 := by unfold qe2 qe1; rw [d_rd, a0d hE]; exact w2
  have h3 : qe3.den E = outA (winOf 1 1280) 1280 (qe0.den E) 186 := by unfold qe3 qe1; rw [d_rd, a0d hE]; rfl
  have h4 : qe4.den E = outA (winOf 1 1280) 1280 (qe0.den E) 234 := by unfold qe4 qe1; rw [d_rd, a0d hE]; rfl
  refine ⟨fun a ha => ?_, fun x hx => ?_⟩
  · obtain rfl := Option.some.inj ha; intro q hq; cases hq
  · unfold qls at hx
    simp only [List.mem_cons, List.not_mem_nil, or_false] at hx
    rcases hx with rfl | rfl | rfl
    · intro hf
      exfalso
      have h1 := hf ((.eq qe2 (.c 0)), true) (by simp)
      simp only [eq_t, h2, d_c] at h1
      omega
    · intro hf
      refine ⟨rfl, ?_⟩
      simp only [List.forall_mem_cons, List.not_mem_nil, false_imp_iff, implies_true, and_true, Eqn.ok, d_bc, lt_t, h3, h4]
      exact w3
    · intro hf
      have h1 := hf ((.ap 0 (.b (.c true) (.i (.c 1280) (.a qe0 (.i (.c 40) .nil))))), false) (by simp)
      have h2 := (g0d hE (r := .c true) (l := .c 1280) (a := qe0) (n := .c 40)).2 w1
      rw [h2] at h1
      cases h1
theorem prm4_ok (E : Env) (hE : E.fn = fns) : PrmOk E (prm4 Try.prog) where
  ct := by
    intro c hc
    simp only [prm4, List.mem_cons, List.not_mem_nil, or_false] at hc
    rw [hE]
    rcases hc with rfl | rfl | rfl
    · exact ct7_ok
    · exact ct5_ok
    · exact ct6_ok
  mix := by kernel_rfl
  okf := okf_call
  body := okf_body
  mts := by intro x hx; cases hx
  dfr := by intro x hx; cases hx
  dfk := by intro x hx; cases hx
theorem ct4_ok : CtOk Try.prog fns ct4 := by
  refine ct_of_pts (p := prm4 Try.prog) (pts := []) (n := 600) (c0 := enterD (prm4 Try.prog) ct4) (fun E hE => prm4_ok E hE) rfl (by intro q hq; cases hq) Try.func4 (by kernel_rfl) (by intro t ht; cases ht) (fun _ _ _ => True) (fun _ _ _ => 0) lls lrun ?_ (by intro i t ht; simp at ht)
  intro E hE hF
  simp only [ct4, bd, List.cons_append, List.nil_append, facts_cons, facts_nil, le_t, d_c, d_v, and_true] at hF
  have e0 : le0.den E = 1200 + E.i 1 := rfl
  have e2 : le2.den E = 1 + E.i 2 % 40 := by
    simp only [le2, le1, d_add, d_tmod, d_c, d_v]; rw [tmn (by omega)]
  have e4 : le4.den E = E.i 3 % (1 + E.i 2 % 40) := by
    unfold le4; rw [d_tmod, e2, d_v, tmn (by omega)]
  have p0 : 0 ≤ E.i 3 % (1 + E.i 2 % 40) := Int.emod_nonneg _ (by omega)
  have p1 : E.i 3 % (1 + E.i 2 % 40) < 1 + E.i 2 % 40 := Int.emod_lt_of_pos _ (by omega)
  have e5 : le5.den E = le2.den E + le4.den E := rfl
  obtain ⟨n, hn⟩ : ∃ n : Nat, (n : Int) = le2.den E + le4.den E := ⟨(le2.den E + le4.den E).toNat, by omega⟩
  have e6 : (le6.den E).toNat = n * 6 := by simp only [le6, d_mul, d_c, e5]; omega
  have e9 : (le9.den E).toNat = n + 1 := by simp only [le9, d_add, d_c, e5]; omega
  have e11 : (le11.den E).toNat = n * 6 := by simp only [le11, le10, le9, d_mul, d_sub, d_add, d_c, e5]; omega
  have e12 : (le12.den E).toNat = n * 6 + 1 := by simp only [le12, le11, le10, le9, d_mul, d_sub, d_add, d_c, e5]; omega
  have tB : ∀ c, le7.den E (6 * n + c) = SL.nth E (.i (.c 6) (.i (.c 0) (.i (.c 0) (.i (.c 0) (.i (.c 0) (.b (.c true) .nil)))))) c := by
    intro c
    unfold le7
    simp only [AE.den, e6]; rw [if_neg (by omega), show 6 * n + c - n * 6 = c from by omega]
  obtain ⟨w1, w2, w3⟩ := probes (W := winOf (b2i (E.b 0)) (1200 + E.i 1)) (sz := 1200 + E.i 1) (many := le2.den E) (acked := le4.den E) (A := le3.den E) (B := le7.den E) (n := n) (by omega) (by omega) (by omega) hn (fun j _ => a1d hE j)
    (fun j hj => by unfold le7; simp only [AE.den, e6]; rw [if_pos hj]) (tB 0) (tB 1) (tB 2) (tB 3) (tB 4) (tB 5)
  have h13 : le13.den E = 1 := by unfold le13 le8; rw [d_rd, a0d hE, e12]; exact w3
  have h14 : le14.den E = 2 * (1200 + E.i 1) := by unfold le14 le8; rw [d_rd, a0d hE, e11]; exact w2
  have h15 : le15.den E = 2 * (1200 + E.i 1) := rfl
  have hg : (SB.ap 0 (.b (.v 0) (.i le0 (.a le7 (.i le9 .nil))))).den E = true := (g0d hE).2 (by rw [e9]; exact w1)
  have h10 : le10.den E < le9.den E := by show le9.den E - 1 < _; omega
  refine ⟨fun a ha => ?_, fun x hx => ?_⟩
  · obtain rfl := Option.some.inj ha; intro q hq; cases hq
  · unfold lls at hx
    simp only [List.mem_cons, List.not_mem_nil, or_false] at hx
    rcases hx with rfl | rfl | rfl | rfl | rfl | rfl | rfl | rfl
    all_goals intro hf
    all_goals simp only [facts_cons, facts_nil, lt_t, lt_f, le_t, le_f, eq_t, eq_f, and_true, d_c, d_v, hg, h13, h14, h15, true_and, and_true, reduceCtorEq, Bool.true_eq_false, Bool.false_eq_true, false_and, and_false] at hf
    all_goals try (exfalso; omega)
    exact ⟨rfl, by simp only [List.not_mem_nil, false_imp_iff, implies_true]⟩
end Go.Proofs.Ytlclcnkmdbmceaa
