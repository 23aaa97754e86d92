/- Of round trips the least and the smoothed ones and their variance are told as the document reckons them, but for two microseconds, for every row of samples. -/
import Derived.Test.YtiadjdnipheghaaRows
import Derived.Test.YtiadjdnipheghaaRmL
import Derived.Test.YtiadjdnipheghaaSyR
import Derived.WalkKit
import Derived.ProofKit
import Derived.OpenShut
import Derived.ChangeOld
import Derived.Below
import Derived.SizedLaws
namespace Go.Proofs.Ytiadjdnipheghaa.fnRTEstimates
open Go Go.Sy Go.ChangeShapes Go.WideShapes Go.ChangeAt Go.RowKit
set_option linter.unusedVariables false
theorem own : ownKnob Try.prog.godebug = none := by kernel_rfl
theorem kids : Kids Try.prog (· < Try.prog.types.size) := kids_rows (by kernel_rfl) (by kernel_rfl)
theorem full : ∀ t e, t < Try.prog.types.size → Try.prog.underlying t = some (.slice e) → 0 < Try.prog.cellsOf e := slices_full_of Try.prog (by kernel_rfl)
noncomputable def envL (k : Int) (len cap : Nat) (A : Nat → Int) : Env := { i := fun j => match j with | 0 => k | 1 => len | 3 => cap | _ => 0, b := fun _ => false, a := fun a j => A j, o := fun _ => .nilIface, fn := fns }
theorem walk_nil (k : Int) (W : World) (hk : (Lit.int .u8 k).wf = true) : Calls Try.prog 3 #[.int .u8 k, .slice none 0 0] W fun e W' => e = .returned (.bool true) ∧ Below W.heap.size W W' := by
  have hb := bounds_u8 hk
  have hF : Facts (envL k 0 0 fun _ => 0) ct3n.pre := by
    show Facts _ [((.le (.c 0) (.v 0)), true), ((.le (.v 0) (.c 255)), true)]
    simp only [facts_cons, facts_nil, le_t, d_c, d_v, and_true]
    exact ⟨hb.1, hb.2⟩
  exact law_of_ct (E := envL k 0 0 fun _ => 0) (β := fun _ => nilBk) (w := W) ct3n_ok rfl rfl hok_nil hF rfl (by intro s hs; cases hs)
theorem walk_row (k : Int) (W : World) (hk : (Lit.int .u8 k).wf = true) (a o len cap : Nat) (A : Nat → Int) (hl : len ≤ cap) (hlt : a < W.heap.size) (hn : numsAt W [.int .u32, .int .u32] a o cap A) (hA : ∀ j, j < cap * 2 → 0 ≤ A j ∧ A j ≤ 4294967295) :
    Calls Try.prog 3 #[.int .u8 k, .slice (some ⟨a, o, none⟩) len cap] W fun e W' => e = .returned (.bool true) ∧ Below W.heap.size W W' := by
  have hb := bounds_u8 hk
  have hF : Facts (envL k len cap A) ct3.pre := by
    show Facts _ [((.le (.c 0) (.v 0)), true), ((.le (.v 0) (.c 255)), true), ((.le (.c 0) (.v 1)), true), ((.le (.v 1) (.v 3)), true), ((.ap 1 (.a (.v 0) (.i (.v 1) .nil))), true)]
    simp only [facts_cons, facts_nil, le_t, d_c, d_v, and_true, g1_den (show (envL k len cap A).fn = fns from rfl)]
    refine ⟨hb.1, hb.2, Int.natCast_nonneg len, Int.ofNat_le.2 hl, fun j hj => ?_⟩
    have hj' : j < len * 2 := hj
    exact hA j (by omega)
  have hw : HOk (envL k len cap A) (fun _ => { a := a, o := o, q := zr }) ct3.heap W := hok_nums (n := cap) (A := A) hlt hn (fun _ _ => rfl) (by show ((len : Int)).toNat ≤ cap; omega)
  have := law_of_ct (E := envL k len cap A) (w := W) ct3_ok rfl rfl hw hF rfl (by
    intro s hs bk
    simp only [ct3, List.mem_cons, List.not_mem_nil, or_false] at hs
    subst hs; exact fun hh => hh)
  exact this
set_option maxRecDepth 100000 in
theorem lifted (os : Os) (started : os.Started) (H : Type) (enc : TypeId × Value → H) :
    ReturnsInHanded {} Try.checked os 3 .any (Rows.fnRTEstimatesSpec.pre6 enc Try.prog Try.f3 Rows.fnRTEstimatesRow.domain false) (Rows.fnRTEstimatesSpec.post enc Try.prog Try.f3 false true false false) := by
  refine returnsInHanded_of_change_sized (C := Try.checked) own started (by kernel_rfl) Try.func3
    (ChangeSpec.witness6 (enc := enc) (C := Try.checked) false ⟨#[], #[.int .u8 0, .slice none 0 0], []⟩ 8 (by kernel_rfl) (by kernel_rfl) (by kernel_rfl) (by kernel_rfl)) ?_
  intro W base args ds gs before hval0 hW hcnd hsz0 _
  have hval : ∀ (j : Nat) t v, Try.f3.params[j]? = some t → args[j]? = some v → Value.okWide Try.prog W .any base t v := hval0
  have hW' := hW
  obtain ⟨p, q, hA0, hV, rfl, hfz, hnd⟩ := hW
  have hA : DataW.TrodAll enc Try.prog W 0 (fun _ => true) true Try.f3.params.toList args.toList ds p := hA0
  have hlt := hW'.lt
  have hAk := hA
  rw [Try.params3] at hA hval
  obtain ⟨v0, vs0, d0, ds0, p0, q0, hargs, rfl, rfl, h0, r0⟩ := trodAll_cons hA
  obtain ⟨v1, vs1, d1, ds1, p1, q1, rfl, rfl, rfl, h1, r1⟩ := trodAll_cons r0
  obtain ⟨rfl, rfl, rfl⟩ := trodAll_nil r1
  obtain rfl : args = #[v0, v1] := by cases args; simp_all
  obtain ⟨rfl, rfl⟩ := trodVars_none hV
  obtain ⟨a0, rfl, rfl, rfl, w0⟩ := open_int Try.underlying5 (hval 0 5 v0 rfl rfl) h0
  have fin : ∀ (e : Ending) (W' : World), (e = .returned (.bool true) ∧ Below W.heap.size W W') → ∃ v, e = .returned v ∧ Rows.fnRTEstimatesSpec.post enc Try.prog Try.f3 false true false false W #[.int .u8 a0, v1] v W' := fun e W' ⟨he, bel⟩ => by
    subst he
    have hag := trodAll_again kids full (by intro t ht; revert t; simp only [Try.params3]; decide +kernel) bel hAk (fun p hp => hlt p (List.mem_append_left _ hp))
    exact ⟨_, rfl, _, _, _, [], _, [], hW', trodAll_mk1 (shut_bool Try.underlying4 _), hag, rfl, bel.frame _, fun h => by cases h⟩
  rcases open_rows (ks := [.int .u32, .int .u32]) Try.underlying22 (by kernel_rfl) (by decide) (fun _ z => 0 ≤ z ∧ z ≤ 4294967295)
    (fun n cs' y h => by
      obtain ⟨f, h1, h2⟩ := el_ints Try.underlying25 Try.underlying24 (by kernel_rfl) (by kernel_rfl) h
      exact ⟨f, h1, h2⟩) (hval 1 22 v1 rfl rfl) h1 with rfl | ⟨a, o, len, cap, A, rfl, g1, g2, g3, g4, g5⟩
  · exact (walk_nil a0 W w0).mono fin
  · exact (walk_row a0 W w0 a o len cap A g1 g3 g4 g5).mono fin
theorem over : Rows.fnRTEstimatesRow.holds Try.pinned (OpenSpec.ofChange Rows.fnRTEstimatesSpec) :=
  OpenClaim.holds_of_wide 3 Try.f3 rfl rfl rfl rfl rfl rfl rfl ⟨rfl, rfl, rfl, rfl, rfl⟩ rfl rfl rfl rfl rfl (by kernel_rfl) Try.func3 (by kernel_rfl)
    (of_decide_eq_true (by kernel_rfl)) (by unfold Func.isWrapper; first | (rw [if_pos (by decide +kernel)]; kernel_rfl) | (rw [if_neg (by decide +kernel)]; exact ⟨rfl, rfl⟩))
    (fun os started H enc _ => lifted os started H enc)
theorem proved : Rows.FnRTEstimatesSaid := over
#print axioms proved
end Go.Proofs.Ytiadjdnipheghaa.fnRTEstimates
namespace Go.Proofs.Ytiadjdnipheghaa
/-- The row, under a short name, for the claim. -/
theorem fnRTEstimates_holds : Rows.FnRTEstimatesSaid := fnRTEstimates.proved
end Go.Proofs.Ytiadjdnipheghaa
