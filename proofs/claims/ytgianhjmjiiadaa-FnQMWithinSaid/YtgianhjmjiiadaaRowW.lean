/- An eliciting packet of application data that is new is acknowledged at the latest 25 ms behind it, whatever came ahead. -/
import Derived.Test.YtgianhjmjiiadaaRows
import Derived.Test.YtgianhjmjiiadaaQmAi
import Derived.Test.YtgianhjmjiiadaaSyQ
import Derived.WalkKit
import Derived.ProofKit
import Derived.OpenShut
import Derived.ChangeOld
import Derived.Below
import Derived.SizedLaws
set_option autoImplicit true
set_option relaxedAutoImplicit true
namespace Go.Proofs.Ytgianhjmjiiadaa.fnQMWithin
open Go Go.Sy Go.ChangeShapes Go.WideShapes Go.ChangeAt Go.RowKit
set_option linter.unusedVariables false
theorem own : ownKnob Try.prog.godebug = none := by kernel_rfl
theorem kids : Kids Try.prog (· < Try.prog.types.size) := kids_rows (by kernel_rfl) (by kernel_rfl)
theorem full : ∀ t e, t < Try.prog.types.size → Try.prog.underlying t = some (.slice e) → 0 < Try.prog.cellsOf e := slices_full_of Try.prog (by kernel_rfl)
noncomputable def envL (y : Int) (len cap : Nat) (A : Nat → Int) : Env := { i := fun j => match j with | 2 => y | 1 => len | 3 => cap | _ => 0, b := fun _ => false, a := fun _ j => A j, o := fun _ => .nilIface, fn := fns }
theorem walk_nil (y : Int) (W : World) (hy : (Lit.int .u8 y).wf = true) :
    Calls Try.prog 5 #[.slice none 0 0, .int .u8 y] W fun e W' => e = .returned (.bool true) ∧ Below W.heap.size W W' := by
  have h2 := bounds_u8 hy
  have hF : Facts (envL y 0 0 fun _ => 0) ct5n.pre := by
    simp only [ct5n, bd, facts_cons, facts_nil, le_t, d_c, d_v, and_true]
    exact ⟨h2.1, h2.2⟩
  exact law_of_ct (E := envL y 0 0 fun _ => 0) (β := fun _ => nilBk) (w := W) ct5n_ok rfl rfl hok_nil hF rfl (by intro s hs; cases hs)
theorem walk_row (y : Int) (W : World) (hy : (Lit.int .u8 y).wf = true) (pl o len cap : Nat) (A : Nat → Int) (hl : len ≤ cap) (hlt : pl < W.heap.size) (hn : numsAt W [.int .u8] pl o cap A) (hA : ∀ j, j < cap * 1 → 0 ≤ A j ∧ A j ≤ 255) :
    Calls Try.prog 5 #[.slice (some ⟨pl, o, none⟩) len cap, .int .u8 y] W fun e W' => e = .returned (.bool true) ∧ Below W.heap.size W W' := by
  have h2 := bounds_u8 hy
  have hF : Facts (envL y len cap A) ct5.pre := by
    intro q hq
    simp only [ct5, codeF, bd, List.cons_append, List.nil_append, List.mem_cons, List.not_mem_nil, or_false] at hq
    rcases hq with rfl | rfl | rfl | rfl | rfl
    · rw [le_t, d_c, d_v]; exact Int.natCast_nonneg len
    · rw [le_t, d_v, d_v]; exact Int.ofNat_le.2 hl
    · show @decide (∀ j : Nat, (j : Int) < (len : Int) → 0 ≤ (AE.v 0).den (envL y len cap A) j ∧ (AE.v 0).den (envL y len cap A) j ≤ 255) (Classical.propDecidable _) = true
      refine @decide_eq_true _ (Classical.propDecidable _) fun j hj => ?_
      have := hA j (by omega)
      simp only [AE.den]; exact this
    · rw [le_t, d_c, d_v]; exact h2.1
    · rw [le_t, d_c, d_v]; exact h2.2
  have hw : HOk (envL y len cap A) (fun _ => { a := pl, o := o, q := zr }) ct5.heap W := hok_nums (n := cap) (A := A) hlt hn (fun _ _ => rfl) (by show ((len : Int)).toNat ≤ cap; omega)
  have := law_of_ct (E := envL y len cap A) (w := W) ct5_ok rfl rfl hw hF rfl (by
    intro s hs bk
    simp only [ct5, List.mem_cons, List.not_mem_nil, or_false] at hs
    subst hs; exact fun hh => hh)
  exact this
set_option maxRecDepth 100000 in
theorem lifted (os : Os) (started : os.Started) (H : Type) (enc : TypeId × Value → H) :
    ReturnsInHanded {} Try.checked os 5 .any (Rows.fnQMWithinSpec.pre6 enc Try.prog Try.f5 Rows.fnQMWithinRow.domain false) (Rows.fnQMWithinSpec.post enc Try.prog Try.f5 false true false false) := by
  refine returnsInHanded_of_change_sized (C := Try.checked) own started (by kernel_rfl) Try.func5
    (ChangeSpec.witness6 (enc := enc) (C := Try.checked) false ⟨#[], #[.slice none 0 0, .int .u8 0], []⟩ 8 (by kernel_rfl) (by kernel_rfl) (by kernel_rfl) (by kernel_rfl)) ?_
  intro W base args ds gs before hval0 hW hcnd hsz0 _
  have hval : ∀ (j : Nat) t v, Try.f5.params[j]? = some t → args[j]? = some v → Value.okWide Try.prog W .any base t v := hval0
  have hW' := hW
  obtain ⟨p, q, hA0, hV, rfl, hfz, hnd⟩ := hW
  have hA : DataW.TrodAll enc Try.prog W 0 (fun _ => true) true Try.f5.params.toList args.toList ds p := hA0
  have hlt := hW'.lt
  have hAk := hA
  rw [Try.params5] at hA hval
  obtain ⟨v0, vs0, d0, ds0, p0, q0, hargs, rfl, rfl, h0, r0⟩ := trodAll_cons hA
  obtain ⟨v1, vs1, d1, ds1, p1, q1, rfl, rfl, rfl, h1, r1⟩ := trodAll_cons r0
  obtain ⟨rfl, rfl, rfl⟩ := trodAll_nil r1
  obtain rfl : args = #[v0, v1] := by cases args; simp_all
  obtain ⟨rfl, rfl⟩ := trodVars_none hV
  obtain ⟨a1, rfl, rfl, rfl, w1⟩ := open_int Try.underlying5 (hval 1 5 v1 rfl rfl) h1
  have fin : ∀ (e : Ending) (W' : World), (e = .returned (.bool true) ∧ Below W.heap.size W W') → ∃ v, e = .returned v ∧ Rows.fnQMWithinSpec.post enc Try.prog Try.f5 false true false false W #[v0, .int .u8 a1] v W' := fun e W' ⟨he, bel⟩ => by
    subst he
    have hag := trodAll_again kids full (by intro t ht; revert t; simp only [Try.params5]; decide +kernel) bel hAk (fun p hp => hlt p (List.mem_append_left _ hp))
    exact ⟨_, rfl, _, _, _, [], _, [], hW', trodAll_mk1 (shut_bool Try.underlying4 _), hag, rfl, bel.frame _, fun h => by cases h⟩
  rcases open_rows (ks := [.int .u8]) Try.underlying22 (by kernel_rfl) (by decide) (fun _ z => 0 ≤ z ∧ z ≤ 255)
    (fun n cs' y h => by
      obtain ⟨f, h1, h2⟩ := el_int Try.underlying5 h
      exact ⟨f, h1, h2⟩) (hval 0 22 v0 rfl rfl) h0 with rfl | ⟨pl, o, len, cap, A, rfl, g1, g2, g3, g4, g5⟩
  · exact (walk_nil a1 W w1).mono fin
  · exact (walk_row a1 W w1 pl o len cap A g1 g3 g4 g5).mono fin
theorem over : Rows.fnQMWithinRow.holds Try.pinned (OpenSpec.ofChange Rows.fnQMWithinSpec) :=
  OpenClaim.holds_of_wide 5 Try.f5 rfl rfl rfl rfl rfl rfl rfl ⟨rfl, rfl, rfl, rfl, rfl⟩ rfl rfl rfl rfl rfl (by kernel_rfl) Try.func5 (by kernel_rfl)
    (of_decide_eq_true (by kernel_rfl)) (by unfold Func.isWrapper; first | (rw [if_pos (by decide +kernel)]; kernel_rfl) | (rw [if_neg (by decide +kernel)]; exact ⟨rfl, rfl⟩))
    (fun os started H enc _ => lifted os started H enc)
theorem proved : Rows.FnQMWithinSaid := over
#print axioms proved
end Go.Proofs.Ytgianhjmjiiadaa.fnQMWithin
namespace Go.Proofs.Ytgianhjmjiiadaa
theorem fnQMWithin_holds : Rows.FnQMWithinSaid := fnQMWithin.proved
end Go.Proofs.Ytgianhjmjiiadaa
