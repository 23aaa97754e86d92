/- On a path that lets through just the datagrams up to some size the search finds it to within 21 bytes, for every path. -/
import Derived.Test.YtnffahllpagicaaRows
import Derived.Test.YtnffahllpagicaaMtL
import Derived.Test.YtnffahllpagicaaSyR
import Derived.WalkKit
import Derived.ProofKit
import Derived.OpenShut
import Derived.ChangeOld
import Derived.Below
import Derived.SizedLaws
namespace Go.Proofs.Ytnffahllpagicaa.fnMTFinds
open Go Go.Sy Go.ChangeShapes Go.WideShapes Go.ChangeAt Go.RowKit
set_option linter.unusedVariables false
theorem own : ownKnob Try.prog.godebug = none := by kernel_rfl
theorem kids : Kids Try.prog (· < Try.prog.types.size) := kids_rows (by kernel_rfl) (by kernel_rfl)
theorem full : ∀ t e, t < Try.prog.types.size → Try.prog.underlying t = some (.slice e) → 0 < Try.prog.cellsOf e := slices_full_of Try.prog (by kernel_rfl)
noncomputable def envL (a b c d : Int) : Env := { i := fun j => match j with | 0 => a | 1 => b | 2 => c | 3 => d | _ => 0, b := fun _ => false, a := fun _ _ => 0, o := fun _ => .nilIface, fn := fns }
theorem walk (a b c d : Int) (W : World) (ha : (Lit.int .u8 a).wf = true) (hb : (Lit.int .u16 b).wf = true) (hc : (Lit.int .u16 c).wf = true) (hd : (Lit.int .u8 d).wf = true) :
    Calls Try.prog 3 #[.int .u8 a, .int .u16 b, .int .u16 c, .int .u8 d] W fun e W' => e = .returned (.bool true) ∧ Below W.heap.size W W' := by
  have h1 := bounds_u8 ha
  have h2 := bounds_u16 hb
  have h3 := bounds_u16 hc
  have h4 := bounds_u8 hd
  have hF : Facts (envL a b c d) ct3.pre := by
    simp only [ct3, bd, List.cons_append, List.nil_append, facts_cons, facts_nil, le_t, d_c, d_v, and_true]
    exact ⟨h1.1, h1.2, h2.1, h2.2, h3.1, h3.2, h4.1, h4.2⟩
  exact law_of_ct (E := envL a b c d) (β := fun _ => nilBk) (w := W) ct3_ok rfl rfl hok_nil hF rfl (by intro s hs; cases hs)
set_option maxRecDepth 100000 in
theorem lifted (os : Os) (started : os.Started) (H : Type) (enc : TypeId × Value → H) :
    ReturnsInHanded {} Try.checked os 3 .any (Rows.fnMTFindsSpec.pre6 enc Try.prog Try.f3 Rows.fnMTFindsRow.domain false) (Rows.fnMTFindsSpec.post enc Try.prog Try.f3 false true false false) := by
  refine returnsInHanded_of_change_sized (C := Try.checked) own started (by kernel_rfl) Try.func3
    (ChangeSpec.witness6 (enc := enc) (C := Try.checked) false ⟨#[], #[.int .u8 0, .int .u16 0, .int .u16 0, .int .u8 0], []⟩ 8 (by kernel_rfl) (by kernel_rfl) (by kernel_rfl) (by kernel_rfl)) ?_
  intro W base args ds gs before hval0 hW hcnd hsz0 _
  have hval : ∀ (j : Nat) t v, Try.f3.params[j]? = some t → args[j]? = some v → Value.okWide Try.prog W .any base t v := hval0
  have hW' := hW
  obtain ⟨p, q, hA0, hV, rfl, hfz, hnd⟩ := hW
  have hA : DataW.TrodAll enc Try.prog W 0 (fun _ => true) true Try.f3.params.toList args.toList ds p := hA0
  have hlt := hW'.lt
  have hAk := hA
  rw [Try.params3] at hA hval
  obtain ⟨v0, vs0, d0, ds0, p0, q0, hargs, rfl, rfl, h0, r0⟩ := trodAll_cons hA
  obtain ⟨v1, vs1, d1, ds1, p1, q1, rfl, rfl, rfl, h1, r1⟩ := trodAll_cons r0
  obtain ⟨v2, vs2, d2, ds2, p2, q2, rfl, rfl, rfl, h2, r2⟩ := trodAll_cons r1
  obtain ⟨v3, vs3, d3, ds3, p3, q3, rfl, rfl, rfl, h3, r3⟩ := trodAll_cons r2
  obtain ⟨rfl, rfl, rfl⟩ := trodAll_nil r3
  obtain rfl : args = #[v0, v1, v2, v3] := by cases args; simp_all
  obtain ⟨rfl, rfl⟩ := trodVars_none hV
  obtain ⟨a0, rfl, rfl, rfl, w0⟩ := open_int Try.underlying5 (hval 0 5 v0 rfl rfl) h0
  obtain ⟨a1, rfl, rfl, rfl, w1⟩ := open_int Try.underlying22 (hval 1 22 v1 rfl rfl) h1
  obtain ⟨a2, rfl, rfl, rfl, w2⟩ := open_int Try.underlying22 (hval 2 22 v2 rfl rfl) h2
  obtain ⟨a3, rfl, rfl, rfl, w3⟩ := open_int Try.underlying5 (hval 3 5 v3 rfl rfl) h3
  have fin : ∀ (e : Ending) (W' : World), (e = .returned (.bool true) ∧ Below W.heap.size W W') → ∃ v, e = .returned v ∧ Rows.fnMTFindsSpec.post enc Try.prog Try.f3 false true false false W #[.int .u8 a0, .int .u16 a1, .int .u16 a2, .int .u8 a3] v W' := fun e W' ⟨he, bel⟩ => by
    subst he
    have hag := trodAll_again kids full (by intro t ht; revert t; simp only [Try.params3]; decide +kernel) bel hAk (fun p hp => hlt p (List.mem_append_left _ hp))
    exact ⟨_, rfl, _, _, _, [], _, [], hW', trodAll_mk1 (shut_bool Try.underlying4 _), hag, rfl, bel.frame _, fun h => by cases h⟩
  exact (walk a0 a1 a2 a3 W w0 w1 w2 w3).mono fin
theorem over : Rows.fnMTFindsRow.holds Try.pinned (OpenSpec.ofChange Rows.fnMTFindsSpec) :=
  OpenClaim.holds_of_wide 3 Try.f3 rfl rfl rfl rfl rfl rfl rfl ⟨rfl, rfl, rfl, rfl, rfl⟩ rfl rfl rfl rfl rfl (by kernel_rfl) Try.func3 (by kernel_rfl)
    (of_decide_eq_true (by kernel_rfl)) (by unfold Func.isWrapper; first | (rw [if_pos (by decide +kernel)]; kernel_rfl) | (rw [if_neg (by decide +kernel)]; exact ⟨rfl, rfl⟩))
    (fun os started H enc _ => lifted os started H enc)
theorem proved : Rows.FnMTFindsSaid := over
#print axioms proved
end Go.Proofs.Ytnffahllpagicaa.fnMTFinds
namespace Go.Proofs.Ytnffahllpagicaa
/-- The row, under a short name, for the claim. -/
theorem fnMTFinds_holds : Rows.FnMTFindsSaid := fnMTFinds.proved
end Go.Proofs.Ytnffahllpagicaa
