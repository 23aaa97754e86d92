/- The first packet that is lost makes the window less, or it is the least one; others that were sent ahead of that change it no more; one that is sent behind it does again: for every row of losses. -/
import Derived.Test.YtlclcnkmdbmceaaRows
import Derived.Test.YtlclcnkmdbmceaaCcK
import Derived.Test.YtlclcnkmdbmceaaSyR
import Derived.WalkKit
import Derived.ProofKit
import Derived.OpenShut
import Derived.ChangeOld
import Derived.Below
import Derived.SizedLaws
namespace Go.Proofs.Ytlclcnkmdbmceaa.fnCCOnce
open Go Go.Sy Go.ChangeShapes Go.WideShapes Go.ChangeAt Go.RowKit
set_option linter.unusedVariables false
theorem own : ownKnob Try.prog.godebug = none := by kernel_rfl
theorem kids : Kids Try.prog (· < Try.prog.types.size) := kids_rows (by kernel_rfl) (by kernel_rfl)
theorem full : ∀ t e, t < Try.prog.types.size → Try.prog.underlying t = some (.slice e) → 0 < Try.prog.cellsOf e := slices_full_of Try.prog (by kernel_rfl)
noncomputable def envL (a : Bool) (b c d : Int) (len cap : Nat) (A : Nat → Int) : Env := { i := fun j => match j with | 1 => b | 2 => c | 3 => d | 4 => len | 5 => cap | _ => 0, b := fun _ => a, a := fun _ j => A j, o := fun _ => .nilIface, fn := fns }
theorem walk_nil (a : Bool) (b c d : Int) (W : World) (hb : (Lit.int .u8 b).wf = true) (hc : (Lit.int .u8 c).wf = true) (hd : (Lit.int .u8 d).wf = true) :
    Calls Try.prog 3 #[.bool a, .int .u8 b, .int .u8 c, .int .u8 d, .slice none 0 0] W fun e W' => e = .returned (.bool true) ∧ Below W.heap.size W W' := by
  have h2 := bounds_u8 hb
  have h3 := bounds_u8 hc
  have h4 := bounds_u8 hd
  have hF : Facts (envL a b c d 0 0 fun _ => 0) ct3n.pre := by
    simp only [ct3n, bd, List.cons_append, List.nil_append, facts_cons, facts_nil, le_t, d_c, d_v, and_true]
    exact ⟨h2.1, h2.2, h3.1, h3.2, h4.1, h4.2⟩
  exact law_of_ct (E := envL a b c d 0 0 fun _ => 0) (β := fun _ => nilBk) (w := W) ct3n_ok rfl rfl hok_nil hF rfl (by intro s hs; cases hs)
theorem walk_row (a : Bool) (b c d : Int) (W : World) (hb : (Lit.int .u8 b).wf = true) (hc : (Lit.int .u8 c).wf = true) (hd : (Lit.int .u8 d).wf = true) (pl o len cap : Nat) (A : Nat → Int) (hl : len ≤ cap) (hlt : pl < W.heap.size) (hn : numsAt W [.int .u8] pl o cap A) (hA : ∀ j, j < cap * 1 → 0 ≤ A j ∧ A j ≤ 255) :
    Calls Try.prog 3 #[.bool a, .int .u8 b, .int .u8 c, .int .u8 d, .slice (some ⟨pl, o, none⟩) len cap] W fun e W' => e = .returned (.bool true) ∧ Below W.heap.size W W' := by
  have h2 := bounds_u8 hb
  have h3 := bounds_u8 hc
  have h4 := bounds_u8 hd
  have hF : Facts (envL a b c d len cap A) ct3.pre := by
    simp only [ct3, bd, List.cons_append, List.nil_append, facts_cons, facts_nil, le_t, d_c, d_v, and_true, g1d (show (envL a b c d len cap A).fn = fns from rfl)]
    refine ⟨h2.1, h2.2, h3.1, h3.2, h4.1, h4.2, Int.natCast_nonneg len, Int.ofNat_le.2 hl, fun j hj => ?_⟩
    have hj' : j < len := hj
    have := hA j (by omega)
    simp only [AE.den]; exact this
  have hw : HOk (envL a b c d len cap A) (fun _ => { a := pl, o := o, q := zr }) ct3.heap W := hok_nums (n := cap) (A := A) hlt hn (fun _ _ => rfl) (by show ((len : Int)).toNat ≤ cap; omega)
  have := law_of_ct (E := envL a b c d len cap A) (w := W) ct3_ok rfl rfl hw hF rfl (by
    intro s hs bk
    simp only [ct3, List.mem_cons, List.not_mem_nil, or_false] at hs
    subst hs; exact fun hh => hh)
  exact this
set_option maxRecDepth 100000 in
theorem lifted (os : Os) (started : os.Started) (H : Type) (enc : TypeId × Value → H) :
    ReturnsInHanded {} Try.checked os 3 .any (Rows.fnCCOnceSpec.pre6 enc Try.prog Try.f3 Rows.fnCCOnceRow.domain false) (Rows.fnCCOnceSpec.post enc Try.prog Try.f3 false true false false) := by
  refine returnsInHanded_of_change_sized (C := Try.checked) own started (by kernel_rfl) Try.func3
    (ChangeSpec.witness6 (enc := enc) (C := Try.checked) false ⟨#[], #[.bool false, .int .u8 0, .int .u8 0, .int .u8 0, .slice none 0 0], []⟩ 8 (by kernel_rfl) (by kernel_rfl) (by kernel_rfl) (by kernel_rfl)) ?_
  intro W base args ds gs before hval0 hW hcnd hsz0 _
  have hval : ∀ (j : Nat) t v, Try.f3.params[j]? = some t → args[j]? = some v → Value.okWide Try.prog W .any base t v := hval0
  have hW' := hW
  obtain ⟨p, q, hA0, hV, rfl, hfz, hnd⟩ := hW
  have hA : DataW.TrodAll enc Try.prog W 0 (fun _ => true) true Try.f3.params.toList args.toList ds p := hA0
  have hlt := hW'.lt
  have hAk := hA
  rw [Try.params3] at hA hval
  obtain ⟨v0, vs0, d0, ds0, p0, q0, hargs, rfl, rfl, h0, r0⟩ := trodAll_cons hA
  obtain ⟨v1, vs1, d1, ds1, p1, q1, rfl, rfl, rfl, h1, r1⟩ := trodAll_cons r0
  obtain ⟨v2, vs2, d2, ds2, p2, q2, rfl, rfl, rfl, h2, r2⟩ := trodAll_cons r1
  obtain ⟨v3, vs3, d3, ds3, p3, q3, rfl, rfl, rfl, h3, r3⟩ := trodAll_cons r2
  obtain ⟨v4, vs4, d4, ds4, p4, q4, rfl, rfl, rfl, h4, r4⟩ := trodAll_cons r3
  obtain ⟨rfl, rfl, rfl⟩ := trodAll_nil r4
  obtain rfl : args = #[v0, v1, v2, v3, v4] := by cases args; simp_all
  obtain ⟨rfl, rfl⟩ := trodVars_none hV
  obtain ⟨a0, rfl, rfl, rfl⟩ := open_bool Try.underlying4 (hval 0 4 v0 rfl rfl) h0
  obtain ⟨a1, rfl, rfl, rfl, w1⟩ := open_int Try.underlying5 (hval 1 5 v1 rfl rfl) h1
  obtain ⟨a2, rfl, rfl, rfl, w2⟩ := open_int Try.underlying5 (hval 2 5 v2 rfl rfl) h2
  obtain ⟨a3, rfl, rfl, rfl, w3⟩ := open_int Try.underlying5 (hval 3 5 v3 rfl rfl) h3
  have fin : ∀ (e : Ending) (W' : World), (e = .returned (.bool true) ∧ Below W.heap.size W W') → ∃ v, e = .returned v ∧ Rows.fnCCOnceSpec.post enc Try.prog Try.f3 false true false false W #[.bool a0, .int .u8 a1, .int .u8 a2, .int .u8 a3, v4] v W' := fun e W' ⟨he, bel⟩ => by
    subst he
    have hag := trodAll_again kids full (by intro t ht; revert t; simp only [Try.params3]; decide +kernel) bel hAk (fun p hp => hlt p (List.mem_append_left _ hp))
    exact ⟨_, rfl, _, _, _, [], _, [], hW', trodAll_mk1 (shut_bool Try.underlying4 _), hag, rfl, bel.frame _, fun h => by cases h⟩
  rcases open_rows (ks := [.int .u8]) Try.underlying22 (by kernel_rfl) (by decide) (fun _ z => 0 ≤ z ∧ z ≤ 255)
    (fun n cs' y h => by
      obtain ⟨f, h1, h2⟩ := el_int Try.underlying5 h
      exact ⟨f, h1, h2⟩) (hval 4 22 v4 rfl rfl) h4 with rfl | ⟨pl, o, len, cap, A, rfl, g1, g2, g3, g4, g5⟩
  · exact (walk_nil a0 a1 a2 a3 W w1 w2 w3).mono fin
  · exact (walk_row a0 a1 a2 a3 W w1 w2 w3 pl o len cap A g1 g3 g4 g5).mono fin
theorem over : Rows.fnCCOnceRow.holds Try.pinned (OpenSpec.ofChange Rows.fnCCOnceSpec) :=
  OpenClaim.holds_of_wide 3 Try.f3 rfl rfl rfl rfl rfl rfl rfl ⟨rfl, rfl, rfl, rfl, rfl⟩ rfl rfl rfl rfl rfl (by kernel_rfl) Try.func3 (by kernel_rfl)
    (of_decide_eq_true (by kernel_rfl)) (by unfold Func.isWrapper; first | (rw [if_pos (by decide +kernel)]; kernel_rfl) | (rw [if_neg (by decide +kernel)]; exact ⟨rfl, rfl⟩))
    (fun os started H enc _ => lifted os started H enc)
theorem proved : Rows.FnCCOnceSaid := over
#print axioms proved
end Go.Proofs.Ytlclcnkmdbmceaa.fnCCOnce
namespace Go.Proofs.Ytlclcnkmdbmceaa
/-- The row, under a short name, for the claim. -/
theorem fnCCOnce_holds : Rows.FnCCOnceSaid := fnCCOnce.proved
end Go.Proofs.Ytlclcnkmdbmceaa
