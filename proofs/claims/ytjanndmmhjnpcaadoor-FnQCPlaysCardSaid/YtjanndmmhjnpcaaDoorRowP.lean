/- The ids that a peer issues are held as the specification says: for every script, every length and every random number. -/
import Derived.Test.YtjanndmmhjnpcaaDoorRows
import Derived.Test.YtjanndmmhjnpcaaDoorCards
import Derived.Test.YtjanndmmhjnpcaaDoorTie
import Derived.Test.YtjanndmmhjnpcaaDoorQcAd
import Derived.Test.YtjanndmmhjnpcaaDoorSyQ
import Derived.WalkKit
import Derived.ProofKit
import Derived.OpenShut
import Derived.ChangeOld
import Derived.ChangeVars
import Derived.Below
import Derived.WalkSmall
import Derived.SizedLaws
import Derived.LaidMore
import Derived.Lay
import Derived.SevenTiedAt
import Derived.Stop.Joined
set_option autoImplicit true
set_option relaxedAutoImplicit true
set_option linter.unusedVariables false
set_option linter.unusedSimpArgs false
namespace Go.Proofs.YtjanndmmhjnpcaaDoor.fnQCPlays
open Go Go.Sy Go.ChangeShapes Go.WideShapes Go.ChangeAt Go.RowKit
set_option linter.unusedVariables false
theorem own : ownKnob Tryd.prog.godebug = none := by kernel_rfl
theorem kids : Kids Tryd.prog (· < Tryd.prog.types.size) := kids_rows (by kernel_rfl) (by kernel_rfl)
theorem full : ∀ t e, t < Tryd.prog.types.size → Tryd.prog.underlying t = some (.slice e) → 0 < Tryd.prog.cellsOf e := slices_full_of Tryd.prog (by kernel_rfl)
theorem globs : ∀ (g : Nat) t, (Tryd.prog.globals[g]?).map (·.type) = some t → t < Tryd.prog.types.size := by
  intro g t h
  have hall : (Tryd.prog.globals.toList.all fun x => decide (x.type < Tryd.prog.types.size)) = true := by kernel_rfl
  cases hx : Tryd.prog.globals[g]? with
  | none => rw [hx] at h; cases h
  | some x =>
    rw [hx] at h
    obtain rfl := Option.some.inj h
    have := List.all_eq_true.1 hall x (Array.mem_toList_iff.2 (Array.mem_of_getElem? hx))
    simpa using this
section
variable {H : Type} {enc : TypeId × Value → H} {P : Program} {W W' : World}
theorem trodVars_again {T : TypeId → Prop} (K : Kids P T) (hz : ∀ t e, T t → P.underlying t = some (.slice e) → 0 < P.cellsOf e) (hG : ∀ (g : Nat) t, (P.globals[g]?).map (·.type) = some t → T t) (bel : Below W.heap.size W W') :
    ∀ {ns : List String} {gs : List (DataW H)} {ps : List MemPlace}, DataW.TrodVars enc P W (fun _ => true) ns gs ps → (∀ p ∈ ps, p.block < W.heap.size) → DataW.TrodVars enc P W' (fun b => decide (b < W.heap.size)) ns gs ps
  | [], [], _, h, _ => h
  | n :: ns, d :: ds, ps, ⟨g, t, cs, fuel, p, q, h1, h2, h3, h4, hs, e⟩, hlt => by
    subst e
    have hg : g < W.heap.size := by
      unfold World.var? at h3
      rw [h1] at h3
      simp only [Option.bind_some] at h3
      split at h3
      · rename_i hh; exact (Array.getElem?_eq_some_iff.1 hh).1
      · cases h3
    refine ⟨g, t, cs, fuel, p, q, h1, h2, var?_below bel h1 hg h3, ?_, trodVars_again K hz hG bel hs fun x hx => hlt x (by simp [hx]), rfl⟩
    exact DataW.trod_respare K hz fuel t _ _ (hG g t h2) (DataW.trod_carry fuel t _ _ h4 fun x hx => bel.same (hlt x (by simp [show x ∈ p from hx]))) fun x hx => by simpa using hlt x (by simp [show x ∈ p from hx])
end
noncomputable def envL (x y : Int) (len cap : Nat) (A : Nat → Int) : Env := { i := fun j => match j with | 30 => x | 12 => y | 1 => len | 3 => cap | _ => 0, b := fun _ => false, a := fun _ j => A j, o := fun _ => .nilIface, fn := fns }
theorem hok_nil {E : Env} {W : World} : HOk E (fun _ => nilBk) [] W := ⟨fun i j s t x hi => (by cases hi), fun i s x hi => (by cases hi), fun i s hi => (by cases hi)⟩
theorem walk_nil (x y : Int) (W : World) (hx : (Lit.int .u8 x).wf = true) (hy : (Lit.int .u32 y).wf = true) :
    Calls Tryd.prog 4 #[.int .u8 x, .int .u32 y, .slice none 0 0] W fun e W' => e = .returned (.bool true) ∧ Below W.heap.size W W' := by
  have h1 := bounds_u8 hx
  have h2 := bounds_u32 hy
  have hF : Facts (envL x y 0 0 fun _ => 0) ct4n.pre := by
    simp only [ct4n, bd, List.cons_append, List.nil_append, facts_cons, facts_nil, le_t, d_c, d_v, and_true]
    exact ⟨h1.1, h1.2, h2.1, h2.2⟩
  exact law_of_ct (E := envL x y 0 0 fun _ => 0) (β := fun _ => nilBk) (w := W) ct4n_ok rfl rfl hok_nil hF rfl (by intro s hs; cases hs)
theorem walk_row (x y : Int) (W : World) (hx : (Lit.int .u8 x).wf = true) (hy : (Lit.int .u32 y).wf = true) (pl o len cap : Nat) (A : Nat → Int) (hl : len ≤ cap) (hlt : pl < W.heap.size) (hn : numsAt W [.int .u8] pl o cap A) (hA : ∀ j, j < cap * 1 → 0 ≤ A j ∧ A j ≤ 255) :
    Calls Tryd.prog 4 #[.int .u8 x, .int .u32 y, .slice (some ⟨pl, o, none⟩) len cap] W fun e W' => e = .returned (.bool true) ∧ Below W.heap.size W W' := by
  have h1 := bounds_u8 hx
  have h2 := bounds_u32 hy
  have hF : Facts (envL x y len cap A) ct4.pre := by
    intro q hq
    simp only [ct4, ct3, bd, List.cons_append, List.nil_append, List.mem_cons, List.not_mem_nil, or_false] at hq
    rcases hq with rfl | rfl | rfl | rfl | rfl | rfl | rfl
    · rw [le_t, d_c, d_v]; exact h1.1
    · rw [le_t, d_c, d_v]; exact h1.2
    · rw [le_t, d_c, d_v]; exact h2.1
    · rw [le_t, d_c, d_v]; exact h2.2
    · rw [le_t, d_c, d_v]; exact Int.natCast_nonneg len
    · rw [le_t, d_v, d_v]; exact Int.ofNat_le.2 hl
    · show @decide (∀ j : Nat, (j : Int) < (len : Int) → 0 ≤ (AE.v 0).den (envL x y len cap A) j ∧ (AE.v 0).den (envL x y len cap A) j ≤ 255) (Classical.propDecidable _) = true
      refine @decide_eq_true _ (Classical.propDecidable _) fun j hj => ?_
      have := hA j (by omega)
      simp only [AE.den]; exact this
  have hw : HOk (envL x y len cap A) (fun _ => { a := pl, o := o, q := zr }) ct4.heap W := hok_nums (n := cap) (A := A) hlt hn (fun _ _ => rfl) (by show ((len : Int)).toNat ≤ cap; omega)
  have := law_of_ct (E := envL x y len cap A) (w := W) ct4_ok rfl rfl hw hF rfl (by
    intro s hs bk
    simp only [ct4, ct3, List.mem_cons, List.not_mem_nil, or_false] at hs
    subst hs; exact fun hh => hh)
  exact this
set_option maxRecDepth 100000 in
theorem lifted (os : Os) (started : os.Started) (H : Type) (enc : TypeId × Value → H) :
    ReturnsInHanded {} Tryd.checked os 4 .any (fun w args => (Rows.fnQCPlaysSpec.pre enc Tryd.prog Tryd.f4 Rows.fnQCPlaysRow.domain false w args ∧ laidMetH Tryd.prog Rows.fnQCPlaysRow.laid w) ∧ sizedMet enc Tryd.prog Tryd.f4 (OpenSpec.ofChange Rows.fnQCPlaysSpec) false w args)
      (Rows.fnQCPlaysSpec.post enc Tryd.prog Tryd.f4 false true false false) := by
  refine returnsInHanded_of_change_and (C := Tryd.checked) (X := fun w _ => laidMetH Tryd.prog Rows.fnQCPlaysRow.laid w) (fun _ _ _ hh h => h.of_heap hh) own started (by kernel_rfl) Tryd.func4
    (ChangeSpec.witness_shaped (enc := enc) (C := Tryd.checked) (os := os) (X := fun w _ => laidMetH Tryd.prog Rows.fnQCPlaysRow.laid w) false (World.laidAll Tryd.prog os Rows.fnQCPlaysRow.laid) #[.int .u8 0, .int .u32 0, .slice none 0 0] 8 (World.laidAll_os _ _ _)
      (World.shaped_of_ZipB (by kernel_rfl) (by kernel_rfl)) (by kernel_rfl) (by kernel_rfl) (by kernel_rfl)
      (by rw [MakeChecks.laidMetH_plain _ _ _ (by kernel_rfl)]; exact laidMet_laidAll _ (by kernel_rfl) (by kernel_rfl))) ?_
  intro W base args ds gs before hval0 hW hcnd hsz0 hL _
  have hval : ∀ (j : Nat) t v, Tryd.f4.params[j]? = some t → args[j]? = some v → Value.okWide Tryd.prog W .any base t v := hval0
  have hW' := hW
  obtain ⟨p, q, hA0, hV, rfl, hfz, hnd⟩ := hW
  have hA : DataW.TrodAll enc Tryd.prog W 0 (fun _ => true) true Tryd.f4.params.toList args.toList ds p := hA0
  have hlt := hW'.lt
  have hAk := hA
  rw [Tryd.params4] at hA hval
  obtain ⟨v0, vs0, d0, ds0, p0, q0, hargs, rfl, rfl, h0, r0⟩ := trodAll_cons hA
  obtain ⟨v1, vs1, d1, ds1, p1, q1, rfl, rfl, rfl, h1, r1⟩ := trodAll_cons r0
  obtain ⟨v2, vs2, d2, ds2, p2, q2, rfl, rfl, rfl, h2, r2⟩ := trodAll_cons r1
  obtain ⟨rfl, rfl, rfl⟩ := trodAll_nil r2
  obtain rfl : args = #[v0, v1, v2] := by cases args; simp_all
  obtain ⟨a0, rfl, rfl, rfl, w0⟩ := open_int Tryd.underlying5 (hval 0 5 v0 rfl rfl) h0
  obtain ⟨a1, rfl, rfl, rfl, w1⟩ := open_int Tryd.underlying22 (hval 1 22 v1 rfl rfl) h1
  obtain ⟨g1, g2, rfl⟩ : ∃ g1 g2, gs = [g1, g2] := by
    have hV0 : DataW.TrodVars enc Tryd.prog W (fun _ => true) ["given.example/pub-heaveline/pub/quic.ErrWouldBlock", "given.example/pub-heaveline/pub/quic.ErrStreamClosed"] gs q := hV
    match gs, hV0 with
    | [a, b], _ => exact ⟨a, b, rfl⟩
    | [], h => exact h.elim
    | [_], ⟨_, _, _, _, _, _, _, _, _, _, h, _⟩ => exact h.elim
    | _ :: _ :: _ :: _, ⟨_, _, _, _, _, _, _, _, _, _, ⟨_, _, _, _, _, _, _, _, _, _, h, _⟩, _⟩ => exact h.elim
  have fin : ∀ (e : Ending) (W' : World), (e = .returned (.bool true) ∧ Below W.heap.size W W') → ∃ v, e = .returned v ∧ Rows.fnQCPlaysSpec.post enc Tryd.prog Tryd.f4 false true false false W #[.int .u8 a0, .int .u32 a1, v2] v W' := fun e W' ⟨he, bel⟩ => by
    subst he
    have hag := trodAll_again kids full (by intro t ht; revert t; simp only [Tryd.params4]; decide +kernel) bel hAk (fun p hp => hlt p (List.mem_append_left _ hp))
    have hvg := trodVars_again kids full globs bel hV (fun p hp => hlt p (List.mem_append_right _ hp))
    exact ⟨_, rfl, _, _, _, [], _, _, hW', trodAll_mk1 (shut_bool Tryd.underlying4 _), hag, hvg, bel.frame _, fun h => by cases h⟩
  rcases open_rows (ks := [.int .u8]) Tryd.underlying23 (by kernel_rfl) (by decide) (fun _ z => 0 ≤ z ∧ z ≤ 255)
    (fun n cs' y h => by
      obtain ⟨f, h1, h2⟩ := el_int Tryd.underlying5 h
      exact ⟨f, h1, h2⟩) (hval 2 23 v2 rfl rfl) h2 with rfl | ⟨pl, o, len, cap, A, rfl, g1, g2, g3, g4, g5⟩
  · exact (walk_nil a0 a1 W w0 w1).mono fin
  · exact (walk_row a0 a1 W w0 w1 pl o len cap A g1 g3 g4 g5).mono fin
theorem over : Rows.FnQCPlaysSaid :=
  OpenClaim.holds_of_wide 4 Tryd.f4 rfl rfl rfl rfl rfl rfl rfl ⟨rfl, rfl, rfl, rfl, rfl⟩ rfl rfl rfl rfl rfl (by kernel_rfl) Tryd.func4 (by kernel_rfl)
    (of_decide_eq_true (by kernel_rfl)) (by unfold Func.isWrapper; first | (rw [if_pos (by decide +kernel)]; kernel_rfl) | (rw [if_neg (by decide +kernel)]; exact ⟨rfl, rfl⟩))
    (fun os started H enc _ => lifted os started H enc)
theorem proved : Rows.FnQCPlaysCardSaid :=
  Claim7.holds_tied_plain_at .later [] [.sentinel, .sentinel, .sentinel] true (true, "4e698394104bb3b5f16c4e8b8db1b8a3c7074ee280b5c955197b643a417b0162") true
    over (fun _ h => by cases h) (by kernel_rfl) (fun _ h => by cases h) fnQCPlays_row_tie rfl ⟨rfl, rfl⟩ (by kernel_rfl) rfl
    (fun f fn hf hfn => by
      obtain rfl : f = 4 := Option.some.inj ((show Tryd.prog.funcNamed "given.example/pub-heaveline/laws.FnQCPlays" = some 4 by kernel_rfl).symm.trans hf) |>.symm
      obtain rfl : fn = Tryd.f4 := (Option.some.inj (Tryd.func4.symm.trans hfn)).symm
      exact ⟨by kernel_rfl, fun j t ht => by
        rw [Tryd.params4] at ht
        have h3 : t = 5 ∨ t = 22 ∨ t = 23 := by
          rcases j with _ | _ | _ | j
          · exact .inl (by simpa using ht.symm)
          · exact .inr (.inl (by simpa using ht.symm))
          · exact .inr (.inr (by simpa using ht.symm))
          · simp at ht
        rcases h3 with rfl | rfl | rfl
        · exact (show Tryd.prog.wantsStandIn 5 = false by kernel_rfl)
        · exact (show Tryd.prog.wantsStandIn 22 = false by kernel_rfl)
        · exact (show Tryd.prog.wantsStandIn 23 = false by kernel_rfl)⟩)
    (by kernel_rfl)
#print axioms proved
end Go.Proofs.YtjanndmmhjnpcaaDoor.fnQCPlays
namespace Go.Proofs.YtjanndmmhjnpcaaDoor
theorem fnQCPlays_holds : Rows.FnQCPlaysCardSaid := fnQCPlays.proved
end Go.Proofs.YtjanndmmhjnpcaaDoor
