/- The contracts of the packet numbers' functions: decoding gives the number near the greatest one, by both forms; a number's length. -/
import Derived.Test.YtlkobjghpkifmaaPnD
import Derived.Test.YtlkobjghpkifmaaPnS1
import Derived.Test.YtlkobjghpkifmaaPnS2
import Derived.Test.YtlkobjghpkifmaaPnS3
import Derived.Test.YtlkobjghpkifmaaPnS4
set_option linter.unusedVariables false
set_option linter.unusedSimpArgs false
namespace Go.Proofs.Ytlkobjghpkifmaa
open Go Go.Sx Go.RowKit

theorem gm0 (β : Nat → Nat) : prm.gm.ok β := by intro q hq; cases hq
theorem gmL0 (β : Nat → Nat) : prmL.gm.ok β := by intro q hq; cases hq
/-- From the ways of a run without a heap to the call. -/
theorem call_of_ways {f n : Nat} {E : Env} {args : List SV} {F : Fx} {os : List Out} {r : Int} {w : World} {a : Array Value} (hF : Facts E F)
    (h : outs prm n f args [] F = some os) (ha : (SV.denL E (fun i => i) args).toArray = a)
    (H : ∀ o ∈ os, Facts E o.facts → o.dead = false ∧ ∃ x : SE, o.res = .int .i64 x ∧ x.den E = r) :
    Calls Try.prog f a w fun e w' => e = .returned (.int .i64 r) ∧ Below w.heap.size w w' := by
  subst ha
  refine calls_of_outs (prm_ok E) (gm0 _) (by intro q hq; cases hq) hF (hok_empty _ w) h ?_
  intro o ho hf
  obtain ⟨h1, x, h2, h3⟩ := H o ho hf
  refine ⟨h1, fun β' w' hx _ => ⟨?_, ext_below hx⟩⟩
  rw [h2, ← h3]; rfl
theorem c5 (n l t : Int) (n0 : 1 ≤ n) (n1 : n ≤ 4) (l0 : -1 ≤ l) (l1 : l < 4611686018427387903) (t0 : 0 ≤ t) (t1 : t < IntKind.i64.wrap (1 * 2 ^ min (n * 8).toNat 64)) (w : World) :
    Calls Try.prog 5 #[.int .i64 n, .int .i64 l, .int .i64 t] w fun e w' => e = .returned (.int .i64 (pn n l t)) ∧ Below w.heap.size w w' := by
  obtain rfl | rfl | rfl | rfl : n = 1 ∨ n = 2 ∨ n = 3 ∨ n = 4 := by omega
  · exact call_of_ways (E := envI [0, l, t] []) (facts_nil.mpr trivial) d1run rfl (d1_ways _ l t rfl rfl l0 l1 t0 t1)
  · exact call_of_ways (E := envI [0, l, t] []) (facts_nil.mpr trivial) d2run rfl (d2_ways _ l t rfl rfl l0 l1 t0 t1)
  · exact call_of_ways (E := envI [0, l, t] []) (facts_nil.mpr trivial) d3run rfl (d3_ways _ l t rfl rfl l0 l1 t0 t1)
  · exact call_of_ways (E := envI [0, l, t] []) (facts_nil.mpr trivial) d4run rfl (d4_ways _ l t rfl rfl l0 l1 t0 t1)
theorem c6 (n l t : Int) (n0 : 1 ≤ n) (n1 : n ≤ 4) (l0 : -1 ≤ l) (l1 : l < 4611686018427387903) (t0 : 0 ≤ t) (t1 : t < IntKind.i64.wrap (1 * 2 ^ min (n * 8).toNat 64)) (w : World) :
    Calls Try.prog 6 #[.int .i64 n, .int .i64 l, .int .i64 t] w fun e w' => e = .returned (.int .i64 (pn n l t)) ∧ Below w.heap.size w w' := by
  obtain rfl | rfl | rfl | rfl : n = 1 ∨ n = 2 ∨ n = 3 ∨ n = 4 := by omega
  · exact call_of_ways (E := envI [0, l, t] []) (facts_nil.mpr trivial) s1run rfl (s1_ways _ l t rfl rfl l0 l1 t0 t1)
  · exact call_of_ways (E := envI [0, l, t] []) (facts_nil.mpr trivial) s2run rfl (s2_ways _ l t rfl rfl l0 l1 t0 t1)
  · exact call_of_ways (E := envI [0, l, t] []) (facts_nil.mpr trivial) s3run rfl (s3_ways _ l t rfl rfl l0 l1 t0 t1)
  · exact call_of_ways (E := envI [0, l, t] []) (facts_nil.mpr trivial) s4run rfl (s4_ways _ l t rfl rfl l0 l1 t0 t1)
theorem l_ways (E : Env) (n a : Int) (hn : E.i 0 = n) (ha : E.i 1 = a) :
    ∀ o ∈ louts, Facts E o.facts → o.dead = false ∧ ∃ x : SE, o.res = .int .i64 x ∧ x.den E = pnLen n a := by
  have h1 : le1.den E = IntKind.i64.wrap (n + 1) := by show IntKind.i64.wrap (E.i 0 + 1) = _; rw [hn]
  have h3 : le3.den E = IntKind.i64.wrap (n - a) := by show IntKind.i64.wrap (E.i 0 - E.i 1) = _; rw [hn, ha]
  intro o ho hf
  unfold louts at ho
  simp only [List.mem_cons, List.not_mem_nil, or_false] at ho
  unfold pnLen
  rcases ho with rfl | rfl | rfl | rfl | rfl | rfl
  all_goals
    simp only [lo0, lo1, lo2, lo3, lo4, lo5, facts_cons, facts_nil, lt_t, lt_f, eq_t, eq_f, h1, h3, d_c, d_v, ha] at hf
    refine ⟨rfl, _, rfl, ?_⟩
    simp only [d_c]
    simp only [hf, if_true, if_false]
    repeat' split
    all_goals first | rfl | omega
theorem c7 (n a : Int) (w : World) :
    Calls Try.prog 7 #[.int .i64 n, .int .i64 a] w fun e w' => e = .returned (.int .i64 (pnLen n a)) ∧ Below w.heap.size w w' :=
  call_of_ways (E := envI [n, a] []) (facts_nil.mpr trivial) lrun rfl (l_ways _ n a rfl rfl)
/-- The environment of the two laws: what the three functions compute. -/
def envL (l : List Int) (b : List Bool) : Env := { envI l b with f := fun id x y z _ => if id = 0 then pn x y z else pnLen x y }
theorem prmL_ok (l : List Int) (b : List Bool) : PrmOk (envL l b) prmL where
  sm := by
    intro s hs xs w hl hpre
    simp only [prmL, List.mem_cons, List.not_mem_nil, or_false] at hs
    rcases hs with rfl | rfl | rfl
    · match xs, hl with
      | [x, y, z], _ =>
        simp only [preD, List.mem_cons, List.not_mem_nil, or_false, forall_eq_or_imp, forall_eq, le_t, lt_t, d_c, d_v, d_shl, d_mul] at hpre
        obtain ⟨h1, h2, h3, h4, h5, h6⟩ := hpre
        exact c5 x y z h1 h2 h3 h4 h5 h6 w
    · match xs, hl with
      | [x, y, z], _ =>
        simp only [preD, List.mem_cons, List.not_mem_nil, or_false, forall_eq_or_imp, forall_eq, le_t, lt_t, d_c, d_v, d_shl, d_mul] at hpre
        obtain ⟨h1, h2, h3, h4, h5, h6⟩ := hpre
        exact c6 x y z h1 h2 h3 h4 h5 h6 w
    · match xs, hl with
      | [x, y], _ => exact c7 x y w
  mix := Checked.mixed Try.checked
  okf := okf_call
  body := okf_body
  mts := by intro x hx; cases hx
  dfr := by intro x hx; cases hx
  dfk := by intro x hx; cases hx
end Go.Proofs.Ytlkobjghpkifmaa
