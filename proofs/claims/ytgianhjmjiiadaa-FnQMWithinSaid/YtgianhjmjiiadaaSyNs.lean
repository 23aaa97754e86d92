/- Reading the rows of numbers in the fields of records. -/
import Derived.Test.YtgianhjmjiiadaaSyMk
set_option autoImplicit true
set_option relaxedAutoImplicit true
set_option linter.unusedVariables false
set_option linter.unusedSimpArgs false
namespace Go.Sy
open Go
variable {P : Program}
def idxE (m f : Nat) : SE := SE.mkAdd (SE.mkMul (.v 25) (.c (m : Nat))) (.c (f : Nat))
theorem idxE_den (m f : Nat) (E : Env) : (idxE m f).den E = E.i 25 * m + f := by
  unfold idxE
  rw [SE.den_mkAdd, SE.den_mkMul]; rfl
def idxP : Fx := [(.le (.c 0) (.v 25), true), (.lt (.v 25) (.v 0), true)]
def nsV (ix : SE) : SV := .sa (.rd (.v 1) ix) (.c 0) (.rd (.v 2) ix) (.rd (.v 3) ix)
def IxOk (m f : Nat) (ix : SE) (pre : Fx) : Prop := ∀ E : Env, Facts E pre → ∃ i : Nat, (i : Int) < E.i 0 ∧ ix.den E = i * m + f
theorem idxE_ok (m f : Nat) : IxOk m f (idxE m f) idxP := fun E h => by
  have p0 : 0 ≤ E.i 25 := of_decide_eq_true (h (.le (.c 0) (.v 25), true) (by simp [idxP]))
  have p1 : E.i 25 < E.i 0 := of_decide_eq_true (h (.lt (.v 25) (.v 0), true) (by simp [idxP]))
  obtain ⟨z, hz⟩ : ∃ z : Nat, E.i 25 = z := ⟨(E.i 25).toNat, by omega⟩
  exact ⟨z, by omega, by rw [idxE_den, hz]⟩
def btNsLen (TS k : Nat) (ix : SE) (pre : Fx) : Bt where
  sel op := match op with
    | .call { callee := .builtin .len, args := ⟨[s]⟩, argTypes := ⟨[t]⟩ } => if t = TS then some [s] else none
    | _ => none
  rd := true
  ct := { g := 0, args := [nsV ix], heap := [recV k], pre := pre ++ [(.le (.c 0) (.rd (.v 2) ix), true)], alts := [{ res := .int .i64 (.rd (.v 2) ix), post := [recV k] }] }
variable {E : Env} {β : Nat → Bk} {w : World}
theorem ns_of {fns : Fns} {k kc : Nat} {r : RecP} (hR : RecOk fns k kc r) {f : Nat} (hf : f < r.m) (hE : E.fn = fns) (hw : HOk E β [recV k] w) {ix : SE} {pre : Fx} (hix : IxOk r.m f ix pre) (hp : Facts E pre) :
    ∃ K : Nat, (ix.den E = (K : Int) ∧ (ix.den E).toNat = K) ∧ NestOk w (r.nk f) r.W (E.a 1 K) (E.a 2 K) (E.a 4) K := by
  obtain ⟨q, _, h⟩ := rec_of hR hE hw
  obtain ⟨i, hi, he⟩ := hix E hp
  obtain ⟨_, b, _⟩ := h i f (by omega) hf
  have e : ix.den E = ((i * r.m + f : Nat) : Int) := by rw [he, Int.natCast_add, Int.natCast_mul]
  exact ⟨i * r.m + f, ⟨e, by rw [e, Int.toNat_natCast]⟩, b⟩
theorem btNsLen_ok {fns : Fns} {TS k kc f : Nat} {r : RecP} (hR : RecOk fns k kc r) (hf : f < r.m) {ix : SE} {pre : Fx} (hix : IxOk r.m f ix pre) {e : TypeId} (ht : P.underlying TS = some (.slice e)) : BtOk P fns (btNsLen TS k ix pre) := by
  intro E β w hE _ hw hF
  refine ⟨fun a ha => (by cases ha; intro q hq; cases hq), fun eval o xs hsel hxs => ?_⟩
  have hsel' : ∃ s, o.op = .call { callee := .builtin .len, args := #[s], argTypes := #[TS] } ∧ xs = [s] := by
    unfold btNsLen at hsel
    simp only at hsel
    split at hsel
    · rename_i s t ho
      split at hsel
      · rename_i htt
        subst htt
        cases hsel
        exact ⟨s, ho, rfl⟩
      · cases hsel
    · cases hsel
  obtain ⟨s, ho, rfl⟩ := hsel'
  simp only [btNsLen, List.map_cons, List.map_nil, SV.denL, List.cons.injEq, and_true] at hxs
  have hp : Facts E pre := fun q hq => hF q (List.mem_append_left _ hq)
  have p2 : 0 ≤ (SE.rd (.v 2) ix).den E := of_decide_eq_true (hF (.le (.c 0) (.rd (.v 2) ix), true) (by simp [btNsLen]))
  obtain ⟨K, ⟨hKi, hK⟩, b1, b2⟩ := ns_of hR hf hE hw hix hp
  have dr : ∀ a : Nat, (SE.rd (.v a) ix).den E = E.a a K := fun a => by simp only [SE.den, AE.den, hK]
  rw [dr] at p2
  refine bt_one (b := btNsLen TS k ix pre) rfl rfl rfl rfl rfl rfl hw ?_
  unfold execOp
  simp only [ho, resolve, invoke, Sem.run_bind, Sem.run_pure, Result.andThen_ok, List.map_toArray, List.map_cons, List.map_nil, hxs, nsV, SV.den, dr]
  by_cases hB : 0 ≤ E.a 1 K
  · rw [if_pos hB]
    simp [builtin, Builtin.len_, underlying, ht, goInt]
    omega
  · rw [if_neg hB]
    rw [if_neg hB] at b2
    simp [builtin, Builtin.len_, underlying, ht, goInt]
    omega
end Go.Sy
