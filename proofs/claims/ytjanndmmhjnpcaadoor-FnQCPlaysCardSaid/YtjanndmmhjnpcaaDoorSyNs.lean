/- Reading the rows of numbers in the fields of records. -/
import Derived.Test.YtjanndmmhjnpcaaDoorSyMk
set_option autoImplicit true
set_option relaxedAutoImplicit true
set_option linter.unusedVariables false
set_option linter.unusedSimpArgs false
namespace Go.Sy
open Go
variable {P : Program}
def idxE (m f : Nat) : SE := SE.mkAdd (SE.mkMul (.v 25) (.c (m : Nat))) (.c (f : Nat))
theorem idxE_den (m f : Nat) (E : Env) : (idxE m f).den E = E.i 25 * m + f := by
  unfold idxE
  rw [SE.den_mkAdd, SE.den_mkMul]; rfl
def idxP : Fx := [(.le (.c 0) (.v 25), true), (.lt (.v 25) (.v 0), true)]
def nsV (ix : SE) : SV := .sa (.rd (.v 1) ix) (.c 0) (.rd (.v 2) ix) (.rd (.v 3) ix)
def IxOk (m f : Nat) (ix : SE) (pre : Fx) : Prop := ∀ E : Env, Facts E pre → ∃ i : Nat, (i : Int) < E.i 0 ∧ ix.den E = i * m + f
theorem idxE_ok (m f : Nat) : IxOk m f (idxE m f) idxP := fun E h => by
  have p0 : 0 ≤ E.i 25 := of_decide_eq_true (h (.le (.c 0) (.v 25), true) (by simp [idxP]))
  have p1 : E.i 25 < E.i 0 := of_decide_eq_true (h (.lt (.v 25) (.v 0), true) (by simp [idxP]))
  obtain ⟨z, hz⟩ : ∃ z : Nat, E.i 25 = z := ⟨(E.i 25).toNat, by omega⟩
  exact ⟨z, by omega, by rw [idxE_den, hz]⟩
def btNsLen (TS k : Nat) (ix : SE) (pre : Fx) : Bt where
  sel op := match op with
    | .call { callee := .builtin .len, args := ⟨[s]⟩, argTypes := ⟨[t]⟩ } => if t = TS then some [s] else none
    | _ => none
  rd := true
  ct := { g := 0, args := [nsV ix], heap := [recV k], pre := pre ++ [(.le (.c 0) (.rd (.v 2) ix), true)], alts := [{ res := .int .i64 (.rd (.v 2) ix), post := [recV k] }] }
def btNsIx (TS k : Nat) (ix : SE) (pre : Fx) : Bt where
  sel op := match op with
    | .indexAddr t x i => if t = TS then some [x, i] else none
    | _ => none
  rd := true
  ct := { g := 0, args := [nsV ix, .int .i64 (.v 24)], heap := [recV k], pre := pre ++ [(.le (.c 0) (.v 24), true), (.lt (.v 24) (.rd (.v 2) ix), true)], alts := [{ res := .pa (.rd (.v 1) ix) (.v 24), post := [recV k] }] }
def btNsLd (T k : Nat) (ix : SE) (pre : Fx) (W : Nat) (kk : IntKind) : Bt where
  sel op := match op with
    | .load t x => if t = T then some [x] else none
    | _ => none
  rd := true
  ct := { g := 0, args := [.pa (.rd (.v 1) ix) (.v 24)], heap := [recV k], pre := pre ++ [(.le (.c 0) (.v 24), true), (.lt (.v 24) (.rd (.v 2) ix), true)], alts := [{ res := .int kk (.rd (.v 4) (SE.mkAdd (SE.mkMul ix (.c (W : Nat))) (.v 24))), post := [recV k] }] }
variable {E : Env} {β : Nat → Bk} {w : World}
theorem ns_of {fns : Fns} {k kc : Nat} {r : RecP} (hR : RecOk fns k kc r) {f : Nat} (hf : f < r.m) (hE : E.fn = fns) (hw : HOk E β [recV k] w) {ix : SE} {pre : Fx} (hix : IxOk r.m f ix pre) (hp : Facts E pre) :
    ∃ K : Nat, (ix.den E = (K : Int) ∧ (ix.den E).toNat = K) ∧ NestOk w (r.nk f) r.W (E.a 1 K) (E.a 2 K) (E.a 4) K := by
  obtain ⟨q, _, h⟩ := rec_of hR hE hw
  obtain ⟨i, hi, he⟩ := hix E hp
  obtain ⟨_, b, _⟩ := h i f (by omega) hf
  have e : ix.den E = ((i * r.m + f : Nat) : Int) := by rw [he, Int.natCast_add, Int.natCast_mul]
  exact ⟨i * r.m + f, ⟨e, by rw [e, Int.toNat_natCast]⟩, b⟩
theorem btNsLen_ok {fns : Fns} {TS k kc f : Nat} {r : RecP} (hR : RecOk fns k kc r) (hf : f < r.m) {ix : SE} {pre : Fx} (hix : IxOk r.m f ix pre) {e : TypeId} (ht : P.underlying TS = some (.slice e)) : BtOk P fns (btNsLen TS k ix pre) := by
  intro E β w hE _ hw hF
  refine ⟨fun a ha => (by cases ha; intro q hq; cases hq), fun eval o xs hsel hxs => ?_⟩
  have hsel' : ∃ s, o.op = .call { callee := .builtin .len, args := #[s], argTypes := #[TS] } ∧ xs = [s] := by
    unfold btNsLen at hsel
    simp only at hsel
    split at hsel
    · rename_i s t ho
      split at hsel
      · rename_i htt
        subst htt
        cases hsel
        exact ⟨s, ho, rfl⟩
      · cases hsel
    · cases hsel
  obtain ⟨s, ho, rfl⟩ := hsel'
  simp only [btNsLen, List.map_cons, List.map_nil, SV.denL, List.cons.injEq, and_true] at hxs
  have hp : Facts E pre := fun q hq => hF q (List.mem_append_left _ hq)
  have p2 : 0 ≤ (SE.rd (.v 2) ix).den E := of_decide_eq_true (hF (.le (.c 0) (.rd (.v 2) ix), true) (by simp [btNsLen]))
  obtain ⟨K, ⟨hKi, hK⟩, b1, b2⟩ := ns_of hR hf hE hw hix hp
  have dr : ∀ a : Nat, (SE.rd (.v a) ix).den E = E.a a K := fun a => by simp only [SE.den, AE.den, hK]
  rw [dr] at p2
  refine bt_one (b := btNsLen TS k ix pre) rfl rfl rfl rfl rfl rfl hw ?_
  unfold execOp
  simp only [ho, resolve, invoke, Sem.run_bind, Sem.run_pure, Result.andThen_ok, List.map_toArray, List.map_cons, List.map_nil, hxs, nsV, SV.den, dr]
  by_cases hB : 0 ≤ E.a 1 K
  · rw [if_pos hB]
    simp [builtin, Builtin.len_, underlying, ht, goInt]
    omega
  · rw [if_neg hB]
    rw [if_neg hB] at b2
    simp [builtin, Builtin.len_, underlying, ht, goInt]
    omega
theorem btNsIx_ok {fns : Fns} {TS k kc f : Nat} {r : RecP} (hR : RecOk fns k kc r) (hf : f < r.m) {ix : SE} {pre : Fx} (hix : IxOk r.m f ix pre) {e : TypeId} (ht : P.underlying TS = some (.slice e)) (hs : sizeT P e = some 1) : BtOk P fns (btNsIx TS k ix pre) := by
  intro E β w hE _ hw hF
  refine ⟨fun a ha => (by cases ha; intro q hq; cases hq), fun eval o xs hsel hxs => ?_⟩
  have hsel' : ∃ s i, o.op = .indexAddr TS s i ∧ xs = [s, i] := by
    unfold btNsIx at hsel
    simp only at hsel
    split at hsel
    · rename_i t s i ho
      split at hsel
      · rename_i htt
        subst htt
        cases hsel
        exact ⟨s, i, ho, rfl⟩
      · cases hsel
    · cases hsel
  obtain ⟨s, jx, ho, rfl⟩ := hsel'
  simp only [btNsIx, List.map_cons, List.map_nil, SV.denL, List.cons.injEq, and_true] at hxs
  obtain ⟨e1, e2⟩ := hxs
  have hp : Facts E pre := fun q hq => hF q (List.mem_append_left _ hq)
  have p2 : 0 ≤ E.i 24 := of_decide_eq_true (hF (.le (.c 0) (.v 24), true) (by simp [btNsIx]))
  have p3 : E.i 24 < (SE.rd (.v 2) ix).den E := of_decide_eq_true (hF (.lt (.v 24) (.rd (.v 2) ix), true) (by simp [btNsIx]))
  obtain ⟨K, ⟨hKi, hK⟩, b1, b2⟩ := ns_of hR hf hE hw hix hp
  have dr : ∀ a : Nat, (SE.rd (.v a) ix).den E = E.a a K := fun a => by simp only [SE.den, AE.den, hK]
  rw [dr] at p3
  have hB : 0 ≤ E.a 1 K := by
    rcases Int.lt_or_le (E.a 1 K) 0 with h | h
    · rw [if_neg (by omega)] at b2; omega
    · exact h
  refine bt_one (b := btNsIx TS k ix pre) rfl rfl rfl rfl rfl rfl hw ?_
  unfold execOp
  simp only [ho]
  refine val_run ?_
  have hd1 : (nsV ix).den E β = .slice (some ⟨(E.a 1 K).toNat, 0, none⟩) (E.a 2 K).toNat (E.a 3 K).toNat := by
    simp only [nsV, SV.den, dr, hB, if_true]; rfl
  have hd2 : (SV.pa (.rd (.v 1) ix) (.v 24)).den E β = .pointer (some ⟨(E.a 1 K).toNat, (E.i 24).toNat, none⟩) := by
    simp only [SV.den, dr, hB, if_true]; rfl
  rw [e1, e2, hd1, hd2]
  simp only [SV.den, SE.den, Instr.indexAt, asIntOf, Sem.run_bind, Sem.run_pure, Result.andThen_ok, underlying, run_program, ht]
  have hlt : E.i 24 < (((E.a 2 K).toNat : Nat) : Int) := by omega
  simp only [p2, hlt, and_self, if_true, Sem.run_bind, sizeT_ok hs, Result.andThen_ok, Sem.run_pure, addr_add, Nat.mul_one, Int.toNat_zero, Nat.zero_add]
theorem btNsLd_ok {fns : Fns} {T k kc f : Nat} {r : RecP} {kk : IntKind} (hR : RecOk fns k kc r) (hf : f < r.m) {ix : SE} {pre : Fx} (hix : IxOk r.m f ix pre) (hk : r.nk f = [.int kk]) (ha : isAggT P T = some false) : BtOk P fns (btNsLd T k ix pre r.W kk) := by
  intro E β w hE _ hw hF
  refine ⟨fun a ha => (by cases ha; intro q hq; cases hq), fun eval o xs hsel hxs => ?_⟩
  have hsel' : ∃ s, o.op = .load T s ∧ xs = [s] := by
    unfold btNsLd at hsel
    simp only at hsel
    split at hsel
    · rename_i t s ho
      split at hsel
      · rename_i htt
        subst htt
        cases hsel
        exact ⟨s, ho, rfl⟩
      · cases hsel
    · cases hsel
  obtain ⟨s, ho, rfl⟩ := hsel'
  simp only [btNsLd, List.map_cons, List.map_nil, SV.denL, List.cons.injEq, and_true] at hxs
  have hp : Facts E pre := fun q hq => hF q (List.mem_append_left _ hq)
  have p2 : 0 ≤ E.i 24 := of_decide_eq_true (hF (.le (.c 0) (.v 24), true) (by simp [btNsLd]))
  have p3 : E.i 24 < (SE.rd (.v 2) ix).den E := of_decide_eq_true (hF (.lt (.v 24) (.rd (.v 2) ix), true) (by simp [btNsLd]))
  obtain ⟨K, ⟨hKi, hK⟩, b1, b2⟩ := ns_of hR hf hE hw hix hp
  have dr : ∀ a : Nat, (SE.rd (.v a) ix).den E = E.a a K := fun a => by simp only [SE.den, AE.den, hK]
  rw [dr] at p3
  have hB : 0 ≤ E.a 1 K := by
    rcases Int.lt_or_le (E.a 1 K) 0 with h | h
    · rw [if_neg (by omega)] at b2; omega
    · exact h
  rw [if_pos hB] at b2
  obtain ⟨cs, T', fz, h1, h2⟩ := b2
  have hcell := h2 (E.i 24).toNat (by rw [hk]; simp only [List.length_cons, List.length_nil, Nat.zero_add, Nat.mul_one]; omega)
  refine bt_one (b := btNsLd T k ix pre r.W kk) rfl rfl rfl rfl rfl rfl hw ?_
  unfold execOp
  simp only [ho]
  refine val_run ?_
  rw [hxs]
  have hix : ((SE.mkAdd (SE.mkMul ix (.c (r.W : Nat))) (.v 24)).den E).toNat = K * r.W + (E.i 24).toNat := by
    rw [SE.den_mkAdd]
    show ((SE.mkMul ix (.c (r.W : Nat))).den E + E.i 24).toNat = _
    rw [SE.den_mkMul]
    show (ix.den E * (r.W : Int) + E.i 24).toNat = _
    rw [hKi, ← Int.natCast_mul]
    omega
  have hc : w.cell? ⟨(E.a 1 K).toNat, (E.i 24).toNat, none⟩ = some (.int kk (E.a 4 (K * r.W + (E.i 24).toNat))) := by
    simp only [World.cell?, h1]
    rw [hcell, hk]
    simp only [List.length_cons, List.length_nil, Nat.zero_add, Nat.mod_one]
    rfl
  have hd2 : (SV.pa (.rd (.v 1) ix) (.v 24)).den E β = .pointer (some ⟨(E.a 1 K).toNat, (E.i 24).toNat, none⟩) := by
    simp only [SV.den, dr, hB, if_true]; rfl
  rw [hd2]
  simp only [Instr.loadAt, Instr.sureAddr, Sem.run_bind, Sem.run_pure, Result.andThen_ok, loadVar, isAggT_ok ha]
  simp [hc, SV.den, SE.den, AE.den, hix]
end Go.Sy
