/- Reading the rows of pairs of numbers in the fields of records. -/
import Derived.Test.YtgianhjmjiiadaaSyNs
set_option autoImplicit true
set_option relaxedAutoImplicit true
set_option linter.unusedVariables false
set_option linter.unusedSimpArgs false
namespace Go.Sy
open Go
variable {P : Program} {E : Env} {β : Nat → Bk} {w : World}
def btNpIx (TS k : Nat) (ix : SE) (pre : Fx) : Bt where
  sel op := match op with
    | .indexAddr t x i => if t = TS then some [x, i] else none
    | _ => none
  rd := true
  ct := { g := 0, args := [nsV ix, .int .i64 (.v 24)], heap := [recV k], pre := pre ++ [(.le (.c 0) (.v 24), true), (.lt (.v 24) (.rd (.v 2) ix), true)], alts := [{ res := .pa (.rd (.v 1) ix) (SE.mkMul (.v 24) (.c 2)), post := [recV k] }] }
def btNpIn (TA k : Nat) (ix : SE) (pre : Fx) : Bt where
  sel op := match op with
    | .indexAddr t x i => if t = TA then some [x, i] else none
    | _ => none
  rd := true
  ct := { g := 0, args := [.pa (.rd (.v 1) ix) (.v 24), .int .i64 (.v 26)], heap := [recV k], pre := pre ++ [(.le (.c 0) (.v 24), true), (.lt (.v 24) (SE.mkMul (.rd (.v 2) ix) (.c 2)), true), (.le (.c 0) (.v 26), true), (.lt (.v 26) (.c 2), true)], alts := [{ res := .pa (.rd (.v 1) ix) (SE.mkAdd (.v 24) (.v 26)), post := [recV k] }] }
def btNpLd (T k : Nat) (ix : SE) (pre : Fx) (W : Nat) (kk : IntKind) : Bt where
  sel op := match op with
    | .load t x => if t = T then some [x] else none
    | _ => none
  rd := true
  ct := { g := 0, args := [.pa (.rd (.v 1) ix) (.v 24)], heap := [recV k], pre := pre ++ [(.le (.c 0) (.v 24), true), (.lt (.v 24) (SE.mkMul (.rd (.v 2) ix) (.c 2)), true)], alts := [{ res := .int kk (.rd (.v 4) (SE.mkAdd (SE.mkMul ix (.c (W : Nat))) (.v 24))), post := [recV k] }] }
def btNpAll (T k : Nat) (ix : SE) (pre : Fx) (W : Nat) (kk : IntKind) : Bt where
  sel op := match op with
    | .load t x => if t = T then some [x] else none
    | _ => none
  rd := true
  ct := { g := 0, args := [.pa (.rd (.v 1) ix) (.v 24)], heap := [recV k], pre := pre ++ [(.le (.c 0) (.v 24), true), (.lt (SE.mkAdd (.v 24) (.c 1)) (SE.mkMul (.rd (.v 2) ix) (.c 2)), true)], alts := [{ res := .agg [.int kk (.rd (.v 4) (SE.mkAdd (SE.mkMul ix (.c (W : Nat))) (.v 24))), .int kk (.rd (.v 4) (SE.mkAdd (SE.mkMul ix (.c (W : Nat))) (SE.mkAdd (.v 24) (.c 1))))], post := [recV k] }] }
theorem np_addr {fns : Fns} {k kc f : Nat} {r : RecP} (hR : RecOk fns k kc r) (hf : f < r.m) (hE : E.fn = fns) (hw : HOk E β [recV k] w) {ix : SE} {pre : Fx} (hix : IxOk r.m f ix pre) (hp : Facts E pre) {kk : IntKind} (hk : r.nk f = [.int kk, .int kk]) :
    ∃ K : Nat, (ix.den E = (K : Int) ∧ (ix.den E).toNat = K) ∧ (0 < (SE.rd (.v 2) ix).den E → 0 ≤ E.a 1 K ∧ (SE.rd (.v 1) ix).den E = E.a 1 K ∧ (SE.rd (.v 2) ix).den E = E.a 2 K ∧ (SE.rd (.v 3) ix).den E = E.a 3 K ∧
      ∀ j : Nat, (j : Int) < E.a 2 K * 2 → w.cell? ⟨(E.a 1 K).toNat, j, none⟩ = some (.int kk (E.a 4 (K * r.W + j)))) := by
  obtain ⟨K, ⟨hKi, hK⟩, b1, b2⟩ := ns_of hR hf hE hw hix hp
  have dr : ∀ a : Nat, (SE.rd (.v a) ix).den E = E.a a K := fun a => by simp only [SE.den, AE.den, hK]
  refine ⟨K, ⟨hKi, hK⟩, fun hpos => ?_⟩
  rw [dr] at hpos
  have hB : 0 ≤ E.a 1 K := by
    rcases Int.lt_or_le (E.a 1 K) 0 with h | h
    · rw [if_neg (by omega)] at b2; omega
    · exact h
  rw [if_pos hB] at b2
  obtain ⟨cs, T', fz, h1, h2⟩ := b2
  refine ⟨hB, dr 1, dr 2, dr 3, fun j hj => ?_⟩
  have hcell := h2 j (by rw [hk]; show j < _ * 2; omega)
  simp only [World.cell?, h1]
  rw [hcell, hk]
  have : j % [SK.int kk, SK.int kk].length = 0 ∨ j % [SK.int kk, SK.int kk].length = 1 := by
    show j % 2 = 0 ∨ j % 2 = 1
    omega
  rcases this with h | h <;> rw [h] <;> rfl
theorem np_ix {ix : SE} {W K : Nat} (hKi : ix.den E = (K : Int)) {x : SE} (hx : 0 ≤ x.den E) : ((SE.mkAdd (SE.mkMul ix (.c (W : Nat))) x).den E).toNat = K * W + (x.den E).toNat := by
  rw [SE.den_mkAdd, SE.den_mkMul]
  show (ix.den E * (W : Int) + x.den E).toNat = _
  rw [hKi, ← Int.natCast_mul]
  omega
theorem btNpIx_ok {fns : Fns} {TS k kc f : Nat} {r : RecP} {kk : IntKind} (hR : RecOk fns k kc r) (hf : f < r.m) {ix : SE} {pre : Fx} (hix : IxOk r.m f ix pre) (hk : r.nk f = [.int kk, .int kk]) {e : TypeId} (ht : P.underlying TS = some (.slice e)) (hs : sizeT P e = some 2) : BtOk P fns (btNpIx TS k ix pre) := by
  intro E β w hE _ hw hF
  refine ⟨fun a ha => (by cases ha; intro q hq; cases hq), fun eval o xs hsel hxs => ?_⟩
  have hsel' : ∃ s i, o.op = .indexAddr TS s i ∧ xs = [s, i] := by
    unfold btNpIx at hsel
    simp only at hsel
    split at hsel
    · rename_i t s i ho
      split at hsel
      · rename_i htt
        subst htt
        cases hsel
        exact ⟨s, i, ho, rfl⟩
      · cases hsel
    · cases hsel
  obtain ⟨s, jx, ho, rfl⟩ := hsel'
  simp only [btNpIx, List.map_cons, List.map_nil, SV.denL, List.cons.injEq, and_true] at hxs
  obtain ⟨e1, e2⟩ := hxs
  have hp : Facts E pre := fun q hq => hF q (List.mem_append_left _ hq)
  have p2 : 0 ≤ E.i 24 := of_decide_eq_true (hF (.le (.c 0) (.v 24), true) (by simp [btNpIx]))
  have p3 : E.i 24 < (SE.rd (.v 2) ix).den E := of_decide_eq_true (hF (.lt (.v 24) (.rd (.v 2) ix), true) (by simp [btNpIx]))
  obtain ⟨K, ⟨hKi, hK⟩, hh⟩ := np_addr hR hf hE hw hix hp hk
  obtain ⟨hB, d1, d2, d3, _⟩ := hh (by omega)
  refine bt_one (b := btNpIx TS k ix pre) rfl rfl rfl rfl rfl rfl hw ?_
  unfold execOp
  simp only [ho]
  refine val_run ?_
  have hd1 : (nsV ix).den E β = .slice (some ⟨(E.a 1 K).toNat, 0, none⟩) (E.a 2 K).toNat (E.a 3 K).toNat := by
    simp only [nsV, SV.den, d1, d2, d3, hB, if_true]; rfl
  have hd2 : (SV.pa (.rd (.v 1) ix) (SE.mkMul (.v 24) (.c 2))).den E β = .pointer (some ⟨(E.a 1 K).toNat, (E.i 24).toNat * 2, none⟩) := by
    simp only [SV.den, d1, hB, if_true, SE.den_mkMul]
    show Value.pointer (some ⟨_, (E.i 24 * 2).toNat, none⟩) = _
    rw [show (E.i 24 * 2).toNat = (E.i 24).toNat * 2 by omega]
  rw [e1, e2, hd1, hd2]
  rw [d2] at p3
  simp only [SV.den, SE.den, Instr.indexAt, asIntOf, Sem.run_bind, Sem.run_pure, Result.andThen_ok, underlying, run_program, ht]
  have hlt : E.i 24 < (((E.a 2 K).toNat : Nat) : Int) := by omega
  simp only [p2, hlt, and_self, if_true, Sem.run_bind, sizeT_ok hs, Result.andThen_ok, Sem.run_pure, addr_add, Int.toNat_zero, Nat.zero_add]
theorem btNpIn_ok {fns : Fns} {TA k kc f : Nat} {r : RecP} {kk : IntKind} (hR : RecOk fns k kc r) (hf : f < r.m) {ix : SE} {pre : Fx} (hix : IxOk r.m f ix pre) (hk : r.nk f = [.int kk, .int kk]) {e : TypeId} (ht : P.underlying TA = some (.array 2 e)) (hs : sizeT P e = some 1) : BtOk P fns (btNpIn TA k ix pre) := by
  intro E β w hE _ hw hF
  refine ⟨fun a ha => (by cases ha; intro q hq; cases hq), fun eval o xs hsel hxs => ?_⟩
  have hsel' : ∃ s i, o.op = .indexAddr TA s i ∧ xs = [s, i] := by
    unfold btNpIn at hsel
    simp only at hsel
    split at hsel
    · rename_i t s i ho
      split at hsel
      · rename_i htt
        subst htt
        cases hsel
        exact ⟨s, i, ho, rfl⟩
      · cases hsel
    · cases hsel
  obtain ⟨s, jx, ho, rfl⟩ := hsel'
  simp only [btNpIn, List.map_cons, List.map_nil, SV.denL, List.cons.injEq, and_true] at hxs
  obtain ⟨e1, e2⟩ := hxs
  have hp : Facts E pre := fun q hq => hF q (List.mem_append_left _ hq)
  have p1 : 0 ≤ E.i 24 := of_decide_eq_true (hF (.le (.c 0) (.v 24), true) (by simp [btNpIn]))
  have q3 : E.i 24 < (SE.mkMul (.rd (.v 2) ix) (.c 2)).den E := of_decide_eq_true (hF (.lt (.v 24) (SE.mkMul (.rd (.v 2) ix) (.c 2)), true) (by simp [btNpIn]))
  rw [SE.den_mkMul] at q3
  have q3' : E.i 24 < (SE.rd (.v 2) ix).den E * 2 := q3
  have p2 : 0 ≤ E.i 26 := of_decide_eq_true (hF (.le (.c 0) (.v 26), true) (by simp [btNpIn]))
  have p3 : E.i 26 < 2 := of_decide_eq_true (hF (.lt (.v 26) (.c 2), true) (by simp [btNpIn]))
  obtain ⟨K, ⟨hKi, hK⟩, hh⟩ := np_addr hR hf hE hw hix hp hk
  obtain ⟨hB, d1, d2, d3, hc⟩ := hh (by omega)
  refine bt_one (b := btNpIn TA k ix pre) rfl rfl rfl rfl rfl rfl hw ?_
  unfold execOp
  simp only [ho]
  refine val_run ?_
  have hd1 : (SV.pa (.rd (.v 1) ix) (.v 24)).den E β = .pointer (some ⟨(E.a 1 K).toNat, (E.i 24).toNat, none⟩) := by
    simp only [SV.den, d1, hB, if_true]; rfl
  have hd2 : (SV.pa (.rd (.v 1) ix) (SE.mkAdd (.v 24) (.v 26))).den E β = .pointer (some ⟨(E.a 1 K).toNat, (E.i 24).toNat + (E.i 26).toNat, none⟩) := by
    simp only [SV.den, SE.den_mkAdd, d1]
    show (if 0 ≤ E.a 1 K then Value.pointer (some ⟨(E.a 1 K).toNat, (E.i 24 + E.i 26).toNat, none⟩) else _) = _
    rw [if_pos hB, show (E.i 24 + E.i 26).toNat = (E.i 24).toNat + (E.i 26).toNat by omega]
  rw [e1, e2, hd1, hd2]
  simp only [SV.den, SE.den, Instr.indexAt, asIntOf, Instr.sureAddr, Sem.run_bind, Sem.run_pure, Result.andThen_ok, underlying, run_program, ht]
  have hlt : E.i 26 < ((2 : Nat) : Int) := p3
  simp [p2, p3, sizeT_ok hs, addr_add]
theorem btNpLd_ok {fns : Fns} {T k kc f : Nat} {r : RecP} {kk : IntKind} (hR : RecOk fns k kc r) (hf : f < r.m) {ix : SE} {pre : Fx} (hix : IxOk r.m f ix pre) (hk : r.nk f = [.int kk, .int kk]) (ha : isAggT P T = some false) : BtOk P fns (btNpLd T k ix pre r.W kk) := by
  intro E β w hE _ hw hF
  refine ⟨fun a ha => (by cases ha; intro q hq; cases hq), fun eval o xs hsel hxs => ?_⟩
  have hsel' : ∃ s, o.op = .load T s ∧ xs = [s] := by
    unfold btNpLd at hsel
    simp only at hsel
    split at hsel
    · rename_i t s ho
      split at hsel
      · rename_i htt
        subst htt
        cases hsel
        exact ⟨s, ho, rfl⟩
      · cases hsel
    · cases hsel
  obtain ⟨s, ho, rfl⟩ := hsel'
  simp only [btNpLd, List.map_cons, List.map_nil, SV.denL, List.cons.injEq, and_true] at hxs
  have hp : Facts E pre := fun q hq => hF q (List.mem_append_left _ hq)
  have p2 : 0 ≤ E.i 24 := of_decide_eq_true (hF (.le (.c 0) (.v 24), true) (by simp [btNpLd]))
  have p3 : E.i 24 < (SE.mkMul (.rd (.v 2) ix) (.c 2)).den E := of_decide_eq_true (hF (.lt (.v 24) (SE.mkMul (.rd (.v 2) ix) (.c 2)), true) (by simp [btNpLd]))
  rw [SE.den_mkMul] at p3
  have p3' : E.i 24 < (SE.rd (.v 2) ix).den E * 2 := p3
  obtain ⟨K, ⟨hKi, hK⟩, hh⟩ := np_addr hR hf hE hw hix hp hk
  obtain ⟨hB, d1, d2, d3, hc⟩ := hh (by omega)
  rw [d2] at p3'
  have hc' := hc (E.i 24).toNat (by omega)
  refine bt_one (b := btNpLd T k ix pre r.W kk) rfl rfl rfl rfl rfl rfl hw ?_
  unfold execOp
  simp only [ho]
  refine val_run ?_
  rw [hxs]
  have hix := np_ix (W := r.W) hKi (x := .v 24) p2
  have hd2 : (SV.pa (.rd (.v 1) ix) (.v 24)).den E β = .pointer (some ⟨(E.a 1 K).toNat, (E.i 24).toNat, none⟩) := by
    simp only [SV.den, d1, hB, if_true]; rfl
  rw [hd2]
  simp only [Instr.loadAt, Instr.sureAddr, Sem.run_bind, Sem.run_pure, Result.andThen_ok, loadVar, isAggT_ok ha]
  simp only [SE.den] at hix
  simp [hc', SV.den, SE.den, AE.den, hix]
theorem btNpAll_ok {fns : Fns} {T k kc f : Nat} {r : RecP} {kk : IntKind} (hR : RecOk fns k kc r) (hf : f < r.m) {ix : SE} {pre : Fx} (hix : IxOk r.m f ix pre) (hk : r.nk f = [.int kk, .int kk]) (ha : isAggT P T = some true) (hs : sizeT P T = some 2) : BtOk P fns (btNpAll T k ix pre r.W kk) := by
  intro E β w hE _ hw hF
  refine ⟨fun a ha => (by cases ha; intro q hq; cases hq), fun eval o xs hsel hxs => ?_⟩
  have hsel' : ∃ s, o.op = .load T s ∧ xs = [s] := by
    unfold btNpAll at hsel
    simp only at hsel
    split at hsel
    · rename_i t s ho
      split at hsel
      · rename_i htt
        subst htt
        cases hsel
        exact ⟨s, ho, rfl⟩
      · cases hsel
    · cases hsel
  obtain ⟨s, ho, rfl⟩ := hsel'
  simp only [btNpAll, List.map_cons, List.map_nil, SV.denL, List.cons.injEq, and_true] at hxs
  have hp : Facts E pre := fun q hq => hF q (List.mem_append_left _ hq)
  have p2 : 0 ≤ E.i 24 := of_decide_eq_true (hF (.le (.c 0) (.v 24), true) (by simp [btNpAll]))
  have p3 : (SE.mkAdd (.v 24) (.c 1)).den E < (SE.mkMul (.rd (.v 2) ix) (.c 2)).den E := of_decide_eq_true (hF (.lt (SE.mkAdd (.v 24) (.c 1)) (SE.mkMul (.rd (.v 2) ix) (.c 2)), true) (by simp [btNpAll]))
  rw [SE.den_mkMul, SE.den_mkAdd] at p3
  have p3' : E.i 24 + 1 < (SE.rd (.v 2) ix).den E * 2 := p3
  obtain ⟨K, ⟨hKi, hK⟩, hh⟩ := np_addr hR hf hE hw hix hp hk
  obtain ⟨hB, d1, d2, d3, hc⟩ := hh (by omega)
  rw [d2] at p3'
  have hc0 := hc (E.i 24).toNat (by omega)
  have hc1 := hc ((E.i 24).toNat + 1) (by omega)
  refine bt_one (b := btNpAll T k ix pre r.W kk) rfl rfl rfl rfl rfl rfl hw ?_
  unfold execOp
  simp only [ho]
  refine val_run ?_
  rw [hxs]
  have hix0 := np_ix (W := r.W) hKi (x := .v 24) p2
  have e1 : (SE.mkAdd (.v 24) (.c 1)).den E = E.i 24 + 1 := by rw [SE.den_mkAdd]; rfl
  have hix1 := np_ix (W := r.W) hKi (x := SE.mkAdd (.v 24) (.c 1)) (by rw [e1]; omega)
  rw [e1, show (E.i 24 + 1).toNat = (E.i 24).toNat + 1 by omega] at hix1
  have hd2 : (SV.pa (.rd (.v 1) ix) (.v 24)).den E β = .pointer (some ⟨(E.a 1 K).toNat, (E.i 24).toNat, none⟩) := by
    simp only [SV.den, d1, hB, if_true]; rfl
  rw [hd2]
  simp only [Instr.loadAt, Instr.sureAddr, Sem.run_bind, Sem.run_pure, Result.andThen_ok, loadVar, isAggT_ok ha, if_true, sizeT_ok hs]
  have v0 : (SE.rd (.v 4) (SE.mkAdd (SE.mkMul ix (.c (r.W : Nat))) (.v 24))).den E = E.a 4 (K * r.W + (E.i 24).toNat) := by
    show (AE.v 4).den E _ = _
    rw [hix0]; simp only [AE.den]; rfl
  have v1 : (SE.rd (.v 4) (SE.mkAdd (SE.mkMul ix (.c (r.W : Nat))) (SE.mkAdd (.v 24) (.c 1)))).den E = E.a 4 (K * r.W + ((E.i 24).toNat + 1)) := by
    show (AE.v 4).den E _ = _
    rw [hix1]; simp only [AE.den]
  have := loadCells_ok (P := P) (w := w) ⟨(E.a 1 K).toNat, (E.i 24).toNat, none⟩ [.int kk (E.a 4 (K * r.W + (E.i 24).toNat)), .int kk (E.a 4 (K * r.W + ((E.i 24).toNat + 1)))] (fun j u hj => by
    rw [addr_add]
    match j, hj with
    | 0, hj => cases hj; exact hc0
    | 1, hj => cases hj; exact hc1)
  simp only [List.length_cons, List.length_nil, Nat.zero_add, Nat.reduceAdd] at this
  rw [this]
  simp only [SV.den, SV.denL, v0, v1, Result.andThen_ok]
end Go.Sy
