/- Rows of records: their length, addresses of records, loads of fields and of whole records. -/
import Derived.Test.YtgianhjmjiiadaaSyRc
set_option autoImplicit true
set_option relaxedAutoImplicit true
set_option linter.unusedVariables false
set_option linter.unusedSimpArgs false
namespace Go.Sy
open Go
variable {E E2 : Env} {β : Nat → Bk} {P : Program} {w : World}
def btRecLen (TS k : Nat) : Bt where
  sel op := match op with
    | .call { callee := .builtin .len, args := ⟨[s]⟩, argTypes := ⟨[t]⟩ } => if t = TS then some [s] else none
    | _ => none
  rd := true
  ct := { g := 0, args := [.own 0], heap := [recV k], pre := [(.le (.c 0) (.v 0), true)], alts := [{ res := .int .i64 (.v 0), post := [recV k] }] }
def btRecIx (TS k : Nat) (r : RecP) : Bt where
  sel op := match op with
    | .indexAddr t x i => if t = TS then some [x, i] else none
    | _ => none
  rd := true
  ct := { g := 0, args := [.own 0, .int .i64 (.v 1)], heap := [recV k], pre := [(.le (.c 0) (.v 1), true), (.lt (.v 1) (.v 0), true)], alts := [{ res := .ptr 0 ⟨.v 1, r.S, 0⟩, post := [recV k] }] }
def RecP.ld (r : RecP) (c : Nat) : SV :=
  match r.idx c with
  | some f => .sa (.rd (.v 1) (.add (.mul (.v 1) (.c (r.m : Nat))) (.c (f : Nat)))) (.c 0) (.rd (.v 2) (.add (.mul (.v 1) (.c (r.m : Nat))) (.c (f : Nat)))) (.rd (.v 3) (.add (.mul (.v 1) (.c (r.m : Nat))) (.c (f : Nat))))
  | none => match r.ks.getD c default with
    | .int k => .int k (.rd (.v 0) (.add (.mul (.v 1) (.c (r.S : Nat))) (.c (c : Nat))))
    | .bool => .bool (.not (.eq (.rd (.v 0) (.add (.mul (.v 1) (.c (r.S : Nat))) (.c (c : Nat)))) (.c 0)))
    | .opq => .bool (.c true)
def btRecLd (T k : Nat) (r : RecP) (c : Nat) : Bt where
  sel op := match op with
    | .load t x => if t = T then some [x] else none
    | _ => none
  rd := true
  ct := { g := 0, args := [.ptr 0 ⟨.v 1, r.S, c⟩], heap := [recV k], pre := [(.le (.c 0) (.v 1), true), (.lt (.v 1) (.v 0), true)], alts := [{ res := r.ld c, post := [recV k] }] }
def btRecAll (k : Nat) (r : RecP) : Bt where
  sel op := match op with
    | .load t x => if t = r.T then some [x] else none
    | _ => none
  rd := true
  ct := { g := 0, args := [.ptr 0 ⟨.v 1, r.S, 0⟩], heap := [recV k], pre := [(.le (.c 0) (.v 1), true), (.lt (.v 1) (.v 0), true)], alts := [{ res := .agg ((List.range r.S).map r.ld), post := [recV k] }] }
theorem rec_of {fns : Fns} {k kc : Nat} {r : RecP} (hR : RecOk fns k kc r) (hE : E.fn = fns) (hw : HOk E β [recV k] w) : RecIs r (E.i 0).toNat (E.a 0) (E.a 1) (E.a 2) (E.a 3) (E.a 4) (β 0).v w := by
  have h : E.fn.p k ((SL.i (.v 0) (.a (.v 0) (.a (.v 1) (.a (.v 2) (.a (.v 3) (.a (.v 4) .nil)))))).den E) (β 0).a (β 0).v w := hw.ok 0 _ rfl
  rw [hE] at h
  have := (hR.p _ _ _ _ _ _ _ _ _).1 h
  have e : ∀ i, (AE.v i).den E = E.a i := fun i => by funext j; simp only [AE.den]
  rw [e, e, e, e, e] at this
  exact this
theorem rec_v {r : RecP} {n : Nat} {A B L K C : Nat → Int} {bk : Bk} (h : RecIs r n A B L K C bk.v w) : (bk.z = true ∧ n = 0 ∧ bk.v = .slice none 0 0) ∨ (bk.z = false ∧ bk.o = 0 ∧ bk.n = n ∧ bk.v = .slice (some ⟨bk.a, 0, none⟩) n bk.c) := by
  obtain ⟨q, h1, _⟩ := h
  rcases h1.2 with ⟨hv, hn⟩ | ⟨g, cap, cur, hv, _⟩
  · left
    cases hz : bk.z with
    | true => exact ⟨rfl, hn, hv⟩
    | false => simp [Bk.v, hz] at hv
  · right
    cases hz : bk.z with
    | true => simp [Bk.v, hz] at hv
    | false =>
      simp [Bk.v, hz] at hv
      obtain ⟨⟨e1, e2⟩, e3, e4⟩ := hv
      exact ⟨rfl, e2, e3, by simp [Bk.v, hz, e2, e3]⟩
theorem bt_one {E : Env} {β : Nat → Bk} {w : World} {b : Bt} {a : Alt} {v : Value} (hrd : b.rd = true) (ha : altSel E b.ct.alts = some a) (hnx : b.ct.nx = 0) (hxf : a.xf = []) (hpost : a.post = b.ct.heap) (hv : v = a.res.den E β) (hw : HOk E β b.ct.heap w) {eval : Operand → Value} {o : Oper}
    (hrun : (execOp eval o).run P w = .ok (.value v) w) :
    ∃ v w', ((execOp eval o).run P w = .ok (.value v) w' ∨ (b.rd = false ∧ (execOp eval o).run P w = .ok .skip w' ∧ v = undef)) ∧ (b.rd = true → w' = w) ∧ ctPost E β w b.ct (.returned v) w' :=
  ⟨v, w, .inl hrun, fun _ => rfl, ext_same E _ β w _ _ rfl ha hnx hxf hpost (by rw [hv]) hw⟩
theorem btRecLen_ok {fns : Fns} {TS k kc : Nat} {r : RecP} (hR : RecOk fns k kc r) {e : TypeId} (ht : P.underlying TS = some (.slice e)) : BtOk P fns (btRecLen TS k) := by
  intro E β w hE _ hw hF
  refine ⟨fun a ha => (by cases ha; intro q hq; cases hq), fun eval o xs hsel hxs => ?_⟩
  have hsel' : ∃ s, o.op = .call { callee := .builtin .len, args := #[s], argTypes := #[TS] } ∧ xs = [s] := by
    unfold btRecLen at hsel
    simp only at hsel
    split at hsel
    · rename_i s t ho
      split at hsel
      · rename_i htt
        subst htt
        cases hsel
        exact ⟨s, ho, rfl⟩
      · cases hsel
    · cases hsel
  obtain ⟨s, ho, rfl⟩ := hsel'
  simp only [btRecLen, List.map_cons, List.map_nil, SV.denL, List.cons.injEq, and_true] at hxs
  have p0 : 0 ≤ E.i 0 := of_decide_eq_true (hF (.le (.c 0) (.v 0), true) (by simp [btRecLen]))
  refine bt_one (b := btRecLen TS k) rfl rfl rfl rfl rfl rfl hw ?_
  unfold execOp
  simp only [ho, resolve, invoke, Sem.run_bind, Sem.run_pure, Result.andThen_ok, List.map_toArray, List.map_cons, List.map_nil, hxs, SV.den]
  rcases rec_v (rec_of hR hE hw) with ⟨_, h2, h3⟩ | ⟨_, _, _, h3⟩
  · rw [h3]
    simp [builtin, Builtin.len_, underlying, ht, goInt, SE.den]
    omega
  · rw [h3]
    simp [builtin, Builtin.len_, underlying, ht, goInt, SE.den]
    omega
theorem btRecIx_ok {fns : Fns} {TS k kc : Nat} {r : RecP} (hR : RecOk fns k kc r) (ht : P.underlying TS = some (.slice r.T)) (hs : sizeT P r.T = some r.S) : BtOk P fns (btRecIx TS k r) := by
  intro E β w hE _ hw hF
  refine ⟨fun a ha => (by cases ha; intro q hq; cases hq), fun eval o xs hsel hxs => ?_⟩
  have hsel' : ∃ s i, o.op = .indexAddr TS s i ∧ xs = [s, i] := by
    unfold btRecIx at hsel
    simp only at hsel
    split at hsel
    · rename_i t s i ho
      split at hsel
      · rename_i htt
        subst htt
        cases hsel
        exact ⟨s, i, ho, rfl⟩
      · cases hsel
    · cases hsel
  obtain ⟨s, ix, ho, rfl⟩ := hsel'
  simp only [btRecIx, List.map_cons, List.map_nil, SV.denL, List.cons.injEq, and_true] at hxs
  obtain ⟨e1, e2⟩ := hxs
  have p0 : 0 ≤ E.i 1 := of_decide_eq_true (hF (.le (.c 0) (.v 1), true) (by simp [btRecIx]))
  have p1 : E.i 1 < E.i 0 := of_decide_eq_true (hF (.lt (.v 1) (.v 0), true) (by simp [btRecIx]))
  refine bt_one (b := btRecIx TS k r) rfl rfl rfl rfl rfl rfl hw ?_
  unfold execOp
  simp only [ho]
  refine val_run ?_
  rw [e1, e2]
  rcases rec_v (rec_of hR hE hw) with ⟨_, h2, h3⟩ | ⟨h1, h2, h4, h3⟩
  · omega
  · simp only [SV.den]
    rw [h3]
    simp only [Instr.indexAt, SV.den, asIntOf, Sem.run_bind, Sem.run_pure, Result.andThen_ok, underlying, run_program, ht, SE.den]
    have hlt : E.i 1 < (((E.i 0).toNat : Nat) : Int) := by omega
    simp only [p0, hlt, and_self, if_true, Sem.run_bind, sizeT_ok hs, Result.andThen_ok, Sem.run_pure, addr_add, Off.den, Nat.zero_add, Nat.add_zero, h2, SE.den]
theorem rec_cell {r : RecP} (hg : r.good = true) {n : Nat} {A B L K C : Nat → Int} {bk : Bk} (h : RecIs r n A B L K C bk.v w) {i c : Nat} (hi : i < n) (hc : c < r.S) :
    w.cell? ⟨bk.a, bk.o + (i * r.S + c), none⟩ = some (match r.idx c with | some f => rawS (B (i * r.m + f)) (L (i * r.m + f)) (K (i * r.m + f)) | none => match r.ks.getD c default with | .int k => .int k (A (i * r.S + c)) | .bool => .bool (A (i * r.S + c) != 0) | .opq => .nilIface) := by
  rcases rec_v h with ⟨_, h2, _⟩ | ⟨h1, h2, h4, h3⟩
  · omega
  · obtain ⟨q, g1, g2⟩ := h
    rw [h3] at g1
    rcases g1.2 with ⟨hv, _⟩ | ⟨g, cap, cur, hv, _, hg2, _, _, hcs, hx⟩
    · cases hv
    · simp only [Value.slice.injEq, Option.some.injEq, Addr.mk.injEq] at hv
      obtain ⟨⟨e1, _⟩, _, _⟩ := hv
      have hlt : i * r.S + c < n * r.S := mul_lt hi hc
      have hcur : (cur.toList.take (n * r.S))[i * r.S + c]? = ((List.range (n * r.S)).map fun j => (r.ks.getD (j % r.S) default).val (A j) (q j))[i * r.S + c]? := by rw [hx]
      rw [List.getElem?_take_of_lt hlt, List.getElem?_map, range_idx hlt, Option.map_some] at hcur
      simp only [World.cell?, h2, Nat.zero_add, e1, hg2]
      rw [← Array.getElem?_toList, hcur]
      have hmod : (i * r.S + c) % r.S = c := by rw [Nat.mul_comm, Nat.mul_add_mod, Nat.mod_eq_of_lt hc]
      rw [hmod]
      simp only [Option.isSome_none, Bool.false_eq_true, if_false]
      congr 1
      cases hidx : r.idx c with
      | some f =>
        obtain ⟨a1, a2⟩ := RecP.idx_some hidx
        have := (RecP.good_f hg a1).2.2.1
        rw [a2] at this
        rw [this]
        simp only [SK.val]
        have h5 := (g2 i f hi a1).1
        rw [a2] at h5
        exact h5
      | none =>
        have := RecP.good_j hg hc hidx
        cases hk : r.ks.getD c default with
        | int kk => rfl
        | bool => rfl
        | opq => rw [hk] at this; cases this
theorem rec_ld {fns : Fns} {k kc : Nat} {r : RecP} (hR : RecOk fns k kc r) (hE : E.fn = fns) (hw : HOk E β [recV k] w) (p0 : 0 ≤ E.i 1) (p1 : E.i 1 < E.i 0) {c : Nat} (hc : c < r.S) :
    w.cell? ⟨(β 0).a, (β 0).o + ((E.i 1).toNat * r.S + c), none⟩ = some ((r.ld c).den E β) := by
  rw [rec_cell hR.good (rec_of hR hE hw) (i := (E.i 1).toNat) (by omega) hc]
  obtain ⟨y, hy⟩ := Int.eq_ofNat_of_zero_le p0
  have e1 : ∀ a b : Nat, (E.i 1 * (a : Int) + (b : Int)).toNat = (E.i 1).toNat * a + b := fun a b => by
    rw [hy, Int.toNat_natCast, ← Int.natCast_mul, ← Int.natCast_add, Int.toNat_natCast]
  congr 1
  unfold RecP.ld
  cases hidx : r.idx c with
  | some f =>
    simp only [SV.den, rawS, SE.den, AE.den, e1, Int.toNat_zero]
  | none =>
    cases hk : r.ks.getD c default with
    | int kk => simp only [SV.den, SE.den, AE.den, e1]
    | bool =>
      simp only [SV.den, SB.den, SE.den, AE.den, e1]
      by_cases h : E.a 0 ((E.i 1).toNat * r.S + c) = 0 <;> simp [h, bne]
    | opq =>
      have := RecP.good_j hR.good hc hidx
      rw [hk] at this; cases this
theorem btRecLd_ok {fns : Fns} {T k kc : Nat} {r : RecP} {c : Nat} (hR : RecOk fns k kc r) (hc : c < r.S) (ha : isAggT P T = some false) : BtOk P fns (btRecLd T k r c) := by
  intro E β w hE _ hw hF
  refine ⟨fun a ha => (by cases ha; intro q hq; cases hq), fun eval o xs hsel hxs => ?_⟩
  have hsel' : ∃ s, o.op = .load T s ∧ xs = [s] := by
    unfold btRecLd at hsel
    simp only at hsel
    split at hsel
    · rename_i t s ho
      split at hsel
      · rename_i htt
        subst htt
        cases hsel
        exact ⟨s, ho, rfl⟩
      · cases hsel
    · cases hsel
  obtain ⟨s, ho, rfl⟩ := hsel'
  simp only [btRecLd, List.map_cons, List.map_nil, SV.denL, List.cons.injEq, and_true] at hxs
  have p0 : 0 ≤ E.i 1 := of_decide_eq_true (hF (.le (.c 0) (.v 1), true) (by simp [btRecLd]))
  have p1 : E.i 1 < E.i 0 := of_decide_eq_true (hF (.lt (.v 1) (.v 0), true) (by simp [btRecLd]))
  have hcell := rec_ld hR hE hw p0 p1 hc
  refine bt_one (b := btRecLd T k r c) rfl rfl rfl rfl rfl rfl hw ?_
  unfold execOp
  simp only [ho]
  refine val_run ?_
  rw [hxs]
  simp only [Instr.loadAt, SV.den, Instr.sureAddr, Sem.run_bind, Sem.run_pure, Result.andThen_ok, loadVar, isAggT_ok ha, Off.den, SE.den]
  simp [hcell]
theorem btRecAll_ok {fns : Fns} {k kc : Nat} {r : RecP} (hR : RecOk fns k kc r) (ha : isAggT P r.T = some true) (hs : sizeT P r.T = some r.S) : BtOk P fns (btRecAll k r) := by
  intro E β w hE _ hw hF
  refine ⟨fun a ha => (by cases ha; intro q hq; cases hq), fun eval o xs hsel hxs => ?_⟩
  have hsel' : ∃ s, o.op = .load r.T s ∧ xs = [s] := by
    unfold btRecAll at hsel
    simp only at hsel
    split at hsel
    · rename_i t s ho
      split at hsel
      · rename_i htt
        subst htt
        cases hsel
        exact ⟨s, ho, rfl⟩
      · cases hsel
    · cases hsel
  obtain ⟨s, ho, rfl⟩ := hsel'
  simp only [btRecAll, List.map_cons, List.map_nil, SV.denL, List.cons.injEq, and_true] at hxs
  have p0 : 0 ≤ E.i 1 := of_decide_eq_true (hF (.le (.c 0) (.v 1), true) (by simp [btRecAll]))
  have p1 : E.i 1 < E.i 0 := of_decide_eq_true (hF (.lt (.v 1) (.v 0), true) (by simp [btRecAll]))
  refine bt_one (b := btRecAll k r) rfl rfl rfl rfl rfl rfl hw ?_
  unfold execOp
  simp only [ho]
  refine val_run ?_
  rw [hxs]
  simp only [Instr.loadAt, SV.den, Instr.sureAddr, Sem.run_bind, Sem.run_pure, Result.andThen_ok, loadVar, isAggT_ok ha, if_true, sizeT_ok hs, Off.den, SE.den]
  have hl : (SV.denL E β ((List.range r.S).map r.ld)).length = r.S := by rw [denL_length]; simp
  have := loadCells_ok (P := P) (w := w) ⟨(β 0).a, (β 0).o + ((E.i 1).toNat * r.S + 0), none⟩ (SV.denL E β ((List.range r.S).map r.ld)) (fun j u hj => by
    have hjn : j < r.S := by
      have := (List.getElem?_eq_some_iff.1 hj).1
      rw [hl] at this; exact this
    rw [SV.denL_map, List.getElem?_map, List.getElem?_map, range_idx hjn] at hj
    simp only [Option.map_some, Option.some.injEq] at hj
    rw [addr_add, Nat.add_zero, Nat.add_assoc, rec_ld hR hE hw p0 p1 hjn, hj])
  rw [hl] at this
  rw [this]
  rfl
end Go.Sy
