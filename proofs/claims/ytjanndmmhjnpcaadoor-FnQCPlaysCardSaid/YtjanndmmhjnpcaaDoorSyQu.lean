/- Queues: slices of the call's own that may begin anywhere in their block; each entry is told by one number (and one that they all share). Rules: length, addresses, loads, appending one, leaving out the first one, making an empty one. -/
import Derived.Test.YtjanndmmhjnpcaaDoorSyRd
import Derived.Deep.Upon
import Derived.Laws.MakeOwn
set_option autoImplicit true
set_option relaxedAutoImplicit true
set_option linter.unusedVariables false
set_option linter.unusedSimpArgs false
namespace Go.Sy
open Go
variable {E E2 : Env} {β : Nat → Bk} {P : Program} {w : World}
structure QuP where
  T : TypeId
  S : Nat
  ent : SE → SE → List SV
  ks : List SK
  entP : List SV
  preP : Fx
def QuP.blk (q : QuP) : SBlk := .row (.v 7) q.ks (.c 0) q.entP q.T
def E00 : Env := { i := fun _ => 0, b := fun _ => false, a := fun _ _ => 0, o := fun _ => .nilIface, fn := { f := fun k l => fbase k l, g := fun k l => gbase k l, a := fun _ _ _ => 0, fb := fun _ _ _ => rfl, gb := fun _ _ _ => rfl } }
def QuP.val (q : QuP) (s l : Int) : List Value := SV.denL E00 (fun _ => nilBk) (q.ent (.c s) (.c l))
structure QuGood (q : QuP) : Prop where
  S0 : 0 < q.S
  ksl : q.ks.length = q.S
  epl : q.entP.length = q.S
  len : ∀ s l, (q.ent s l).length = q.S
  cell : ∀ s l, ∀ u ∈ q.ent s l, u.isCell = true
  ext : ∀ (E E' : Env) (β β' : Nat → Bk) (s s' l l' : SE), s.den E = s'.den E' → l.den E = l'.den E' → SV.denL E β (q.ent s l) = SV.denL E' β' (q.ent s' l')
  pat : ∀ (E : Env) (β : Nat → Bk), Facts E q.preP → SV.denL E β q.entP = SV.denL E β (q.ent (.v 1) (.v 9))
theorem QuGood.val_eq {q : QuP} (h : QuGood q) (E : Env) (β : Nat → Bk) (s l : SE) : SV.denL E β (q.ent s l) = q.val (s.den E) (l.den E) := h.ext _ _ _ _ _ _ _ _ rfl rfl
theorem QuGood.val_len {q : QuP} (h : QuGood q) (s l : Int) : (q.val s l).length = q.S := by unfold QuP.val; rw [denL_length, h.len]
theorem QuGood.val_cell {q : QuP} (h : QuGood q) (s l : Int) : ∀ u ∈ q.val s l, u.oneCell' = true := fun u hu => by
  unfold QuP.val at hu
  rw [SV.denL_map] at hu
  obtain ⟨y, hy, rfl⟩ := List.mem_map.1 hu
  exact isCell_ok (h.cell _ _ y hy)
def QuAt (q : QuP) (w : World) (g off n c : Nat) (len : Int) (A : Nat → Int) : Prop :=
  n ≤ c ∧ c ≤ maxLen ∧ (w.heap[g]?).isSome = true ∧ (∀ j, j < c * q.S → (w.cell? ⟨g, off + j, none⟩).isSome = true ∧ w.frozen? ⟨g, off + j, none⟩ = false) ∧ ∀ i j, i < n → j < q.S → w.cell? ⟨g, off + (i * q.S + j), none⟩ = (q.val (A i) len)[j]?
def QuIs (q : QuP) (n : Nat) (len : Int) (A : Nat → Int) (v : Value) (w : World) : Prop :=
  (v = .slice none 0 0 ∧ n = 0) ∨ ∃ g off c, v = .slice (some ⟨g, off, none⟩) n c ∧ QuAt q w g off n c len A
theorem QuAt.frame {q : QuP} {w w' : World} {g off n c : Nat} {len : Int} {A : Nat → Int} (h : QuAt q w g off n c len A) (hs : w'.heap[g]? = w.heap[g]?) : QuAt q w' g off n c len A := by
  obtain ⟨h1, h2, h3, h4, h5⟩ := h
  refine ⟨h1, h2, by rw [hs]; exact h3, fun j hj => ?_, fun i j hi hj => ?_⟩
  · rw [World.cell?_of_block (a := ⟨g, off + j, none⟩) hs, World.frozen?_of_block (a := ⟨g, off + j, none⟩) hs]; exact h4 j hj
  · rw [World.cell?_of_block (a := ⟨g, off + (i * q.S + j), none⟩) hs]; exact h5 i j hi hj
theorem QuIs.frame {q : QuP} {n : Nat} {len : Int} {A : Nat → Int} {v : Value} {w w' : World} (h : QuIs q n len A v w) (hs : ∀ x, v.ownBlock = some x → w'.heap[x]? = w.heap[x]?) : QuIs q n len A v w' := by
  rcases h with h | ⟨g, off, c, rfl, h⟩
  · exact .inl h
  · exact .inr ⟨g, off, c, rfl, h.frame (hs g rfl)⟩
structure QuOk (fns : Fns) (k : Nat) (q : QuP) : Prop where
  p : ∀ n l A a v w, fns.p k [.i n, .i l, .a A] a v w ↔ QuIs q n.toNat l A v w
  ft : ∀ n l A a v x, fns.ft k [.i n, .i l, .a A] a v x ↔ v.ownBlock = some x
  good : QuGood q
def quB (k : Nat) (n l : SE) (A : AE) : SBlk := .pr k (.i n (.i l (.a A .nil)))
def quV (k : Nat) : SBlk := quB k (.v 0) (.v 9) (.v 0)
theorem qu_of {fns : Fns} {k : Nat} {q : QuP} (hR : QuOk fns k q) (hE : E.fn = fns) {h : List SBlk} (hw : HOk E β h w) (h0 : h[0]? = some (quV k)) : QuIs q (E.i 0).toNat (E.i 9) (E.a 0) (β 0).v w := by
  have h : E.fn.p k ((SL.i (.v 0) (.i (.v 9) (.a (.v 0) .nil))).den E) (β 0).a (β 0).v w := hw.ok 0 _ h0
  rw [hE] at h
  have := (hR.p _ _ _ _ _ _).1 h
  have e : (AE.v 0).den E = E.a 0 := by funext j; simp only [AE.den]
  rw [e] at this
  exact this
theorem qu_v {q : QuP} {n : Nat} {len : Int} {A : Nat → Int} {bk : Bk} (h : QuIs q n len A bk.v w) : (bk.z = true ∧ n = 0 ∧ bk.v = .slice none 0 0) ∨ (bk.z = false ∧ bk.n = n ∧ bk.v = .slice (some ⟨bk.a, bk.o, none⟩) n bk.c ∧ QuAt q w bk.a bk.o n bk.c len A) := by
  rcases h with ⟨hv, hn⟩ | ⟨g, off, c, hv, h⟩
  · left
    cases hz : bk.z with
    | true => exact ⟨rfl, hn, hv⟩
    | false => simp [Bk.v, hz] at hv
  · right
    cases hz : bk.z with
    | true => simp [Bk.v, hz] at hv
    | false =>
      simp [Bk.v, hz] at hv
      obtain ⟨⟨e1, e2⟩, e3, e4⟩ := hv
      subst e1; subst e2; subst e4
      exact ⟨rfl, e3, by simp [Bk.v, hz, e3], h⟩
def btQuLen (TS k : Nat) : Bt where
  sel op := match op with
    | .call { callee := .builtin .len, args := ⟨[s]⟩, argTypes := ⟨[t]⟩ } => if t = TS then some [s] else none
    | _ => none
  rd := true
  ct := { g := 0, args := [.own 0], heap := [quV k], pre := [(.le (.c 0) (.v 0), true)], alts := [{ res := .int .i64 (.v 0), post := [quV k] }] }
def btQuIx (TS k : Nat) (q : QuP) : Bt where
  sel op := match op with
    | .indexAddr t x i => if t = TS then some [x, i] else none
    | _ => none
  rd := true
  ct := { g := 0, args := [.own 0, .int .i64 (.v 1)], heap := [quV k], pre := [(.le (.c 0) (.v 1), true), (.lt (.v 1) (.v 0), true)], alts := [{ res := .ptr 0 ⟨.v 1, q.S, 0⟩, post := [quV k] }] }
def btQuLd (T k : Nat) (q : QuP) (res : SV) : Bt where
  sel op := match op with
    | .load t x => if t = T then some [x] else none
    | _ => none
  rd := true
  ct := { g := 0, args := [.ptr 0 ⟨.v 1, q.S, 0⟩], heap := [quV k], pre := [(.le (.c 0) (.v 1), true), (.lt (.v 1) (.v 0), true)], alts := [{ res := res, post := [quV k] }] }
def btQuApp (TS k : Nat) (q : QuP) : Bt where
  sel op := match op with
    | .call { callee := .builtin .append, args := ⟨[s, x]⟩, argTypes := ⟨[t, t']⟩ } => if t = TS ∧ t' = TS then some [s, x] else none
    | _ => none
  ct := { g := 0, args := [.own 0, .own 1], heap := [quV k, q.blk], pre := [(.le (.c 0) (.v 0), true), (.le (.v 0) (.c 100000), true)] ++ q.preP,
          alts := [{ res := .own 2, post := [.dead, q.blk, quB k (.add (.v 0) (.c 1)) (.v 9) (.tl (.v 0) (.v 0) (.i (.v 1) .nil))] }] }
def btQuTail (TS k : Nat) : Bt where
  sel op := match op with
    | .slice t x (some l) none none => if t = TS then some [x, l] else none
    | _ => none
  ct := { g := 0, args := [.own 0, .int .i64 (.c 1)], heap := [quV k], pre := [(.le (.c 1) (.v 0), true)], alts := [{ res := .own 1, post := [.dead, quB k (.sub (.v 0) (.c 1)) (.v 9) (.dr (.v 0) (.c 1))] }] }
def btQuMake (TS k : Nat) : Bt where
  sel op := match op with
    | .makeSlice t l c => if t = TS then some [l, c] else none
    | _ => none
  ct := { g := 0, args := [.int .i64 (.c 0), .int .i64 (.c 4)], heap := [], alts := [{ res := .own 0, post := [quB k (.c 0) (.v 9) AE.z] }] }
theorem btQuLen_ok {fns : Fns} {TS k : Nat} {q : QuP} (hR : QuOk fns k q) {e : TypeId} (ht : P.underlying TS = some (.slice e)) : BtOk P fns (btQuLen TS k) := by
  intro E β w hE _ hw hF
  refine ⟨fun a ha => (by cases ha; intro q hq; cases hq), fun eval o xs hsel hxs => ?_⟩
  have hsel' : ∃ s, o.op = .call { callee := .builtin .len, args := #[s], argTypes := #[TS] } ∧ xs = [s] := by
    unfold btQuLen at hsel
    simp only at hsel
    split at hsel
    · rename_i s t ho
      split at hsel
      · rename_i htt
        subst htt
        cases hsel
        exact ⟨s, ho, rfl⟩
      · cases hsel
    · cases hsel
  obtain ⟨s, ho, rfl⟩ := hsel'
  simp only [btQuLen, List.map_cons, List.map_nil, SV.denL, List.cons.injEq, and_true] at hxs
  have p0 : 0 ≤ E.i 0 := of_decide_eq_true (hF (.le (.c 0) (.v 0), true) (by simp [btQuLen]))
  refine bt_one (b := btQuLen TS k) rfl rfl rfl rfl rfl rfl hw ?_
  unfold execOp
  simp only [ho, resolve, invoke, Sem.run_bind, Sem.run_pure, Result.andThen_ok, List.map_toArray, List.map_cons, List.map_nil, hxs, SV.den]
  rcases qu_v (qu_of hR hE hw rfl) with ⟨_, h2, h3⟩ | ⟨_, _, h3, _⟩
  · rw [h3]
    simp [builtin, Builtin.len_, underlying, ht, goInt, SE.den]
    omega
  · rw [h3]
    simp [builtin, Builtin.len_, underlying, ht, goInt, SE.den]
    omega
theorem btQuIx_ok {fns : Fns} {TS k : Nat} {q : QuP} (hR : QuOk fns k q) (ht : P.underlying TS = some (.slice q.T)) (hs : sizeT P q.T = some q.S) : BtOk P fns (btQuIx TS k q) := by
  intro E β w hE _ hw hF
  refine ⟨fun a ha => (by cases ha; intro q hq; cases hq), fun eval o xs hsel hxs => ?_⟩
  have hsel' : ∃ s i, o.op = .indexAddr TS s i ∧ xs = [s, i] := by
    unfold btQuIx at hsel
    simp only at hsel
    split at hsel
    · rename_i t s i ho
      split at hsel
      · rename_i htt
        subst htt
        cases hsel
        exact ⟨s, i, ho, rfl⟩
      · cases hsel
    · cases hsel
  obtain ⟨s, ix, ho, rfl⟩ := hsel'
  simp only [btQuIx, List.map_cons, List.map_nil, SV.denL, List.cons.injEq, and_true] at hxs
  obtain ⟨e1, e2⟩ := hxs
  have p0 : 0 ≤ E.i 1 := of_decide_eq_true (hF (.le (.c 0) (.v 1), true) (by simp [btQuIx]))
  have p1 : E.i 1 < E.i 0 := of_decide_eq_true (hF (.lt (.v 1) (.v 0), true) (by simp [btQuIx]))
  refine bt_one (b := btQuIx TS k q) rfl rfl rfl rfl rfl rfl hw ?_
  unfold execOp
  simp only [ho]
  refine val_run ?_
  rw [e1, e2]
  rcases qu_v (qu_of hR hE hw rfl) with ⟨_, h2, h3⟩ | ⟨h1, h4, h3, _⟩
  · omega
  · simp only [SV.den]
    rw [h3]
    simp only [Instr.indexAt, SV.den, asIntOf, Sem.run_bind, Sem.run_pure, Result.andThen_ok, underlying, run_program, ht, SE.den]
    have hlt : E.i 1 < (((E.i 0).toNat : Nat) : Int) := by omega
    simp only [p0, hlt, and_self, if_true, Sem.run_bind, sizeT_ok hs, Result.andThen_ok, Sem.run_pure, addr_add, Off.den, Nat.add_zero, SE.den]
theorem btQuLd_ok {fns : Fns} {T k : Nat} {q : QuP} {res : SV} (hR : QuOk fns k q) (h : (isAggT P T = some false ∧ ∀ E β, res.den E β = (SV.denL E β (q.ent (.rd (.v 0) (.v 1)) (.v 9))).getD 0 .nilIface) ∨ (isAggT P T = some true ∧ sizeT P T = some q.S ∧ ∀ E β, res.den E β = .agg (SV.denL E β (q.ent (.rd (.v 0) (.v 1)) (.v 9))).toArray)) : BtOk P fns (btQuLd T k q res) := by
  intro E β w hE _ hw hF
  refine ⟨fun a ha => (by cases ha; intro q hq; cases hq), fun eval o xs hsel hxs => ?_⟩
  have hsel' : ∃ s, o.op = .load T s ∧ xs = [s] := by
    unfold btQuLd at hsel
    simp only at hsel
    split at hsel
    · rename_i t s ho
      split at hsel
      · rename_i htt
        subst htt
        cases hsel
        exact ⟨s, ho, rfl⟩
      · cases hsel
    · cases hsel
  obtain ⟨s, ho, rfl⟩ := hsel'
  simp only [btQuLd, List.map_cons, List.map_nil, SV.denL, List.cons.injEq, and_true] at hxs
  have p0 : 0 ≤ E.i 1 := of_decide_eq_true (hF (.le (.c 0) (.v 1), true) (by simp [btQuLd]))
  have p1 : E.i 1 < E.i 0 := of_decide_eq_true (hF (.lt (.v 1) (.v 0), true) (by simp [btQuLd]))
  refine bt_one (b := btQuLd T k q res) rfl rfl rfl rfl rfl rfl hw ?_
  unfold execOp
  simp only [ho]
  refine val_run ?_
  rw [hxs]
  have hlen := hR.good.val_len (E.a 0 (E.i 1).toNat) (E.i 9)
  have hcell : ∀ j, j < q.S → w.cell? ⟨(β 0).a, (β 0).o + ((E.i 1).toNat * q.S + j), none⟩ = (q.val (E.a 0 (E.i 1).toNat) (E.i 9))[j]? := fun j hj => by
    rcases qu_v (qu_of hR hE hw rfl) with ⟨_, h2, h3⟩ | ⟨_, _, _, h4⟩
    · omega
    · exact h4.2.2.2.2 (E.i 1).toNat j (by omega) hj
  have hval : SV.denL E β (q.ent (.rd (.v 0) (.v 1)) (.v 9)) = q.val (E.a 0 (E.i 1).toNat) (E.i 9) := by
    rw [hR.good.val_eq]; rfl
  rcases h with ⟨ha, hres⟩ | ⟨ha, hs, hres⟩
  · simp only [Instr.loadAt, SV.den, Instr.sureAddr, Sem.run_bind, Sem.run_pure, Result.andThen_ok, loadVar, isAggT_ok ha, Off.den, SE.den]
    have h0 := hcell 0 hR.good.S0
    have hlt : 0 < (q.val (E.a 0 (E.i 1).toNat) (E.i 9)).length := by rw [hlen]; exact hR.good.S0
    rw [List.getElem?_eq_getElem hlt] at h0
    rw [hres, hval, List.getD_eq_getElem?_getD, List.getElem?_eq_getElem hlt]
    simp only [Nat.add_zero] at h0 ⊢
    simp [h0]
  · simp only [Instr.loadAt, SV.den, Instr.sureAddr, Sem.run_bind, Sem.run_pure, Result.andThen_ok, loadVar, isAggT_ok ha, if_true, sizeT_ok hs, Off.den, SE.den]
    have := loadCells_ok (P := P) (w := w) ⟨(β 0).a, (β 0).o + ((E.i 1).toNat * q.S + 0), none⟩ (q.val (E.a 0 (E.i 1).toNat) (E.i 9)) (fun j u hj => by
      have hjn : j < q.S := by rw [← hlen]; exact (List.getElem?_eq_some_iff.1 hj).1
      rw [addr_add, Nat.add_zero, Nat.add_assoc, hcell j hjn, hj])
    rw [hlen] at this
    rw [this, hres, hval]
    rfl
theorem cellv_off {S i j n : Nat} (hS : 0 < S) (hj : j < S) : (i * S + j) / S = i ∧ (i * S + j) % S = j := by
  constructor
  · rw [Nat.mul_comm, Nat.mul_add_div hS, Nat.div_eq_of_lt hj, Nat.add_zero]
  · rw [Nat.mul_comm, Nat.mul_add_mod, Nat.mod_eq_of_lt hj]
theorem QuAt.of_owns {q : QuP} {w : World} {base g n cap : Nat} {len : Int} {A : Nat → Int} {xs : List Value} (h : w.ownsRow base q.T q.S (.slice (some ⟨g, 0, none⟩) n cap) n xs) (hx : ∀ i j, i < n → j < q.S → xs[i * q.S + j]? = (q.val (A i) len)[j]?) : QuAt q w g 0 n cap len A := by
  rcases h.2 with ⟨hv, _⟩ | ⟨g', cap', cur, hv, _, hg, hc, hm, hs, hc2⟩
  · cases hv
  · simp only [Value.slice.injEq, Option.some.injEq, Addr.mk.injEq] at hv
    obtain ⟨⟨rfl, _⟩, _, rfl⟩ := hv
    refine ⟨hc, hm, by rw [hg]; rfl, fun j hj => ?_, fun i j hi hj => ?_⟩
    · simp only [World.cell?, World.frozen?, hg, Nat.zero_add]
      refine ⟨?_, by simp⟩
      simp only [Option.isSome_none, Bool.false_eq_true, if_false]
      rw [Array.getElem?_eq_getElem (by omega)]; rfl
    · have hlt : i * q.S + j < n * q.S := mul_lt hi hj
      have := hx i j hi hj
      rw [← hc2, List.getElem?_take_of_lt hlt, Array.getElem?_toList] at this
      simp only [World.cell?, hg, Nat.zero_add, Option.isSome_none, Bool.false_eq_true, if_false]
      exact this
theorem setCells_size (b : Nat) : ∀ (vs : List Value) (o : Nat) (w : World), (w.setCells b o vs).heap.size = w.heap.size
  | [], _, _ => rfl
  | v :: r, o, w => by rw [World.setCells, setCells_size b r]; simp [World.setCell]
theorem setCells_some (b : Nat) (vs : List Value) (o : Nat) (w : World) (h : ∀ j, j < vs.length → (w.cell? ⟨b, o + j, none⟩).isSome = true) (k : Nat) (hk : (w.cell? ⟨b, k, none⟩).isSome = true) : ((w.setCells b o vs).cell? ⟨b, k, none⟩).isSome = true := by
  by_cases hin : o ≤ k ∧ k < o + vs.length
  · have := World.cell?_setCells_in b vs o w h (k - o) (by omega)
    rw [show o + (k - o) = k by omega] at this
    rw [this]; rfl
  · rw [World.cell?_setCells_out b vs o w ⟨b, k, none⟩ (fun _ _ => by show k < o ∨ o + vs.length ≤ k; omega)]
    exact hk
theorem setCells_has (b : Nat) (vs : List Value) (o : Nat) (w : World) (h : (w.heap[b]?).isSome = true) : ((w.setCells b o vs).heap[b]?).isSome = true := by
  cases hh : w.heap[b]? with
  | none => rw [hh] at h; cases h
  | some x =>
    have := (Array.getElem?_eq_some_iff.1 hh).1
    rw [Array.getElem?_eq_getElem (by rw [setCells_size]; exact this)]; rfl
theorem tape_setCells (b : Nat) : ∀ (vs : List Value) (o : Nat) (w : World), (w.setCells b o vs).tape = w.tape
  | [], _, _ => rfl
  | v :: r, o, w => by rw [World.setCells, tape_setCells b r]; rfl
theorem qu_append {q : QuP} (hq : QuGood q) {t ty : TypeId} {i : TypeInfo} {z : Value} (ht : P.underlying t = some (.slice q.T)) (hi : P.info? q.T = some i) (hz : i.zero = some z) (hzs : z.cells.size = i.size) (his : i.size = q.S)
    {n : Nat} {len : Int} {A : Nat → Int} {v : Value} (hv : QuIs q n len A v w) (ad : Addr) (m c : Nat) (X : Nat → Int) (news : List Value) (hl : news.length = m * q.S) (hnews : ∀ j u, news[j]? = some u → w.cell? (ad.add j) = some u) (h1 : ∀ u ∈ news, u.oneCell' = true)
    (hX : ∀ i' j, i' < m → j < q.S → news[i' * q.S + j]? = (q.val (X i') len)[j]?) (h63 : n + m ≤ maxLen) (hbytes : (n + m) * i.bytes ≤ 140737488355328) (hm : 0 < m) :
    ∃ w' g off c', (Builtin.append_ #[t, t] ty #[v, .slice (some ad) m c]).run P w = .ok (.slice (some ⟨g, off, none⟩) (n + m) c') w' ∧ QuAt q w' g off (n + m) c' len (fun i' => if i' < n then A i' else X (i' - n)) ∧ w.grownBy w' v.ownBlock ∧ (w.heap.size ≤ g ∨ v.ownBlock = some g) ∧ g < w'.heap.size := by
  have hS := hq.S0
  have hlA : ∀ s, (q.val s len).length = q.S := fun s => hq.val_len s len
  have grow : ∀ (v' : Value) (w' : World) (olds : List Value), olds.length = n * q.S → (∀ i' j, i' < n → j < q.S → olds[i' * q.S + j]? = (q.val (A i') len)[j]?) → (Builtin.append_ #[t, t] ty #[v, .slice (some ad) m c]).run P w = .ok v' w' → w'.ownsRow w.heap.size q.T q.S v' (n + m) (olds ++ news) → w.grownBy w' none →
      ∃ w' g off c', (Builtin.append_ #[t, t] ty #[v, .slice (some ad) m c]).run P w = .ok (.slice (some ⟨g, off, none⟩) (n + m) c') w' ∧ QuAt q w' g off (n + m) c' len (fun i' => if i' < n then A i' else X (i' - n)) ∧ w.grownBy w' v.ownBlock ∧ (w.heap.size ≤ g ∨ v.ownBlock = some g) ∧ g < w'.heap.size := by
    intro v' w' olds ho1 ho2 r1 r2 r3
    obtain ⟨g, cap, rfl⟩ : ∃ g cap, v' = .slice (some ⟨g, 0, none⟩) (n + m) cap := by
      rcases r2.2 with ⟨_, h⟩ | ⟨g, cap, cur, h, _⟩
      · omega
      · exact ⟨g, cap, h⟩
    refine ⟨w', g, 0, cap, r1, QuAt.of_owns r2 fun i' j hi' hj => ?_, ⟨r3.os, r3.tape, r3.output, r3.size, fun k hk hne => r3.block k hk (by simp)⟩, .inl (r2.lt g rfl).1, (r2.lt g rfl).2⟩
    by_cases hin : i' < n
    · have hlt : i' * q.S + j < n * q.S := mul_lt hin hj
      rw [List.getElem?_append_left (by rw [ho1]; exact hlt), if_pos hin]; exact ho2 i' j hin hj
    · have hge : n * q.S ≤ i' * q.S := Nat.mul_le_mul_right _ (by omega)
      rw [List.getElem?_append_right (by rw [ho1]; omega), if_neg hin, ho1]
      have : i' * q.S + j - n * q.S = (i' - n) * q.S + j := by rw [Nat.sub_mul]; omega
      rw [this]; exact hX _ _ (by omega) hj
  rcases hv with ⟨rfl, rfl⟩ | ⟨g, off, cap, rfl, hat⟩
  · obtain ⟨v', w', r1, r2, r3, _⟩ := run_append_own (P := P) w w.heap.size t ty q.T i z i.size i.bytes ht hi hz rfl rfl hzs (by rw [his]; exact hS) (.slice none 0 0) 0 [] (World.ownsRow_nil w _ q.T i.size) ad m c news (by rw [his]; exact hl) hnews h1 h63 hbytes (Nat.le_refl _)
    rw [his] at r2
    exact grow v' w' [] (by simp) (fun i' j h => by omega) r1 r2 r3
  · obtain ⟨h1', h2', h3', h4', h5'⟩ := hat
    have hgl : g < w.heap.size := by
      rcases Nat.lt_or_ge g w.heap.size with h | h
      · exact h
      · rw [Array.getElem?_eq_none h] at h3'; cases h3'
    by_cases hroom : n + m ≤ cap
    · have hfit : n * q.S + m * q.S ≤ cap * q.S := by rw [← Nat.add_mul]; exact Nat.mul_le_mul_right _ hroom
      have hsome : ∀ j, j < news.length → (w.cell? ⟨g, off + n * q.S + j, none⟩).isSome = true := fun j hj => by rw [Nat.add_assoc]; exact (h4' _ (by omega)).1
      have r1 := run_append_room_cells (P := P) w t ty q.T i ht hi g off n cap ad m c news (by rw [his]; exact hl) hnews h1 hroom (fun j hj => by rw [his]; exact hsome j hj) (fun j hj => by rw [his, Nat.add_assoc]; exact (h4' _ (by omega)).2)
      rw [his] at r1
      refine ⟨_, g, off, cap, r1, ⟨hroom, h2', setCells_has _ _ _ _ h3', fun j hj => ⟨setCells_some g news _ w hsome _ (h4' j hj).1, by rw [World.frozen?_setCells]; exact (h4' j hj).2⟩, fun i' j hi' hj => ?_⟩, ?_, .inr rfl, by rw [setCells_size]; exact hgl⟩
      · by_cases hin : i' < n
        · have hlt : i' * q.S + j < n * q.S := mul_lt hin hj
          rw [World.cell?_setCells_out g news _ w _ (fun _ _ => by show off + (i' * q.S + j) < off + n * q.S ∨ _; left; omega), h5' i' j hin hj]
          simp only [if_pos hin]
        · have hge : n * q.S ≤ i' * q.S := Nat.mul_le_mul_right _ (by omega)
          have hlt2 : (i' - n) * q.S + j < m * q.S := mul_lt (by omega) hj
          have := World.cell?_setCells_in g news (off + n * q.S) w hsome ((i' - n) * q.S + j) (by rw [hl]; exact hlt2)
          have e : off + n * q.S + ((i' - n) * q.S + j) = off + (i' * q.S + j) := by rw [Nat.sub_mul]; omega
          rw [e] at this
          rw [this]
          simp only [if_neg hin]
          rw [← hX _ _ (by omega) hj, List.getElem?_eq_getElem (by rw [hl]; exact hlt2)]
      · refine ⟨World.os_setCells w g _ _, tape_setCells g _ _ w, World.output_setCells w g _ _, by rw [setCells_size]; exact Nat.le_refl _, fun k hk hne => ?_⟩
        exact World.heap_setCells_other w g _ _ hk (fun hh => hne (by rw [hh]; rfl))
    · obtain ⟨olds, ho⟩ : ∃ olds : List Value, olds = (List.range (n * q.S)).map fun j => (q.val (A (j / q.S)) len).getD (j % q.S) .nilIface := ⟨_, rfl⟩
      have hol : olds.length = n * q.S := by rw [ho]; simp
      have hoc : ∀ i' j, i' < n → j < q.S → olds[i' * q.S + j]? = (q.val (A i') len)[j]? := fun i' j hi' hj => by
        obtain ⟨e1, e2⟩ := cellv_off (i := i') (n := n) hS hj
        rw [ho, List.getElem?_map, range_idx (mul_lt hi' hj), Option.map_some, e1, e2, List.getD_eq_getElem?_getD, List.getElem?_eq_getElem (by rw [hlA]; exact hj)]; rfl
      obtain ⟨v', w', r1, r2, r3⟩ := run_append_arg_grows (P := P) w t ty q.T i z i.size i.bytes ht hi hz rfl rfl hzs (by rw [his]; exact hS) ⟨g, off, none⟩ n cap olds (by rw [his]; exact hol) (fun j u hj => by
        have hjl : j < n * q.S := by rw [← hol]; exact (List.getElem?_eq_some_iff.1 hj).1
        obtain ⟨i', j', rfl, hj'⟩ : ∃ i' j', j = i' * q.S + j' ∧ j' < q.S := ⟨j / q.S, j % q.S, by rw [Nat.mul_comm]; exact (Nat.div_add_mod j q.S).symm, Nat.mod_lt _ hS⟩
        have hi' : i' < n := by
          rcases Nat.lt_or_ge i' n with h | h
          · exact h
          · have := Nat.mul_le_mul_right q.S h; omega
        rw [addr_add, h5' i' j' hi' hj', ← hoc i' j' hi' hj']; exact hj) ad m c news (by rw [his]; exact hl) hnews (by omega) h63 hbytes
      rw [his] at r2
      exact grow v' w' olds hol hoc r1 r2 r3
theorem qu_entry {q : QuP} (hq : QuGood q) (hpre : Facts E q.preP) {bk : Bk} (h : SBlk.ok E β bk w q.blk) : ∃ g c, bk.v = .slice (some ⟨g, 0, none⟩) 1 c ∧ (∀ (j : Nat) (u : Value), (q.val (E.i 1) (E.i 9))[j]? = some u → w.cell? ⟨g, 0 + j, none⟩ = some u) ∧ bk.z = false ∧ g = bk.a ∧ ∃ cur, w.heap[g]? = some (.cells cur q.T (0, 0)) ∧ 0 < cur.size := by
  have h0 := h.1
  obtain ⟨m, hm, hr⟩ := row_v h
  have hS := hq.S0
  have hm1 : m = 1 := by
    rw [hq.epl, hq.ksl] at hm
    rcases Nat.lt_trichotomy m 1 with h | h | h
    · have : m = 0 := by omega
      subst this; omega
    · exact h
    · have := Nat.mul_le_mul_right q.S h; omega
  subst hm1
  rcases hr with ⟨_, _, h3⟩ | ⟨h1, h2, h3, h4, cur, h5, h6, h7⟩
  · cases h3
  · have h2' : bk.n = 1 := by rw [h2]; rfl
    have hlen := hq.val_len (E.i 1) (E.i 9)
    have hval : SV.denL E β q.entP = q.val (E.i 1) (E.i 9) := by rw [hq.pat E β hpre, hq.val_eq]; rfl
    refine ⟨bk.a, bk.c, by simp [Bk.v, h1, h0, h2'], fun j u hj => ?_, h1, rfl, cur, h5, ?_⟩
    · have hjS : j < q.S := by rw [← hlen]; exact (List.getElem?_eq_some_iff.1 hj).1
      simp only [World.cell?, h5, Nat.zero_add, Option.isSome_none, Bool.false_eq_true, if_false]
      have e : (cur.toList.take (bk.n * q.ks.length))[j]? = some u := by
        rw [h7]
        simp only [rowCells, SE.den, Int.toNat_zero, Nat.zero_mul, List.range_zero, List.map_nil, List.nil_append, hval]; exact hj
      rw [List.getElem?_take_of_lt (by rw [h2', hq.ksl]; omega), Array.getElem?_toList] at e
      exact e
    · rw [h6, hq.ksl]
      have : 1 * q.S ≤ bk.c * q.S := Nat.mul_le_mul_right _ (by omega)
      omega
theorem btQuApp_ok {fns : Fns} {TS k : Nat} {q : QuP} (hR : QuOk fns k q) {i : TypeInfo} {z : Value} (ht : P.underlying TS = some (.slice q.T)) (hi : P.info? q.T = some i) (hz : i.zero = some z) (hzs : z.cells.size = i.size) (his : i.size = q.S) (hby : i.bytes ≤ 1000000)
    (hb1 : [quV k, q.blk].all (SBlk.bnd 2) = true) (hb2 : [quV k, q.blk].all (SBlk.vb 500) = true) : BtOk P fns (btQuApp TS k q) := by
  intro E β w hE _ hw hF
  refine ⟨fun a ha => (by cases ha; intro q hq; cases hq), fun eval o xs hsel hxs => ?_⟩
  have hsel' : ∃ s x, o.op = .call { callee := .builtin .append, args := #[s, x], argTypes := #[TS, TS] } ∧ xs = [s, x] := by
    unfold btQuApp at hsel
    simp only at hsel
    split at hsel
    · rename_i s x t t' ho
      split at hsel
      · rename_i htt
        obtain ⟨rfl, rfl⟩ := htt
        cases hsel
        exact ⟨s, x, ho, rfl⟩
      · cases hsel
    · cases hsel
  obtain ⟨s, x, ho, rfl⟩ := hsel'
  simp only [btQuApp, List.map_cons, List.map_nil, SV.denL, List.cons.injEq, and_true] at hxs
  obtain ⟨e1, e2⟩ := hxs
  have hpre : Facts E q.preP := fun y hy => hF y (by simp only [btQuApp]; exact List.mem_append_right _ hy)
  have p0 : 0 ≤ E.i 0 := of_decide_eq_true (hF (.le (.c 0) (.v 0), true) (by simp [btQuApp]))
  have p1 : E.i 0 ≤ 100000 := of_decide_eq_true (hF (.le (.v 0) (.c 100000), true) (by simp [btQuApp]))
  obtain ⟨n, hn⟩ : ∃ n : Nat, E.i 0 = n := ⟨(E.i 0).toNat, by omega⟩
  have hqu := qu_of hR hE hw rfl
  rw [hn, Int.toNat_natCast] at hqu
  have e1' : eval s = (β 0).v := by rw [e1]; simp [SV.den]
  obtain ⟨g1, c1, hv1, hcell1, _⟩ := qu_entry hR.good hpre (hw.ok 1 _ rfl)
  have e2' : eval x = .slice (some ⟨g1, 0, none⟩) 1 c1 := by rw [e2]; exact hv1
  obtain ⟨w', g, off, c', r1, r2, r3, r4, r5⟩ := qu_append (P := P) (w := w) (ty := o.type) hR.good ht hi hz hzs his hqu ⟨g1, 0, none⟩ 1 c1 (fun _ => E.i 1) (q.val (E.i 1) (E.i 9)) (by rw [hR.good.val_len, Nat.one_mul])
    (fun j u hj => by rw [addr_add]; exact hcell1 j u hj) (hR.good.val_cell _ _) (fun i' j hi' hj => by
      have : i' = 0 := by omega
      subst this; rw [Nat.zero_mul, Nat.zero_add]) (by simp only [maxLen]; omega) (by
      have : (n + 1) * i.bytes ≤ 100001 * 1000000 := Nat.mul_le_mul (by omega) hby
      omega) (by omega)
  obtain ⟨bk, hbk⟩ : ∃ bk : Bk, bk = { a := g, z := false, n := n + 1, c := c', o := off } := ⟨_, rfl⟩
  have hbv : bk.v = .slice (some ⟨g, off, none⟩) (n + 1) c' := by rw [hbk]; rfl
  have hat0 : ∀ x, (quV k).at E (β 0) x ↔ (β 0).v.ownBlock = some x := fun x => by
    show E.fn.ft k _ (β 0).a (β 0).v x ↔ _
    rw [hE]; exact hR.ft _ _ _ _ _ _
  obtain ⟨k1, k2⟩ := HOk.absorb (E := E) (E2 := E) (β := β) (h := [quV k, q.blk]) (w := w) (w' := w') (bk := bk) (s1 := quB k (.add (.v 0) (.c 1)) (.v 9) (.tl (.v 0) (.v 0) (.i (.v 1) .nil))) hw hb1 [0] (AgE.refl 500 E) hb2 r3.os r3.tape r3.output r3.size
    (fun c hc hn' => r3.block c hc fun hh => hn' 0 _ rfl rfl ((hat0 c).2 hh.symm))
    (fun j s' hj hs x hx => by
      have : j = 0 := by simpa using hj
      subst this; cases hs; trivial)
    (fun x hx => by
      have hx' : E.fn.ft k _ bk.a bk.v x := hx
      rw [hE] at hx'
      have hx' := (hR.ft _ _ _ _ _ _).1 hx'
      rw [hbv] at hx'
      simp only [Value.ownBlock, Option.some.injEq] at hx'
      subst hx'
      refine ⟨r5, ?_⟩
      rcases r4 with h | h
      · exact .inl h
      · exact .inr ⟨0, _, rfl, rfl, (hat0 _).2 h⟩)
    (by
      show E.fn.p k _ bk.a bk.v w'
      rw [hE]
      refine (hR.p _ _ _ _ _ _).2 ?_
      rw [hbv]
      have en : ((SE.add (.v 0) (.c 1)).den E).toNat = n + 1 := by simp only [d_add, d_v, d_c, hn]; omega
      have eA : (AE.tl (.v 0) (.v 0) (.i (.v 1) .nil)).den E = fun i' => if i' < n then E.a 0 i' else (SL.i (.v 1) .nil).nth E (i' - n) := by
        funext j; simp only [AE.den, SE.den, hn, Int.toNat_natCast]
      rw [en, eA]
      refine .inr ⟨g, off, c', rfl, r2.1, r2.2.1, r2.2.2.1, r2.2.2.2.1, fun i' j hi' hj => ?_⟩
      rw [r2.2.2.2.2 i' j hi' hj]
      by_cases hin : i' < n
      · simp only [if_pos hin]; rfl
      · have : i' - n = 0 := by omega
        simp only [if_neg hin, this]; rfl)
  refine ⟨.slice (some ⟨g, off, none⟩) (n + 1) c', w', .inl ?_, fun h => (by cases h), ctPost0 (c := (btQuApp TS k q).ct) (β' := upB β 2 bk) rfl rfl rfl ?_ k1 k2⟩
  · unfold execOp
    simp only [ho, resolve, invoke, builtin, Sem.run_bind, Sem.run_pure, Result.andThen_ok, List.map_toArray, List.map_cons, List.map_nil, e1', e2', r1]
  · simp only [SV.den, upB_self, hbv]
theorem btQuTail_ok {fns : Fns} {TS k : Nat} {q : QuP} (hR : QuOk fns k q) (ht : P.underlying TS = some (.slice q.T)) (hs : sizeT P q.T = some q.S) : BtOk P fns (btQuTail TS k) := by
  intro E β w hE _ hw hF
  refine ⟨fun a ha => (by cases ha; intro q hq; cases hq), fun eval o xs hsel hxs => ?_⟩
  have hsel' : ∃ x l, o.op = .slice TS x (some l) none none ∧ xs = [x, l] := by
    unfold btQuTail at hsel
    simp only at hsel
    split at hsel
    · rename_i t x l ho
      split at hsel
      · rename_i htt
        subst htt
        cases hsel
        exact ⟨x, l, ho, rfl⟩
      · cases hsel
    · cases hsel
  obtain ⟨x, l, ho, rfl⟩ := hsel'
  simp only [btQuTail, List.map_cons, List.map_nil, SV.denL, List.cons.injEq, and_true] at hxs
  obtain ⟨e1, e2⟩ := hxs
  have p0 : 1 ≤ E.i 0 := of_decide_eq_true (hF (.le (.c 1) (.v 0), true) (by simp [btQuTail]))
  obtain ⟨n, hn⟩ : ∃ n : Nat, E.i 0 = n := ⟨(E.i 0).toNat, by omega⟩
  have hqu := qu_of hR hE hw rfl
  rw [hn, Int.toNat_natCast] at hqu
  rcases qu_v hqu with ⟨_, h2, _⟩ | ⟨hz0, hbn, hbv0, h1, h2, h3, h4, h5⟩
  · omega
  · obtain ⟨g, hg⟩ : ∃ g, (β 0).a = g := ⟨_, rfl⟩
    obtain ⟨off, hoff⟩ : ∃ o, (β 0).o = o := ⟨_, rfl⟩
    obtain ⟨c, hc⟩ : ∃ c, (β 0).c = c := ⟨_, rfl⟩
    rw [hg, hoff, hc] at hbv0
    rw [hg] at h3 h4 h5
    rw [hoff, hc] at h4
    rw [hoff] at h5
    rw [hc] at h1 h2
    have hS := hR.good.S0
    obtain ⟨off', hoff'⟩ : ∃ o', o' = if c = 1 then off else off + 1 * q.S := ⟨_, rfl⟩
    obtain ⟨bk, hbk⟩ : ∃ bk : Bk, bk = { a := g, z := false, n := n - 1, c := c - 1, o := off' } := ⟨_, rfl⟩
    have hbv : bk.v = .slice (some ⟨g, off', none⟩) (n - 1) (c - 1) := by rw [hbk]; rfl
    have hat0 : ∀ x, (quV k).at E (β 0) x ↔ x = g := fun x => by
      show E.fn.ft k _ (β 0).a (β 0).v x ↔ _
      rw [hE]
      refine (hR.ft _ _ _ _ _ _).trans ?_
      rw [hbv0]
      simp only [Value.ownBlock, Option.some.injEq]
      exact ⟨fun h => h.symm, fun h => h.symm⟩
    have hgl : g < w.heap.size := hw.lt 0 _ g rfl ((hat0 g).2 rfl)
    obtain ⟨k1, k2⟩ := HOk.absorb (E := E) (E2 := E) (β := β) (h := [quV k]) (w := w) (w' := w) (bk := bk) (s1 := quB k (.sub (.v 0) (.c 1)) (.v 9) (.dr (.v 0) (.c 1))) hw rfl [0] (AgE.refl 500 E) rfl rfl rfl rfl (Nat.le_refl _)
      (fun _ _ _ => rfl)
      (fun j s' hj hs x hx => by
        have : j = 0 := by simpa using hj
        subst this; cases hs; trivial)
      (fun x hx => by
        have hx' : E.fn.ft k _ bk.a bk.v x := hx
        rw [hE] at hx'
        have hx' := (hR.ft _ _ _ _ _ _).1 hx'
        rw [hbv] at hx'
        simp only [Value.ownBlock, Option.some.injEq] at hx'
        subst hx'
        exact ⟨hgl, .inr ⟨0, _, rfl, rfl, (hat0 _).2 rfl⟩⟩)
      (by
        show E.fn.p k _ bk.a bk.v w
        rw [hE]
        refine (hR.p _ _ _ _ _ _).2 ?_
        rw [hbv]
        have en : ((SE.sub (.v 0) (.c 1)).den E).toNat = n - 1 := by simp only [d_sub, d_v, d_c, hn]; omega
        have eA : (AE.dr (.v 0) (.c 1)).den E = fun i' => E.a 0 (i' + 1) := by
          funext j; simp only [AE.den, SE.den]; rfl
        rw [en, eA]
        refine .inr ⟨g, off', c - 1, rfl, by omega, by omega, h3, fun j hj => ?_, fun i' j hi' hj => ?_⟩
        · have hc1 : c ≠ 1 := fun hh => by rw [hh] at hj; simp at hj
          rw [hoff', if_neg hc1]
          have hc0 : 1 ≤ c := by omega
          rw [Nat.sub_mul] at hj
          have := h4 (1 * q.S + j) (by have := Nat.mul_le_mul_right q.S hc0; omega)
          rw [Nat.add_assoc]; exact this
        · have hc1 : c ≠ 1 := by omega
          rw [hoff', if_neg hc1]
          have := h5 (i' + 1) j (by omega) hj
          rw [Nat.add_mul] at this
          rw [show off + 1 * q.S + (i' * q.S + j) = off + (i' * q.S + 1 * q.S + j) by omega]; exact this)
    refine ⟨.slice (some ⟨g, off', none⟩) (n - 1) (c - 1), w, .inl ?_, fun h => (by cases h), ctPost0 (c := (btQuTail TS k).ct) (β' := upB β 1 bk) rfl rfl rfl ?_ k1 k2⟩
    · unfold execOp
      simp only [ho]
      refine val_run ?_
      have e2' : Option.map eval (some l) = some (.int .i64 1) := by rw [Option.map_some, e2]; rfl
      have e1' : eval x = .slice (some ⟨g, off, none⟩) n c := by rw [e1, ← hbv0]; rfl
      rw [e2', Option.map_none, e1']
      have hle : (1 : Int) ≤ (n : Int) := by omega
      simp only [Instr.sliceAt, underlying, Sem.run_bind, run_program, Result.andThen_ok, ht, Sem.run_pure, Instr.slice, Instr.sliceBounds, Instr.sliceBound, asIntOf, hle, and_true, sizeT_ok hs, if_true, show (0 : Int) ≤ 1 by decide, Int.toNat_one, Option.isSome_none]
      rw [hoff']
      by_cases hc1 : c = 1
      · simp [hc1]
      · simp [hc1, addr_add]
    · simp only [SV.den, upB_self, hbv]
theorem btQuMake_ok {fns : Fns} {TS k : Nat} {q : QuP} (hR : QuOk fns k q) {i : TypeInfo} {z : Value} (ht : P.underlying TS = some (.slice q.T)) (hi : P.info? q.T = some i) (hz : i.zero = some z) (his : i.size = q.S) (hby : i.bytes ≤ 1000000) : BtOk P fns (btQuMake TS k) := by
  intro E β w hE _ hw hF
  refine ⟨fun a ha => (by cases ha; intro q hq; cases hq), fun eval o xs hsel hxs => ?_⟩
  have hsel' : ∃ l c, o.op = .makeSlice TS l c ∧ xs = [l, c] := by
    unfold btQuMake at hsel
    simp only at hsel
    split at hsel
    · rename_i t l c ho
      split at hsel
      · rename_i htt
        subst htt
        cases hsel
        exact ⟨l, c, ho, rfl⟩
      · cases hsel
    · cases hsel
  obtain ⟨l, c, ho, rfl⟩ := hsel'
  simp only [btQuMake, List.map_cons, List.map_nil, SV.denL, List.cons.injEq, and_true, SV.den, SE.den] at hxs
  obtain ⟨e1, e2⟩ := hxs
  obtain ⟨w', r1, r2, r3⟩ := run_make_own (P := P) w w.heap.size TS q.T i z q.S ht hi hz his .i64 .i64 4 (by omega) (by decide) (Nat.le_refl _)
  obtain ⟨bk, hbk⟩ : ∃ bk : Bk, bk = { a := w.heap.size, z := false, n := 0, c := 4, o := 0 } := ⟨_, rfl⟩
  have hbv : bk.v = .slice (some ⟨w.heap.size, 0, none⟩) 0 4 := by rw [hbk]; rfl
  obtain ⟨k1, k2⟩ := HOk.absorb (E := E) (E2 := E) (β := β) (h := []) (w := w) (w' := w') (bk := bk) (s1 := quB k (.c 0) (.v 9) AE.z) hw rfl [] (AgE.refl 500 E) rfl r3.os r3.tape r3.output r3.size
    (fun c hc hn' => r3.block c hc (by simp)) (fun j s' hj => by simp at hj)
    (fun x hx => by
      have hx' : E.fn.ft k _ bk.a bk.v x := hx
      rw [hE] at hx'
      have hx' := (hR.ft _ _ _ _ _ _).1 hx'
      rw [hbv] at hx'
      simp only [Value.ownBlock, Option.some.injEq] at hx'
      subst hx'
      exact ⟨(r2.lt _ rfl).2, .inl (Nat.le_refl _)⟩)
    (by
      show E.fn.p k _ bk.a bk.v w'
      rw [hE]
      refine (hR.p _ _ _ _ _ _).2 ?_
      rw [hbv]
      exact .inr ⟨w.heap.size, 0, 4, rfl, QuAt.of_owns r2 fun i' j h => by exact absurd h (Nat.not_lt_zero _)⟩)
  refine ⟨.slice (some ⟨w.heap.size, 0, none⟩) 0 4, w', .inl ?_, fun h => (by cases h), ctPost0 (c := (btQuMake TS k).ct) (β' := upB β 0 bk) rfl rfl rfl ?_ k1 k2⟩
  · unfold execOp
    simp only [ho, e1, e2]
    rw [Sem.run_bind, show ((4 : Int)) = ((4 : Nat) : Int) from rfl, r1]; rfl
  · simp only [SV.den, upB_self, hbv]
end Go.Sy
