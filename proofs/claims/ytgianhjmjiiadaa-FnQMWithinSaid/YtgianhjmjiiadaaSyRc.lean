/- Rows of records whose fields may be rows of numbers: what holds of them, and rules: appending a record, addresses of records, loads of fields. -/
import Derived.Test.YtgianhjmjiiadaaSyAb
set_option autoImplicit true
set_option relaxedAutoImplicit true
set_option linter.unusedVariables false
set_option linter.unusedSimpArgs false
namespace Go.Sy
open Go
variable {E E2 : Env} {β : Nat → Bk} {P : Program} {w : World}
structure RecP where
  ks : List SK
  T : TypeId
  cols : List (Nat × List SK × TypeId)
  W : Nat
def RecP.S (r : RecP) : Nat := r.ks.length
def RecP.m (r : RecP) : Nat := r.cols.length
def RecP.col (r : RecP) (f : Nat) : Nat := (r.cols.getD f default).1
def RecP.nk (r : RecP) (f : Nat) : List SK := (r.cols.getD f default).2.1
def RecP.nT (r : RecP) (f : Nat) : TypeId := (r.cols.getD f default).2.2
def RecP.idx (r : RecP) (j : Nat) : Option Nat := (List.range r.m).find? fun f => r.col f == j
def skInt : SK → Bool
  | .opq => false
  | _ => true
def RecP.good (r : RecP) : Bool := decide (0 < r.S) && (List.range r.m).all (fun f => r.idx (r.col f) == some f && decide (r.col f < r.S) && (r.ks.getD (r.col f) default == .opq) && decide (0 < (r.nk f).length) && (r.nk f).all skInt) &&
  (List.range r.S).all (fun j => (r.idx j).isSome || skInt (r.ks.getD j default))
theorem RecP.good_S {r : RecP} (h : r.good = true) : 0 < r.S := by unfold RecP.good at h; simp only [Bool.and_eq_true, decide_eq_true_eq] at h; exact h.1.1
theorem RecP.good_f {r : RecP} (h : r.good = true) {f : Nat} (hf : f < r.m) : r.idx (r.col f) = some f ∧ r.col f < r.S ∧ r.ks.getD (r.col f) default = .opq ∧ 0 < (r.nk f).length ∧ (r.nk f).all skInt = true := by
  unfold RecP.good at h; simp only [Bool.and_eq_true] at h
  have := List.all_eq_true.1 h.1.2 f (List.mem_range.2 hf)
  simp only [Bool.and_eq_true, beq_iff_eq, decide_eq_true_eq] at this
  obtain ⟨⟨⟨⟨a, b⟩, c⟩, d⟩, e⟩ := this
  exact ⟨a, b, c, d, e⟩
theorem RecP.good_j {r : RecP} (h : r.good = true) {j : Nat} (hj : j < r.S) (hn : r.idx j = none) : skInt (r.ks.getD j default) = true := by
  unfold RecP.good at h; simp only [Bool.and_eq_true] at h
  have := List.all_eq_true.1 h.2 j (List.mem_range.2 hj)
  rw [hn] at this; simpa using this
theorem RecP.idx_some {r : RecP} {j f : Nat} (h : r.idx j = some f) : f < r.m ∧ r.col f = j := by
  unfold RecP.idx at h
  exact ⟨List.mem_range.1 (List.mem_of_find?_eq_some h), by simpa using List.find?_some h⟩
def rawS (e l c : Int) : Value := if 0 ≤ e then .slice (some ⟨e.toNat, 0, none⟩) l.toNat c.toNat else .slice none 0 0
def NestOk (w : World) (ks : List SK) (W : Nat) (B L : Int) (C : Nat → Int) (k : Nat) : Prop :=
  L.toNat * ks.length ≤ W ∧ (if 0 ≤ B then ∃ cs T fz, w.heap[B.toNat]? = some (.cells cs T fz) ∧ ∀ j, j < L.toNat * ks.length → cs[j]? = some ((ks.getD (j % ks.length) default).val (C (k * W + j)) .nilIface) else L.toNat = 0)
def RecIs (r : RecP) (n : Nat) (A B L K C : Nat → Int) (v : Value) (w : World) : Prop :=
  ∃ q : Nat → Value, w.ownsRow 0 r.T r.S v n ((List.range (n * r.S)).map fun j => (r.ks.getD (j % r.S) default).val (A j) (q j)) ∧
    ∀ i f, i < n → f < r.m → q (i * r.S + r.col f) = rawS (B (i * r.m + f)) (L (i * r.m + f)) (K (i * r.m + f)) ∧ NestOk w (r.nk f) r.W (B (i * r.m + f)) (L (i * r.m + f)) C (i * r.m + f) ∧
      (0 ≤ B (i * r.m + f) → v.ownBlock ≠ some (B (i * r.m + f)).toNat)
def RecFt (r : RecP) (n : Nat) (B : Nat → Int) (v : Value) (x : Nat) : Prop := v.ownBlock = some x ∨ ∃ i f, i < n ∧ f < r.m ∧ 0 ≤ B (i * r.m + f) ∧ x = (B (i * r.m + f)).toNat
theorem RecIs.frame {r : RecP} {n : Nat} {A B L K C : Nat → Int} {v : Value} {w w' : World} (h : RecIs r n A B L K C v w) (hs : ∀ x, RecFt r n B v x → w'.heap[x]? = w.heap[x]?) : RecIs r n A B L K C v w' := by
  obtain ⟨q, h1, h2⟩ := h
  refine ⟨q, ownsRow_frame h1 fun g hg => hs g (.inl hg), fun i f hi hf => ?_⟩
  obtain ⟨a, b, c⟩ := h2 i f hi hf
  refine ⟨a, ⟨b.1, ?_⟩, c⟩
  have b2 := b.2
  split
  · rename_i hB
    rw [if_pos hB] at b2
    rw [hs _ (.inr ⟨i, f, hi, hf, hB, rfl⟩)]; exact b2
  · rename_i hB
    rw [if_neg hB] at b2; exact b2
theorem RecIs.nil (r : RecP) (A B L K C : Nat → Int) (w : World) : RecIs r 0 A B L K C (.slice none 0 0) w := by
  refine ⟨fun _ => .nilIface, ?_, fun i f hi => by omega⟩
  simp only [Nat.zero_mul, List.range_zero, List.map_nil]
  exact World.ownsRow_nil w 0 r.T r.S
structure RecOk (fns : Fns) (k kc : Nat) (r : RecP) : Prop where
  p : ∀ n A B L K C a v w, fns.p k [.i n, .a A, .a B, .a L, .a K, .a C] a v w ↔ RecIs r n.toNat A B L K C v w
  ft : ∀ n A B L K C a v x, fns.ft k [.i n, .a A, .a B, .a L, .a K, .a C] a v x ↔ RecFt r n.toNat B v x
  cat : ∀ C b a, fns.a kc [.a C, .i b, .a a] = fun j => if j < b.toNat then C j else a (j - b.toNat)
  good : r.good = true
def recB (k : Nat) (n : SE) (A B L K C : AE) : SBlk := .pr k (.i n (.a A (.a B (.a L (.a K (.a C .nil))))))
def recV (k : Nat) : SBlk := recB k (.v 0) (.v 0) (.v 1) (.v 2) (.v 3) (.v 4)
def RecP.pat (r : RecP) (j : Nat) : SV :=
  match r.idx j with
  | some f => .own (2 + f)
  | none => match r.ks.getD j default with
    | .int k => .int k (.v (10 + j))
    | .bool => .bool (.v (10 + j))
    | .opq => .bool (.c true)
def RecP.pats (r : RecP) : List SV := (List.range r.S).map r.pat
def RecP.sl (r : RecP) : List Nat → SL
  | [] => .nil
  | j :: t => match r.idx j with
    | some _ => .i (.c 0) (r.sl t)
    | none => match r.ks.getD j default with
      | .int _ => .i (.v (10 + j)) (r.sl t)
      | .bool => .b (.v (10 + j)) (r.sl t)
      | .opq => .i (.c 0) (r.sl t)
def RecP.num (r : RecP) (E : Env) (j : Nat) : Int :=
  match r.idx j with
  | some _ => 0
  | none => match r.ks.getD j default with
    | .int _ => E.i (10 + j)
    | .bool => b2i (E.b (10 + j))
    | .opq => 0
theorem RecP.sl_nth (r : RecP) (E : Env) : ∀ (l : List Nat) (i j : Nat), l[i]? = some j → (r.sl l).nth E i = r.num E j
  | [], i, j, h => by simp at h
  | a :: t, 0, j, h => by
    simp only [List.getElem?_cons_zero, Option.some.injEq] at h
    subst h
    unfold RecP.sl RecP.num
    split
    · rfl
    · split <;> rfl
  | a :: t, i + 1, j, h => by
    simp only [List.getElem?_cons_succ] at h
    have ih := RecP.sl_nth r E t i j h
    unfold RecP.sl
    split
    · simp only [SL.nth, Nat.add_one_ne_zero, if_false, Nat.add_sub_cancel]; exact ih
    · split <;> (simp only [SL.nth, Nat.add_one_ne_zero, if_false, Nat.add_sub_cancel]; exact ih)
def slV (v : Nat) : Nat → SL
  | 0 => .nil
  | n + 1 => .i (.v v) (slV (v + 1) n)
theorem slV_nth (E : Env) : ∀ (n v i : Nat), i < n → (slV v n).nth E i = E.i (v + i)
  | 0, _, _, h => by omega
  | n + 1, v, 0, _ => rfl
  | n + 1, v, i + 1, h => by
    simp only [slV, SL.nth, Nat.add_one_ne_zero, if_false, Nat.add_sub_cancel]
    rw [slV_nth E n (v + 1) i (by omega)]; congr 1; omega
def RecP.cat (r : RecP) (kc : Nat) : Nat → AE
  | 0 => .v 4
  | f + 1 => .ap kc (.a (r.cat kc f) (.i (.add (.mul (.v 0) (.c (r.m * r.W : Nat))) (.c (f * r.W : Nat))) (.a (.v (20 + f)) .nil)))
def RecP.rowsP (r : RecP) : List SBlk := (List.range r.m).map fun f => .row (.v (20 + f)) (r.nk f) (.v (20 + f)) [] (r.nT f)
def RecP.heapP (r : RecP) (k : Nat) : List SBlk := recV k :: .cells r.pats r.T :: r.rowsP
def RecP.killed (r : RecP) : List Nat := 0 :: (List.range r.m).map (· + 2)
def RecP.newB (r : RecP) (k kc : Nat) : SBlk :=
  recB k (.add (.v 0) (.c 1)) (.tl (.v 0) (.mul (.v 0) (.c (r.S : Nat))) (r.sl (List.range r.S))) (.tl (.v 1) (.mul (.v 0) (.c (r.m : Nat))) (slV 500 r.m)) (.tl (.v 2) (.mul (.v 0) (.c (r.m : Nat))) (slV 20 r.m)) (.tl (.v 3) (.mul (.v 0) (.c (r.m : Nat))) (slV (500 + r.m) r.m)) (r.cat kc r.m)
def btRecApp (TS k kc : Nat) (r : RecP) : Bt where
  sel op := match op with
    | .call { callee := .builtin .append, args := ⟨[s, x]⟩, argTypes := ⟨[t, t']⟩ } => if t = TS ∧ t' = TS then some [s, x] else none
    | _ => none
  ct := { g := 0, args := [.own 0, .slice 1 Off.z (.c 1) (.c 1)], heap := r.heapP k, nx := 2 * r.m,
          pre := [(.le (.c 0) (.v 0), true), (.le (.v 0) (.c 100000), true)] ++ (List.range r.m).map (fun f => (.le (.mul (.v (20 + f)) (.c ((r.nk f).length : Nat))) (.c (r.W : Nat)), true)),
          alts := [{ res := .own (2 + r.m), post := killK r.killed (r.heapP k) ++ [r.newB k kc] }] }
theorem range_idx {n i : Nat} (h : i < n) : (List.range n)[i]? = some i := by simp [h]
theorem mul_lt {i n S c : Nat} (hi : i < n) (hc : c < S) : i * S + c < n * S := by
  have : (i + 1) * S ≤ n * S := Nat.mul_le_mul_right _ hi
  rw [Nat.add_mul] at this; omega
theorem btRecApp_ok {fns : Fns} {TS k kc : Nat} {r : RecP} (hR : RecOk fns k kc r) {i : TypeInfo} {z : Value} (ht : P.underlying TS = some (.slice r.T)) (hi : P.info? r.T = some i) (hz : i.zero = some z) (hzs : z.cells.size = i.size) (his : i.size = r.S) (hby : i.bytes ≤ 1000000)
    (hb1 : (r.heapP k).all (SBlk.bnd (r.heapP k).length) = true) (hb2 : (r.heapP k).all (SBlk.vb 500) = true) : BtOk P fns (btRecApp TS k kc r) := by
  intro E β w hE _ hw hF
  have hS := RecP.good_S hR.good
  refine ⟨fun a ha => (by cases ha; intro q hq; cases hq), fun eval o xs hsel hxs => ?_⟩
  have hlen : (r.heapP k).length = 2 + r.m := by simp [RecP.heapP, RecP.rowsP]; omega
  have hg0 : (r.heapP k)[0]? = some (recV k) := rfl
  have hg1 : (r.heapP k)[1]? = some (.cells r.pats r.T) := rfl
  have hgf : ∀ f, f < r.m → (r.heapP k)[2 + f]? = some (.row (.v (20 + f)) (r.nk f) (.v (20 + f)) [] (r.nT f)) := fun f hf => by
    rw [Nat.add_comm]
    show (r.rowsP)[f]? = _
    unfold RecP.rowsP
    rw [List.getElem?_map, range_idx hf]; rfl
  have p0 : 0 ≤ E.i 0 := of_decide_eq_true (hF (.le (.c 0) (.v 0), true) (by simp [btRecApp]))
  have p1 : E.i 0 ≤ 100000 := of_decide_eq_true (hF (.le (.v 0) (.c 100000), true) (by simp [btRecApp]))
  have pf : ∀ f, f < r.m → E.i (20 + f) * ((r.nk f).length : Int) ≤ (r.W : Int) := fun f hf => by
    have := hF (.le (.mul (.v (20 + f)) (.c ((r.nk f).length : Nat))) (.c (r.W : Nat)), true) (by
      simp only [btRecApp]
      exact List.mem_append_right _ (List.mem_map.2 ⟨f, List.mem_range.2 hf, rfl⟩))
    exact of_decide_eq_true this
  obtain ⟨n, hn⟩ : ∃ n : Nat, E.i 0 = n := ⟨(E.i 0).toNat, by omega⟩
  have hrec0 : E.fn.p k ((SL.i (.v 0) (.a (.v 0) (.a (.v 1) (.a (.v 2) (.a (.v 3) (.a (.v 4) .nil)))))).den E) (β 0).a (β 0).v w := hw.ok 0 _ hg0
  rw [hE] at hrec0
  have hrec := (hR.p _ _ _ _ _ _ _ _ _).1 hrec0
  have hnn : ((SE.v 0).den E).toNat = n := by show (E.i 0).toNat = n; omega
  rw [hnn] at hrec
  obtain ⟨q, hq1, hq2⟩ := hrec
  obtain ⟨c1o, hc1⟩ := hw.ok 1 _ hg1
  -- the operation
  have hsel' : ∃ s x, o.op = .call { callee := .builtin .append, args := #[s, x], argTypes := #[TS, TS] } ∧ xs = [s, x] := by
    unfold btRecApp at hsel
    simp only at hsel
    split at hsel
    · rename_i s x t t' ho
      split at hsel
      · rename_i htt
        obtain ⟨rfl, rfl⟩ := htt
        cases hsel
        exact ⟨s, x, ho, rfl⟩
      · cases hsel
    · cases hsel
  obtain ⟨s, x, ho, rfl⟩ := hsel'
  simp only [btRecApp, List.map_cons, List.map_nil, SV.denL, List.cons.injEq, and_true] at hxs
  obtain ⟨e1, e2⟩ := hxs
  have e2' : eval x = .slice (some ⟨(β 1).a, 0, none⟩) 1 1 := by rw [e2]; simp [SV.den, Off.den, Off.z, SE.den, c1o]
  have e1' : eval s = (β 0).v := by rw [e1]; simp [SV.den]
  have hnewsl : (SV.denL E β r.pats).length = 1 * i.size := by rw [denL_length, his]; simp [RecP.pats]
  have hpat : ∀ j, j < r.S → (SV.denL E β r.pats)[j]? = some ((r.pat j).den E β) := fun j hj => by
    rw [SV.denL_map, List.getElem?_map]
    unfold RecP.pats
    rw [List.getElem?_map, range_idx hj]; rfl
  have hcellj : ∀ j, (r.pat j).isCell = true := fun j => by
    unfold RecP.pat; split
    · rfl
    · split <;> rfl
  obtain ⟨v', w', g, cap, r1, r2, r3, r4, r5, r6⟩ := append_own3 (P := P) (w := w) TS o.type r.T i z ht hi hz hzs (by rw [his]; exact hS) (v := (β 0).v) (n := n) (by rw [his]; exact hq1) ⟨(β 1).a, 0, none⟩ 1 1 (SV.denL E β r.pats) hnewsl
    (fun j u hj => by rw [addr_add, Nat.zero_add]; simp only [World.cell?, hc1]; simpa using hj) (fun u hu => by
      rw [SV.denL_map] at hu
      obtain ⟨y, hy, rfl⟩ := List.mem_map.1 hu
      unfold RecP.pats at hy
      obtain ⟨j, _, rfl⟩ := List.mem_map.1 hy
      exact isCell_ok (hcellj j)) (by simp only [maxLen]; omega) (by
      have : (n + 1) * i.bytes ≤ 100001 * 1000000 := Nat.mul_le_mul (by omega) hby
      omega) (by omega)
  rw [his] at r2
  -- rows
  have hrow : ∀ f, f < r.m → ((β (2 + f)).z = true ∧ (E.i (20 + f)).toNat = 0) ∨ ((β (2 + f)).z = false ∧ (β (2 + f)).n = (E.i (20 + f)).toNat ∧ (β (2 + f)).o = 0 ∧ ∃ cur, w.heap[(β (2 + f)).a]? = some (.cells cur (r.nT f) (0, 0)) ∧
      ∀ j, j < (E.i (20 + f)).toNat * (r.nk f).length → cur[j]? = some (((r.nk f).getD (j % (r.nk f).length) default).val (E.a (20 + f) j) .nilIface)) := fun f hf => by
    have hb := hw.ok (2 + f) _ (hgf f hf)
    obtain ⟨mt, hm1, hm2⟩ := row_v hb
    have hm0 : mt = 0 := by
      have hl := (RecP.good_f hR.good hf).2.2.2.1
      rcases Nat.mul_eq_zero.1 (show mt * (r.nk f).length = 0 from hm1.symm) with h | h
      · exact h
      · omega
    subst hm0
    rcases hm2 with ⟨h1, h2, _⟩ | ⟨h1, h2, _, _, cur, h3, h4, h5⟩
    · exact .inl ⟨h1, h2⟩
    · refine .inr ⟨h1, h2, hb.1, cur, h3, fun j hj => ?_⟩
      have hn2 : (β (2 + f)).n = (E.i (20 + f)).toNat := h2
      have := congrArg (fun l => l[j]?) h5
      simp only [hn2] at this
      rw [List.getElem?_take_of_lt hj] at this
      rw [← Array.getElem?_toList, this]
      have hsk : skInt ((r.nk f).getD (j % (r.nk f).length) default) = true := by
        have hl := (RecP.good_f hR.good hf).2.2.2.1
        have hjm : j % (r.nk f).length < (r.nk f).length := Nat.mod_lt _ hl
        rw [List.getD_eq_getElem?_getD, List.getElem?_eq_getElem hjm]
        exact List.all_eq_true.1 (RecP.good_f hR.good hf).2.2.2.2 _ (List.getElem_mem hjm)
      unfold rowCells
      simp only [SV.denL, List.append_nil]
      have hjj : j < ((SE.v (20 + f)).den E).toNat * (r.nk f).length := hj
      rw [List.getElem?_map, range_idx hjj, Option.map_some, AE.den]
      cases hsk' : (r.nk f).getD (j % (r.nk f).length) default with
      | int kk => rfl
      | bool => rfl
      | opq => rw [hsk'] at hsk; cases hsk
  -- the new names
  obtain ⟨V, hV⟩ : ∃ V : Env, V = { E with i := fun j => if j < 500 + r.m then (if (β (2 + (j - 500))).z = true then -1 else ((β (2 + (j - 500))).a : Int)) else ((β (2 + (j - 500 - r.m))).c : Int) } := ⟨_, rfl⟩
  obtain ⟨bk, hbk⟩ : ∃ bk : Bk, bk = { a := g, z := false, n := n + 1, c := cap } := ⟨_, rfl⟩
  have hbv : bk.v = v' := by rw [hbk, r4]; rfl
  have H : AgE 500 E (E.upd xb (2 * r.m) V) := Env.upd_ag E xb (2 * r.m) V
  obtain ⟨E2, hE2⟩ : ∃ E2, E2 = E.upd xb (2 * r.m) V := ⟨_, rfl⟩
  rw [← hE2] at H
  have hE2f : E2.fn = fns := by rw [H.fn, hE]
  have hiB : ∀ f, f < r.m → E2.i (500 + f) = if (β (2 + f)).z = true then -1 else ((β (2 + f)).a : Int) := fun f hf => by
    rw [hE2]
    show (if xb ≤ 500 + f ∧ 500 + f < xb + 2 * r.m then V.i (xb + (500 + f - xb)) else _) = _
    rw [if_pos ⟨by unfold xb; omega, by unfold xb; omega⟩, hV]
    have : xb + (500 + f - xb) = 500 + f := by unfold xb; omega
    simp only [this]
    rw [if_pos (by omega)]
    have : 500 + f - 500 = f := by omega
    rw [this]
  have hiK : ∀ f, f < r.m → E2.i (500 + r.m + f) = ((β (2 + f)).c : Int) := fun f hf => by
    rw [hE2]
    show (if xb ≤ 500 + r.m + f ∧ 500 + r.m + f < xb + 2 * r.m then V.i (xb + (500 + r.m + f - xb)) else _) = _
    rw [if_pos ⟨by unfold xb; omega, by unfold xb; omega⟩, hV]
    have : xb + (500 + r.m + f - xb) = 500 + r.m + f := by unfold xb; omega
    simp only [this]
    rw [if_neg (by omega)]
    have : 500 + r.m + f - 500 - r.m = f := by omega
    rw [this]
  have hi0 : E2.i 0 = n := by rw [H.i 0 (by omega), hn]
  have hvlt : ∀ f, f < r.m → 20 + f < 500 := fun f hf => by
    have := List.all_eq_true.1 hb2 _ (List.mem_of_getElem? (hgf f hf))
    simp only [SBlk.vb, AE.vb, SE.vb, SV.vbL, Bool.and_true, Bool.and_eq_true, decide_eq_true_eq] at this
    exact this.1
  have hi20 : ∀ f, f < r.m → E2.i (20 + f) = E.i (20 + f) ∧ E2.a (20 + f) = E.a (20 + f) := fun f hf => ⟨H.i _ (hvlt f hf), H.a _ (hvlt f hf)⟩
  have hn1' : ((SE.add (.v 0) (.c 1)).den E2).toNat = n + 1 := by simp only [d_add, d_v, d_c, hi0]; omega
  have hmul : ∀ c : Nat, ((SE.mul (.v 0) (.c (c : Int))).den E2).toNat = n * c := fun c => by
    simp only [d_mul, d_v, d_c, hi0]
    rw [← Int.natCast_mul, Int.toNat_natCast]
  -- the arrays behind
  have hB : ∀ j, (AE.tl (.v 1) (.mul (.v 0) (.c (r.m : Nat))) (slV 500 r.m)).den E2 j = if j < n * r.m then E.a 1 j else (slV 500 r.m).nth E2 (j - n * r.m) := fun j => by
    simp only [AE.den, hmul]; rw [H.a 1 (by omega)]
  have hL : ∀ j, (AE.tl (.v 2) (.mul (.v 0) (.c (r.m : Nat))) (slV 20 r.m)).den E2 j = if j < n * r.m then E.a 2 j else (slV 20 r.m).nth E2 (j - n * r.m) := fun j => by
    simp only [AE.den, hmul]; rw [H.a 2 (by omega)]
  have hK : ∀ j, (AE.tl (.v 3) (.mul (.v 0) (.c (r.m : Nat))) (slV (500 + r.m) r.m)).den E2 j = if j < n * r.m then E.a 3 j else (slV (500 + r.m) r.m).nth E2 (j - n * r.m) := fun j => by
    simp only [AE.den, hmul]; rw [H.a 3 (by omega)]
  have hcat : ∀ t, t ≤ r.m → (∀ j, j < n * r.m * r.W → (r.cat kc t).den E2 j = E.a 4 j) ∧ (∀ f, f < t → ∀ j, j < r.W → (r.cat kc t).den E2 ((n * r.m + f) * r.W + j) = E.a (20 + f) j) := by
    intro t
    induction t with
    | zero => exact fun _ => ⟨fun j _ => by simp only [RecP.cat, AE.den]; rw [H.a 4 (by omega)], fun f hf => by omega⟩
    | succ t ih =>
      intro ht'
      obtain ⟨i1, i2⟩ := ih (by omega)
      have hbase : ((SE.add (.mul (.v 0) (.c (r.m * r.W : Nat))) (.c (t * r.W : Nat))).den E2).toNat = (n * r.m + t) * r.W := by
        simp only [d_add, d_mul, d_v, d_c, hi0]
        rw [← Int.natCast_mul, ← Int.natCast_add, Int.toNat_natCast, Nat.add_mul, Nat.mul_assoc]
      have hden : ∀ j, (r.cat kc (t + 1)).den E2 j = if j < (n * r.m + t) * r.W then (r.cat kc t).den E2 j else E.a (20 + t) (j - (n * r.m + t) * r.W) := fun j => by
        show E2.fn.a kc [.a ((r.cat kc t).den E2), .i ((SE.add (.mul (.v 0) (.c (r.m * r.W : Nat))) (.c (t * r.W : Nat))).den E2), .a ((AE.v (20 + t)).den E2)] j = _
        rw [hE2f, hR.cat, hbase]
        have : (AE.v (20 + t)).den E2 = E.a (20 + t) := by funext y; simp only [AE.den]; rw [(hi20 t (by omega)).2]
        rw [this]
      refine ⟨fun j hj => ?_, fun f hf j hj => ?_⟩
      · rw [hden, if_pos (by rw [Nat.add_mul]; omega)]; exact i1 j hj
      · rw [hden]
        by_cases hft : f = t
        · subst hft
          rw [if_neg (by omega), Nat.add_sub_cancel_left]
        · have hlt : (n * r.m + f) * r.W + j < (n * r.m + t) * r.W := mul_lt (by omega) hj
          rw [if_pos hlt]; exact i2 f (by omega) j hj
  have hownv : ∀ f, f < r.m → (β (2 + f)).v = rawS (E2.i (500 + f)) (E2.i (20 + f)) (E2.i (500 + r.m + f)) := fun f hf => by
    rw [hiB f hf, hiK f hf, (hi20 f hf).1]
    unfold rawS Bk.v
    rcases hrow f hf with ⟨h1, h2⟩ | ⟨h1, h2, h3, _⟩
    · rw [h1]; simp
    · simp [h1, h2, h3]
  have hft : ∀ x, RecFt r (n + 1) ((AE.tl (.v 1) (.mul (.v 0) (.c (r.m : Nat))) (slV 500 r.m)).den E2) v' x → x = g ∨ RecFt r n (E.a 1) (β 0).v x ∨ ∃ f, f < r.m ∧ (β (2 + f)).z = false ∧ x = (β (2 + f)).a := by
    rintro x (h | ⟨i', f, h1, h2, h3, h4⟩)
    · left; rw [r4] at h; simpa [Value.ownBlock] using h.symm
    · right
      rw [hB] at h3 h4
      by_cases hi' : i' < n
      · have hlt : i' * r.m + f < n * r.m := mul_lt hi' h2
        rw [if_pos hlt] at h3 h4
        exact .inl (.inr ⟨i', f, hi', h2, h3, h4⟩)
      · have hin : i' = n := by omega
        subst hin
        rw [if_neg (by omega), Nat.add_sub_cancel_left, slV_nth E2 r.m 500 f h2, hiB f h2] at h3 h4
        right
        refine ⟨f, h2, ?_⟩
        cases hz' : (β (2 + f)).z with
        | true => rw [hz'] at h3; simp at h3
        | false => rw [hz'] at h4; exact ⟨rfl, by simpa using h4⟩
  have hat0 : ∀ x, (recV k).at E (β 0) x ↔ RecFt r n (E.a 1) (β 0).v x := fun x => by
    show E.fn.ft k ((SL.i (.v 0) (.a (.v 0) (.a (.v 1) (.a (.v 2) (.a (.v 3) (.a (.v 4) .nil)))))).den E) (β 0).a (β 0).v x ↔ _
    rw [hE]
    have := hR.ft ((SE.v 0).den E) ((AE.v 0).den E) ((AE.v 1).den E) ((AE.v 2).den E) ((AE.v 3).den E) ((AE.v 4).den E) (β 0).a (β 0).v x
    rw [hnn] at this
    have h1 : (AE.v 1).den E = E.a 1 := by funext j; simp only [AE.den]
    rw [h1] at this
    exact this
  have hkc0 : r.killed.contains 0 = true := by simp [RecP.killed]
  have hkcf : ∀ f, f < r.m → r.killed.contains (2 + f) = true := fun f hf => by
    simp only [RecP.killed, List.contains_cons, Bool.or_eq_true, List.contains_iff_mem, List.mem_map, List.mem_range]
    exact .inr ⟨f, hf, by omega⟩
  have hkill : ∀ j, r.killed.contains j = true → j = 0 ∨ ∃ f, f < r.m ∧ j = 2 + f := fun j hj => by
    simp only [RecP.killed, List.contains_cons, Bool.or_eq_true, beq_iff_eq, List.contains_iff_mem, List.mem_map, List.mem_range] at hj
    rcases hj with h | ⟨f, h1, h2⟩
    · exact .inl h
    · exact .inr ⟨f, h1, by omega⟩
  have hblk : ∀ b, b < w.heap.size → (β 0).v.ownBlock ≠ some b → w'.heap[b]? = w.heap[b]? := fun b hb hne => r3.block b hb fun hh => hne hh.symm
  have hnel : ∀ f, f < r.m → (β (2 + f)).z = false → (β 0).v.ownBlock ≠ some (β (2 + f)).a := fun f hf hz' hh => by
    have := hw.dis 0 (2 + f) _ _ _ hg0 (hgf f hf) ((hat0 _).2 (.inl hh)) ⟨hz', rfl⟩
    omega
  have hrec' : RecIs r (n + 1) ((AE.tl (.v 0) (.mul (.v 0) (.c (r.S : Nat))) (r.sl (List.range r.S))).den E2) ((AE.tl (.v 1) (.mul (.v 0) (.c (r.m : Nat))) (slV 500 r.m)).den E2) ((AE.tl (.v 2) (.mul (.v 0) (.c (r.m : Nat))) (slV 20 r.m)).den E2)
      ((AE.tl (.v 3) (.mul (.v 0) (.c (r.m : Nat))) (slV (500 + r.m) r.m)).den E2) ((r.cat kc r.m).den E2) v' w' := by
    obtain ⟨hc1', hc2'⟩ := hcat r.m (Nat.le_refl _)
    refine ⟨fun j => if j < n * r.S then q j else (r.pat (j - n * r.S)).den E β, ?_, fun i' f hi' hf => ?_⟩
    · have heq : ((List.range (n * r.S)).map fun j => (r.ks.getD (j % r.S) default).val (E.a 0 j) (q j)) ++ SV.denL E β r.pats = (List.range ((n + 1) * r.S)).map fun j => (r.ks.getD (j % r.S) default).val ((AE.tl (.v 0) (.mul (.v 0) (.c (r.S : Nat))) (r.sl (List.range r.S))).den E2 j) (if j < n * r.S then q j else (r.pat (j - n * r.S)).den E β) := by
        apply List.ext_getElem?
        intro j
        by_cases hj : j < n * r.S
        · rw [List.getElem?_append_left (by simpa using hj), List.getElem?_map, range_idx hj, List.getElem?_map, range_idx (by rw [Nat.add_mul]; omega)]
          simp only [Option.map_some, if_pos hj, AE.den, hmul]
          rw [H.a 0 (by omega)]
        · rw [List.getElem?_append_right (by simpa using hj)]
          simp only [List.length_map, List.length_range]
          by_cases hj2 : j < (n + 1) * r.S
          · have hjc : j - n * r.S < r.S := by rw [Nat.add_mul] at hj2; omega
            have hmod : j % r.S = j - n * r.S := by
              obtain ⟨c, hc⟩ : ∃ c, j = n * r.S + c := ⟨j - n * r.S, by omega⟩
              rw [hc, Nat.add_sub_cancel_left, Nat.mul_comm, Nat.mul_add_mod, Nat.mod_eq_of_lt (by omega)]
            rw [hpat _ hjc, List.getElem?_map, range_idx hj2]
            simp only [Option.map_some, if_neg hj, AE.den, hmul, hmod]
            rw [RecP.sl_nth r E2 (List.range r.S) _ _ (range_idx hjc)]
            congr 1
            unfold RecP.pat RecP.num
            cases hidx : r.idx (j - n * r.S) with
            | some f =>
              obtain ⟨a1, a2⟩ := RecP.idx_some hidx
              have := (RecP.good_f hR.good a1).2.2.1
              rw [a2] at this
              simp only [this, SK.val]
            | none =>
              have hs := RecP.good_j hR.good hjc hidx
              have hlt10 : r.ks.getD (j - n * r.S) default ≠ .opq → 10 + (j - n * r.S) < 500 := fun hno => by
                have hv2 := List.all_eq_true.1 hb2 _ (List.mem_of_getElem? hg1)
                simp only [SBlk.vb] at hv2
                have : ∀ (l : List SV), SV.vbL 500 l = true → ∀ u ∈ l, u.vb 500 = true := fun l => by
                  induction l with
                  | nil => intro _ u hu; cases hu
                  | cons y t ih => intro h u hu; simp only [SV.vbL, Bool.and_eq_true] at h; rcases List.mem_cons.1 hu with rfl | hu; exact h.1; exact ih h.2 u hu
                have hm := this _ hv2 (r.pat (j - n * r.S)) (List.mem_map.2 ⟨_, List.mem_range.2 hjc, rfl⟩)
                unfold RecP.pat at hm
                rw [hidx] at hm
                cases hk' : r.ks.getD (j - n * r.S) default with
                | int kk => simp only [hk', SV.vb, SE.vb, decide_eq_true_eq] at hm; exact hm
                | bool => simp only [hk', SV.vb, SB.vb, decide_eq_true_eq] at hm; exact hm
                | opq => exact (hno hk').elim
              cases hk' : r.ks.getD (j - n * r.S) default with
              | int kk => simp only [SV.den, SE.den, SK.val]; rw [H.i _ (hlt10 (by rw [hk']; simp))]
              | bool =>
                simp only [SV.den, SB.den, SK.val]
                rw [H.b _ (hlt10 (by rw [hk']; simp))]
                cases E.b (10 + (j - n * r.S)) <;> rfl
              | opq => rw [hk'] at hs; cases hs
          · rw [List.getElem?_eq_none (by rw [denL_length]; simp [RecP.pats]; rw [Nat.add_mul] at hj2; omega), List.getElem?_eq_none (by simpa using hj2)]
      rw [← heq]
      have : (AE.v 0).den E = E.a 0 := by funext j; simp only [AE.den]
      rw [this] at r2
      exact r2
    · by_cases hin : i' < n
      · obtain ⟨a, b, c⟩ := hq2 i' f hin hf
        have hlt : i' * r.m + f < n * r.m := mul_lt hin hf
        have hltS : i' * r.S + r.col f < n * r.S := mul_lt hin (RecP.good_f hR.good hf).2.1
        show (if i' * r.S + r.col f < n * r.S then q (i' * r.S + r.col f) else (r.pat (i' * r.S + r.col f - n * r.S)).den E β) = _ ∧ _
        rw [hB, hL, hK, if_pos hlt, if_pos hlt, if_pos hlt, if_pos hltS]
        simp only [AE.den] at a b c
        refine ⟨a, ⟨b.1, ?_⟩, fun hB0 => ?_⟩
        · have b2 := b.2
          split
          · rename_i hB0
            rw [if_pos hB0] at b2
            obtain ⟨cs, T, fz, d1, d2⟩ := b2
            refine ⟨cs, T, fz, ?_, fun j hj => ?_⟩
            · rw [hblk _ (Array.getElem?_eq_some_iff.1 d1).1 (c hB0)]; exact d1
            · rw [d2 j hj, hc1' _ (mul_lt hlt (by have := b.1; omega))]
          · rename_i hB0
            rw [if_neg hB0] at b2; exact b2
        · rw [r4]
          simp only [Value.ownBlock, ne_eq, Option.some.injEq]
          intro hh
          have b2 := b.2
          rw [if_pos hB0] at b2
          obtain ⟨cs, T, fz, d1, _⟩ := b2
          have := (Array.getElem?_eq_some_iff.1 d1).1
          rcases r5 with h | h
          · omega
          · rw [hh] at h; exact c hB0 h
      · have hin' : i' = n := by omega
        subst hin'
        show (if i' * r.S + r.col f < i' * r.S then q (i' * r.S + r.col f) else (r.pat (i' * r.S + r.col f - i' * r.S)).den E β) = _ ∧ _
        rw [hB, hL, hK, if_neg (by omega), if_neg (by omega), if_neg (by omega), if_neg (by omega), Nat.add_sub_cancel_left, Nat.add_sub_cancel_left, slV_nth E2 r.m 500 f hf, slV_nth E2 r.m 20 f hf, slV_nth E2 r.m (500 + r.m) f hf]
        refine ⟨?_, ⟨?_, ?_⟩, fun hB0 => ?_⟩
        · unfold RecP.pat
          rw [(RecP.good_f hR.good hf).1]
          simp only [SV.den]
          exact hownv f hf
        · have := pf f hf
          rw [(hi20 f hf).1]
          rcases Int.lt_or_le (E.i (20 + f)) 0 with h | h
          · have : (E.i (20 + f)).toNat = 0 := by omega
            rw [this]; omega
          · obtain ⟨y, hy⟩ := Int.eq_ofNat_of_zero_le h
            rw [hy] at this ⊢
            rw [Int.toNat_natCast]
            exact_mod_cast this
        · rw [hiB f hf, (hi20 f hf).1]
          rcases hrow f hf with ⟨h1, h2⟩ | ⟨h1, h2, h3, cur, h4, h5⟩
          · rw [h1]; simp [h2]
          · rw [h1]
            simp only [Bool.false_eq_true, if_false, Int.natCast_nonneg, if_true, Int.toNat_natCast]
            refine ⟨cur, r.nT f, (0, 0), ?_, fun j hj => ?_⟩
            · rw [hblk _ (Array.getElem?_eq_some_iff.1 h4).1 (hnel f hf h1)]; exact h4
            · have hjW : j < r.W := by
                have := pf f hf
                rcases Int.lt_or_le (E.i (20 + f)) 0 with h | h
                · have : (E.i (20 + f)).toNat = 0 := by omega
                  rw [this] at hj; omega
                · obtain ⟨y, hy⟩ := Int.eq_ofNat_of_zero_le h
                  rw [hy] at this hj
                  rw [Int.toNat_natCast] at hj
                  have h6 : y * (r.nk f).length ≤ r.W := by exact_mod_cast this
                  omega
              rw [h5 j hj, hc2' f hf j hjW]
        · rw [r4]
          simp only [Value.ownBlock, ne_eq, Option.some.injEq]
          intro hh
          rw [hiB f hf] at hB0 hh
          cases hz' : (β (2 + f)).z with
          | true => rw [hz'] at hB0; simp at hB0
          | false =>
            rw [hz'] at hh
            simp only [Bool.false_eq_true, if_false, Int.toNat_natCast] at hh
            have := hw.lt (2 + f) _ _ (hgf f hf) ⟨hz', rfl⟩
            rcases r5 with h | h
            · omega
            · rw [hh] at h; exact hnel f hf hz' h
  have hden6 : (SL.i (.add (.v 0) (.c 1)) (.a (.tl (.v 0) (.mul (.v 0) (.c (r.S : Nat))) (r.sl (List.range r.S))) (.a (.tl (.v 1) (.mul (.v 0) (.c (r.m : Nat))) (slV 500 r.m)) (.a (.tl (.v 2) (.mul (.v 0) (.c (r.m : Nat))) (slV 20 r.m)) (.a (.tl (.v 3) (.mul (.v 0) (.c (r.m : Nat))) (slV (500 + r.m) r.m)) (.a (r.cat kc r.m) .nil)))))).den E2 =
      [.i ((SE.add (.v 0) (.c 1)).den E2), .a ((AE.tl (.v 0) (.mul (.v 0) (.c (r.S : Nat))) (r.sl (List.range r.S))).den E2), .a ((AE.tl (.v 1) (.mul (.v 0) (.c (r.m : Nat))) (slV 500 r.m)).den E2), .a ((AE.tl (.v 2) (.mul (.v 0) (.c (r.m : Nat))) (slV 20 r.m)).den E2), .a ((AE.tl (.v 3) (.mul (.v 0) (.c (r.m : Nat))) (slV (500 + r.m) r.m)).den E2), .a ((r.cat kc r.m).den E2)] := rfl
  obtain ⟨k1, k2⟩ := HOk.absorb (E := E) (E2 := E2) (β := β) (h := r.heapP k) (w := w) (w' := w') (bk := bk) (s1 := r.newB k kc) hw hb1 r.killed H hb2 r3.os r3.tape r3.output r3.size
    (fun c hc hn => hblk c hc fun hh => hn 0 _ hkc0 hg0 ((hat0 c).2 (.inl hh)))
    (fun j s' hj hs x hx => by
      rcases hkill j hj with rfl | ⟨f, hf, rfl⟩
      · rw [hg0] at hs; cases hs; trivial
      · rw [hgf f hf] at hs; cases hs; exact hx.1)
    (fun x hx => by
      have hx' : E2.fn.ft k _ bk.a bk.v x := hx
      rw [hE2f, hden6, hR.ft, hn1', hbv] at hx'
      rcases hft x hx' with rfl | h | ⟨f, h1, h2, rfl⟩
      · refine ⟨r6, ?_⟩
        rcases r5 with h | h
        · exact .inl h
        · exact .inr ⟨0, _, hkc0, hg0, (hat0 _).2 (.inl h)⟩
      · have h' := (hat0 x).2 h
        have := hw.lt 0 _ x hg0 h'
        exact ⟨by have := r3.size; omega, .inr ⟨0, _, hkc0, hg0, h'⟩⟩
      · have := hw.lt (2 + f) _ _ (hgf f h1) ⟨h2, rfl⟩
        exact ⟨by have := r3.size; omega, .inr ⟨2 + f, _, hkcf f h1, hgf f h1, h2, rfl⟩⟩)
    (by
      show E2.fn.p k _ bk.a bk.v w'
      rw [hE2f, hden6, hR.p, hn1', hbv]
      exact hrec')
  refine ⟨v', w', .inl ?_, fun h => (by cases h), ctPostX (c := (btRecApp TS k kc r).ct) V rfl ?_ (by rw [← show E2 = E.upd xb (btRecApp TS k kc r).ct.nx V from hE2]; exact k1) (by rw [← show E2 = E.upd xb (btRecApp TS k kc r).ct.nx V from hE2]; exact k2) (by intro q' hq'; cases hq')⟩
  · unfold execOp
    simp only [ho, resolve, invoke, builtin, Sem.run_bind, Sem.run_pure, Result.andThen_ok, List.map_toArray, List.map_cons, List.map_nil, e1', e2', r1]
  · simp only [SV.den, hlen]
    rw [show 2 + r.m = (r.heapP k).length from hlen.symm, upB_self, hbv]
end Go.Sy
