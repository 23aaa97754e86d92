/- All pure operations in one; loads. -/
import Derived.Test.YtjanndmmhjnpcaaDoorSyF
set_option autoImplicit true
set_option relaxedAutoImplicit true
set_option linter.unusedVariables false
set_option linter.unusedSimpArgs false
namespace Go.Sy
open Go
variable {E : Env} {β : Nat → Bk} {P : Program} {w : World}
def evL (gm : Gm) (tmps : Tm) : List Operand → Option (List SV)
  | [] => some []
  | x :: r => match ev gm tmps x, evL gm tmps r with
    | some v, some l => some (v :: l)
    | _, _ => none
theorem evL_ok {gm : Gm} (hg : gm.ok β) {tmps : Tm} {ds : List Deferred} : ∀ {xs : List Operand} {l : List SV}, evL gm tmps xs = some l →
    xs.map (actD E β tmps ds).eval = SV.denL E β l
  | [], l, h => by simp [evL] at h; subst h; rfl
  | x :: r, l, h => by
    simp only [evL] at h
    split at h
    · rename_i v t hv ht
      cases h
      simp only [List.map_cons, ev_ok hg hv, evL_ok hg ht, SV.denL]
    · cases h
theorem evL_arr {gm : Gm} (hg : gm.ok β) {tmps : Tm} {ds : List Deferred} {xs : Array Operand} {l : List SV} (h : evL gm tmps xs.toList = some l) :
    xs.map (actD E β tmps ds).eval = (SV.denL E β l).toArray := by
  rw [← evL_ok (E := E) (ds := ds) hg h]
  apply Array.ext'
  simp
def evO (gm : Gm) (tmps : Tm) : Option Operand → Option (Option SV)
  | none => some none
  | some x => (ev gm tmps x).map some
theorem evO_ok {gm : Gm} (hg : gm.ok β) {tmps : Tm} {ds : List Deferred} {x : Option Operand} {s : Option SV} (h : evO gm tmps x = some s) :
    x.map (actD E β tmps ds).eval = denO E β s := by
  cases x with
  | none => simp [evO] at h; subst h; rfl
  | some y =>
    simp only [evO, Option.map_eq_some_iff] at h
    obtain ⟨v, hv, rfl⟩ := h
    simp [denO, ev_ok hg hv]
def bind1 (x : Option SV) (k : SV → RP) : RP := match x with | some v => k v | none => .no
def bind2 (x y : Option SV) (k : SV → SV → RP) : RP := match x, y with | some v, some u => k v u | _, _ => .no
theorem bind1_val {x : Option SV} {k : SV → RP} {v : SV} (h : bind1 x k = .val v) : ∃ u, x = some u ∧ k u = .val v := by
  unfold bind1 at h; split at h
  · exact ⟨_, rfl, h⟩
  · cases h
theorem bind2_val {x y : Option SV} {k : SV → SV → RP} {v : SV} (h : bind2 x y k = .val v) : ∃ u t, x = some u ∧ y = some t ∧ k u t = .val v := by
  unfold bind2 at h; split at h
  · exact ⟨_, _, rfl, rfl, h⟩
  · cases h
def sPick (F : Fx) (c a b : SV) : RP :=
  match c with
  | .bool s => onB F s (.val a) (.val b)
  | _ => .no
def pureOp (P : Program) (gm : Gm) (F : Fx) (h : List SBlk) (tmps : Tm) (op : Op) : RP :=
  match op with
  | .move x => bind1 (ev gm tmps x) .val
  | .assign x => bind1 (ev gm tmps x) .val
  | .pick c a b => bind1 (ev gm tmps c) fun c => bind2 (ev gm tmps a) (ev gm tmps b) fun a b => sPick F c a b
  | .build T parts => match evParts gm tmps parts.toList with
    | some l => sBuild P T l
    | none => .no
  | .nilCheck x => bind1 (ev gm tmps x) (sNil2 F)
  | .binOp op T x y _ => bind2 (ev gm tmps x) (ev gm tmps y) fun a b => sBin P F h op T a b x y
  | .unOp op _ x => bind1 (ev gm tmps x) (sUn F op)
  | .convert s d x => bind1 (ev gm tmps x) (sConv P F s d)
  | .makeInterface T x => bind1 (ev gm tmps x) (sMkIf P T)
  | .makeFunc fn first cap => match evL gm tmps first.toList, evL gm tmps cap.toList with
    | some f, some c => .val (.func fn f c)
    | _, _ => .no
  | .slice T x lo hi none => match evO gm tmps lo, evO gm tmps hi with
    | some l, some u => bind1 (ev gm tmps x) fun x => sSlice P F T x l u
    | _, _ => .no
  | .fieldAddr T x i => bind1 (ev gm tmps x) fun x => sFieldAddr2 P F T x i
  | .field T x i => bind1 (ev gm tmps x) fun x => sField P T x i
  | .indexAddr T x ix => bind2 (ev gm tmps x) (ev gm tmps ix) (sIndexAddr P F T)
  | .index T x ix => bind2 (ev gm tmps x) (ev gm tmps ix) (sIndex P T)
  | .typeAssert x _ a ok => bind1 (ev gm tmps x) fun x => sAssert P x a ok
  | .extract x i => bind1 (ev gm tmps x) fun x => sExtract x i
  | .call c => match c.callee with
    | .builtin b => match evL gm tmps c.args.toList with
      | some l => sBuiltin P F b c.argTypes.toList l
      | none => .no
    | _ => .no
  | _ => .no
theorem val_run {s : Sem Value} {v : Value} (h : s.run P w = .ok v w) : ((do pure (Next.value (← s))) : Sem Next).run P w = .ok (.value v) w := by
  simp [h]
theorem pure_ok {gm : Gm} (hg : gm.ok β) {F : Fx} (hF : Facts E F) {h : List SBlk} (hw : HOk E β h w) {tmps : Tm} {ds : List Deferred} {o : Oper} {v : SV}
    (hr : pureOp P gm F h tmps o.op = .val v) : (execOp (actD E β tmps ds).eval o).run P w = .ok (.value (v.den E β)) w := by
  unfold execOp
  cases ho : o.op <;> simp only [ho, pureOp] at hr <;> try (first | (cases hr; done))
  case move x => obtain ⟨u, hu, hr⟩ := bind1_val hr; cases hr; simp [ev_ok hg hu]
  case assign x => obtain ⟨u, hu, hr⟩ := bind1_val hr; cases hr; simp [ev_ok hg hu]
  case pick c a b =>
    obtain ⟨u, hu, hr⟩ := bind1_val hr
    obtain ⟨s, t, hs, ht, hr⟩ := bind2_val hr
    unfold sPick at hr
    split at hr
    · rename_i q
      rcases onB_val hF hr with ⟨hb, hr⟩ | ⟨hb, hr⟩ <;> cases hr <;> simp [ev_ok hg hu, ev_ok hg hs, ev_ok hg ht, SV.den, asBool, hb]
    · cases hr
  case build T parts =>
    split at hr
    · rename_i l hl
      refine val_run (sBuild_ok hr ?_)
      rw [← evParts_ok (E := E) (ds := ds) hg hl]
      simp
    · cases hr
  case nilCheck x =>
    obtain ⟨u, hu, hr⟩ := bind1_val hr
    simp only [ev_ok hg hu]
    unfold sNil2 at hr
    split at hr
    · rename_i e o
      rcases onB_val hF hr with ⟨hb, hr⟩ | ⟨hb, hr⟩
      · cases hr
        rw [SB.den_mkLe] at hb
        have hb : 0 ≤ e.den E := of_decide_eq_true hb
        simp [SV.den, hb]
      · cases hr
    unfold sNil at hr
    split at hr <;> first | (cases hr; done) | skip
    rename_i h1 h2 h3 h4 h5 h6 h7 h8 h9
    cases hr
    cases v <;> simp [SV.den] at h1 h2 h3 h4 h5 h6 h7 h8 h9 ⊢
    case func => rename_i fn first cap _; cases fn <;> simp at h4 ⊢
    case sa => exact (h9 _ _ _ _ rfl rfl rfl rfl).elim
  case binOp op T x y yT =>
    obtain ⟨s, t, hs, ht, hr⟩ := bind2_val hr
    simp only [ev_ok hg hs, ev_ok hg ht]
    exact val_run (sBin_ok hF hw hr)
  case unOp op T x => obtain ⟨u, hu, hr⟩ := bind1_val hr; simp only [ev_ok hg hu]; exact val_run (sUn_ok hF hr)
  case convert s d x => obtain ⟨u, hu, hr⟩ := bind1_val hr; simp only [ev_ok hg hu]; exact val_run (sConv_ok hF hr)
  case makeInterface T x => obtain ⟨u, hu, hr⟩ := bind1_val hr; simp only [ev_ok hg hu]; exact val_run (sMkIf_ok hr)
  case makeFunc fn first cap =>
    split at hr
    · rename_i f c hf hc
      cases hr
      simp only [evL_arr (E := E) (ds := ds) hg hf, evL_arr (E := E) (ds := ds) hg hc]
      exact val_run (by simp [Instr.makeFunc, SV.den])
    · cases hr
  case slice T x lo hi mx =>
    cases mx with
    | some _ => simp at hr
    | none =>
      simp only at hr
      split at hr
      · rename_i l u hl hu
        obtain ⟨s, hs, hr⟩ := bind1_val hr
        simp only [ev_ok hg hs, evO_ok (E := E) (ds := ds) hg hl, evO_ok (E := E) (ds := ds) hg hu]
        exact val_run (sSlice_ok hF hr)
      · cases hr
  case fieldAddr T x i => obtain ⟨u, hu, hr⟩ := bind1_val hr; simp only [ev_ok hg hu]; exact val_run (sFieldAddr2_ok hF hr)
  case field T x i => obtain ⟨u, hu, hr⟩ := bind1_val hr; simp only [ev_ok hg hu]; exact val_run (sField_ok hr)
  case indexAddr T x ix => obtain ⟨s, t, hs, ht, hr⟩ := bind2_val hr; simp only [ev_ok hg hs, ev_ok hg ht]; exact val_run (sIndexAddr_ok hF hr)
  case index T x ix => obtain ⟨s, t, hs, ht, hr⟩ := bind2_val hr; simp only [ev_ok hg hs, ev_ok hg ht]; exact val_run (sIndex_ok hr)
  case typeAssert x xT a ok => obtain ⟨u, hu, hr⟩ := bind1_val hr; simp only [ev_ok hg hu]; exact val_run (sAssert_ok hr)
  case extract x i => obtain ⟨u, hu, hr⟩ := bind1_val hr; simp only [ev_ok hg hu]; exact val_run (sExtract_ok hr)
  case call c =>
    split at hr
    · rename_i b hb
      split at hr
      · rename_i l hl
        simp only [resolve, hb, Sem.run_bind, Sem.run_pure, Result.andThen_ok, invoke, evL_arr (E := E) (ds := ds) hg hl]
        exact sBuiltin_ok hF hr
      · cases hr
    · cases hr
def offOf (base i : SE) : Option Nat :=
  match base, i with
  | .c m, .c n => if m ≤ n then some (n - m).toNat else none
  | base, .add b (.c n) => if b = base ∧ 0 ≤ n then some n.toNat else if SE.add b (.c n) = base then some 0 else none
  | base, i => if i = base then some 0 else none
theorem offOf_ok {base i : SE} {c : Nat} (h : offOf base i = some c) : i.den E = base.den E + c := by
  unfold offOf at h
  split at h
  · split at h
    · cases h; simp only [SE.den]; omega
    · cases h
  · split at h
    · rename_i hc; obtain ⟨rfl, h0⟩ := hc; cases h; simp only [SE.den]; omega
    · split at h
      · rename_i hb; subst hb; cases h; simp
      · cases h
  · split at h
    · rename_i hb; subst hb; cases h; simp
    · cases h
def rdUp (base : SE) (col : Nat) : AE → SE
  | .up a i x => match offOf base i with
    | some c => if c = col then x else rdUp base col a
    | none => .rd (.up a i x) (.mkAdd base (.c col))
  | .v i => .rd (.v i) (.mkAdd base (.c col))
  | .ap f l => .rd (.ap f l) (.mkAdd base (.c col))
  | .tl a n l => .rd (.tl a n l) (.mkAdd base (.c col))
  | .ct a n b => .rd (.ct a n b) (.mkAdd base (.c col))
  | .dr a n => .rd (.dr a n) (.mkAdd base (.c col))
theorem rdUp_ok {base : SE} {m : Nat} (hb : base.den E = (m : Int)) (col : Nat) : ∀ (a : AE), (rdUp base col a).den E = a.den E (m + col)
  | .up a i x => by
    unfold rdUp
    split
    · rename_i c hc
      have h := offOf_ok (E := E) hc
      rw [hb] at h
      have hi : (i.den E).toNat = m + c := by omega
      split
      · rename_i hcc; subst hcc; simp only [AE.den, hi, if_true]
      · rename_i hcc
        rw [rdUp_ok hb col a]
        simp only [AE.den, hi]
        rw [if_neg (by omega)]
    · simp only [SE.den, SE.den_mkAdd, hb]; rfl
  | .v i => by unfold rdUp; simp only [SE.den, SE.den_mkAdd, hb]; rfl
  | .ap f l => by unfold rdUp; simp only [SE.den, SE.den_mkAdd, hb]; rfl
  | .tl a n l => by unfold rdUp; simp only [SE.den, SE.den_mkAdd, hb]; rfl
  | .ct a n b => by unfold rdUp; simp only [SE.den, SE.den_mkAdd, hb]; rfl
  | .dr a n => by unfold rdUp; simp only [SE.den, SE.den_mkAdd, hb]; rfl
def SB.ofI (e : SE) : SB :=
  match e with
  | .ite b (.c x) (.c y) => if x = 1 ∧ y = 0 then b else .not (.eq e (.c 0))
  | .c n => .c (decide (n ≠ 0))
  | e => .not (.eq e (.c 0))
theorem SB.ofI_ok (e : SE) : (SB.ofI e).den E = (e.den E != 0) := by
  unfold SB.ofI
  split
  · rename_i b x y
    split
    · rename_i h
      obtain ⟨rfl, rfl⟩ := h
      simp only [SE.den]
      cases b.den E <;> rfl
    · rfl
  · rename_i n
    simp only [SB.den, SE.den]
    by_cases h : n = 0 <;> simp [h, bne]
  · rfl
def rdCells (ks : List SK) (b : Nat) (a : AE) (base : SE) (col : Nat) : Nat → List SV
  | 0 => []
  | n + 1 =>
    let e := rdUp base col a
    (match ks.getD col default with
      | .int k => SV.int k e
      | .bool => .bool (SB.ofI e)
      | .opq => .q b (.mkAdd base (.c col))) :: rdCells ks b a base (col + 1) n
def nOf (agg : Bool) (n0 : Nat) : Nat := match agg with | true => n0 | false => 1
def tailIx (F : Fx) (rows row : SE) : Option Nat :=
  if nonneg F rows then
    if row = rows then some 0 else
    match rows, row with
    | .c a, .c b => if a ≤ b then some (b - a).toNat else none
    | r, .add x (.c k) => if x = r ∧ 0 ≤ k then some k.toNat else none
    | _, _ => none
  else none
theorem tailIx_ok {F : Fx} (hF : Facts E F) {rows row : SE} {t : Nat} (h : tailIx F rows row = some t) : (row.den E).toNat = (rows.den E).toNat + t := by
  unfold tailIx at h
  split at h
  · rename_i hn
    have hn := nonneg_ok hF hn
    split at h
    · rename_i he; cases h; rw [he]; rfl
    · split at h
      · split at h
        · rename_i a b hab; cases h; simp only [SE.den] at hn ⊢; omega
        · cases h
      · split at h
        · rename_i hx; cases h; rw [← hx.1] at hn ⊢; simp only [SE.den]; omega
        · cases h
      · cases h
  · cases h
def tabSL (k : IntKind) : List SV → Option SL
  | [] => some .nil
  | .int k' e :: r => if k' = k then (tabSL k r).map (.i e ·) else none
  | _ => none
theorem tabSL_ok {k : IntKind} : ∀ {l : List SV} {s : SL}, tabSL k l = some s → ∀ (j : Nat) (u : SV), l[j]? = some u → u.den E β = Value.int k (s.nth E j)
  | [], s, h, j, u, hu => by simp at hu
  | v :: r, s, h, j, u, hu => by
    cases v with
    | int k' e =>
      simp only [tabSL] at h
      split at h
      · rename_i hk
        subst hk
        obtain ⟨t, ht, rfl⟩ := Option.map_eq_some_iff.1 h
        cases j with
        | zero => simp at hu; subst hu; simp [SL.nth, SV.den]
        | succ j =>
          simp only [List.getElem?_cons_succ] at hu
          rw [tabSL_ok ht j u hu]
          simp [SL.nth]
      · cases h
    | _ => simp [tabSL] at h
def sTab (F : Fx) (l : List SV) (o : Off) : RP :=
  match l with
  | .int k _ :: _ => match tabSL k l with
    | some t => if o.stride = 1 ∧ o.col = 0 then onB F (.mkLe (.c 0) o.row) (onB F (.mkLt o.row (.c l.length)) (.val (.int k (.rd (.tl (.v 0) (.c 0) t) o.row))) .dead) .dead else .no
    | none => .no
  | _ => .no
theorem sTab_ok {F : Fx} (hF : Facts E F) {l : List SV} {o : Off} {v : SV} (h : sTab F l o = .val v) : ∃ (p : Nat) (u : SV), o.den E = p ∧ l[p]? = some u ∧ v.den E β = u.den E β := by
  unfold sTab at h
  split at h
  · rename_i k e r
    split at h
    · rename_i t ht
      split at h
      · rename_i hc
        rcases onB_val hF h with ⟨h0, h⟩ | ⟨_, h⟩
        · rcases onB_val hF h with ⟨h1, h⟩ | ⟨_, h⟩
          · cases h
            rw [SB.den_mkLe] at h0; rw [SB.den_mkLt] at h1
            have h0 : (0 : Int) ≤ o.row.den E := of_decide_eq_true h0
            have h1 : o.row.den E < ((SV.int k e :: r).length : Nat) := of_decide_eq_true h1
            obtain ⟨p, hp⟩ := Int.eq_ofNat_of_zero_le h0
            have hlt : p < (SV.int k e :: r).length := by omega
            refine ⟨p, (SV.int k e :: r)[p], by simp [Off.den, hp, hc.1, hc.2], List.getElem?_eq_getElem hlt, ?_⟩
            rw [tabSL_ok (E := E) (β := β) ht p _ (List.getElem?_eq_getElem hlt)]
            show Value.int k ((AE.tl (.v 0) (.c 0) t).den E (o.row.den E).toNat) = _
            rw [hp, Int.toNat_natCast]
            simp only [AE.den, SE.den, Int.toNat_zero, Nat.not_lt_zero, if_false, Nat.sub_zero]
          · cases h
        · cases h
      · cases h
    · cases h
  · cases h
def sLoadRow (F : Fx) (b : Nat) (a : AE) (ks : List SK) (rows : SE) (tail : List SV) (o : Off) (agg : Bool) (n0 : Nat) : RP :=
  if o.stride = ks.length ∧ o.col + nOf agg n0 ≤ ks.length then
    match tailIx F rows o.row with
    | some t => if (t + 1) * ks.length ≤ tail.length then
        match (tail.drop (t * ks.length + o.col)).take (nOf agg n0), agg with
        | l, true => .val (.agg l)
        | v :: _, false => .val v
        | _, _ => .no
      else .no
    | none => if rows = .c 0 ∧ agg = false then sTab F tail o else onB F (.mkLe (.c 0) o.row) (onB F (.mkLt o.row rows)
        (match rdCells ks b a (.mkMul o.row (.c ks.length)) o.col (nOf agg n0), agg with
          | l, true => .val (.agg l)
          | v :: _, false => .val v
          | _, _ => .no) (if tail.isEmpty then .dead else .no)) .dead
  else .no
def sLoad (P : Program) (F : Fx) (h : List SBlk) (T : TypeId) (x : SV) : RP :=
  match x with
  | .ptr b o =>
    match h[b]?, isAggT P T, sizeT P T with
    | some (.cells l _), some true, some n =>
      match constRow o with
      | some p => if p + n ≤ l.length then .val (.agg ((l.drop p).take n)) else .no
      | none => .no
    | some (.cells l _), some false, some _ =>
      match constRow o with
      | some p => match l[p]? with
        | some v => .val v
        | none => .no
      | none => sTab F l o
    | some (.arr a ks rows), some agg, some n0 =>
      if o.stride = ks.length ∧ o.col + nOf agg n0 ≤ ks.length then
        onB F (.mkLe (.c 0) o.row) (onB F (.mkLt o.row rows)
          (match rdCells ks b a (.mkMul o.row (.c ks.length)) o.col (nOf agg n0), agg with
            | l, true => .val (.agg l)
            | v :: _, false => .val v
            | _, _ => .no) .dead) .dead
      else .no
    | some (.row a ks rows tail _), some agg, some n0 => sLoadRow F b a ks rows tail o agg n0
    | _, _, _ => .no
  | _ => .no
theorem loadCells_ok (a : Addr) (cs : List Value) (h : ∀ j v, cs[j]? = some v → w.cell? (a.add j) = some v) : (loadCells a cs.length).run P w = .ok cs.toArray w :=
  run_loadCells_list w a cs h
theorem cell_cells {h : List SBlk} (hw : HOk E β h w) {b : Nat} {l : List SV} {T : TypeId} (hb : h[b]? = some (.cells l T)) (j : Nat) :
    w.cell? ⟨(β b).a, (β b).o + j, none⟩ = (l[j]?).map (SV.den E β) := by
  have := hw.ok b _ hb
  simp only [SBlk.ok] at this
  simp only [World.cell?, this.2, this.1, Nat.zero_add]
  rw [SV.denL_map]
  simp
theorem cell_arr {h : List SBlk} (hw : HOk E β h w) {b : Nat} {a : AE} {ks : List SK} {n : SE} (hb : h[b]? = some (.arr a ks n)) (j : Nat) (hj : j < (n.den E).toNat * ks.length) :
    w.cell? ⟨(β b).a, (β b).o + j, none⟩ = some ((ks.getD (j % ks.length) default).val (a.den E j) ((β b).q j)) := by
  obtain ⟨cs, T, fz, h1, h2⟩ := hw.ok b _ hb
  simp only [World.cell?, h1]
  exact h2 j hj
theorem rdCells_ok {ks : List SK} {b : Nat} {a : AE} {base : SE} {r : Nat} (hbase : base.den E = ((r * ks.length : Nat) : Int)) : ∀ (n col : Nat), col + n ≤ ks.length → ∀ j, j < n →
    (rdCells ks b a base col n)[j]?.map (SV.den E β) = some ((ks.getD ((r * ks.length + (col + j)) % ks.length) default).val (a.den E (r * ks.length + (col + j))) ((β b).q (r * ks.length + (col + j))))
  | 0, col, _, j, hj => by omega
  | n + 1, col, hc, j, hj => by
    have hmod : ∀ c, c < ks.length → (r * ks.length + c) % ks.length = c := fun c hc => by
      rw [Nat.add_comm, Nat.add_mul_mod_self_right, Nat.mod_eq_of_lt hc]
    cases j with
    | zero =>
      have hd : (rdUp base col a).den E = a.den E (r * ks.length + col) := rdUp_ok hbase col a
      have hq : ((SE.mkAdd base (.c col)).den E).toNat = r * ks.length + col := by
        simp only [SE.den, SE.den_mkAdd, hbase]; omega
      simp only [rdCells, List.getElem?_cons_zero, Option.map_some, Nat.add_zero]
      rw [hmod col (by omega)]
      split
      · rename_i k hk; simp only [SV.den, hd, hk, SK.val]
      · rename_i hk; simp only [SV.den, SB.ofI_ok, hd, hk, SK.val]
      · rename_i hk; simp only [SV.den, hq, hk, SK.val]
    | succ j =>
      simp only [rdCells, List.getElem?_cons_succ]
      rw [rdCells_ok hbase n (col + 1) (by omega) j (by omega)]
      have : col + 1 + j = col + (j + 1) := by omega
      rw [this]
theorem rdCells_length (ks : List SK) (b : Nat) (a : AE) (base : SE) : ∀ (n col : Nat), (rdCells ks b a base col n).length = n
  | 0, _ => rfl
  | n + 1, col => by simp [rdCells, rdCells_length ks b a base n]
theorem row_v {a : AE} {ks : List SK} {n : SE} {tail : List SV} {S : TypeId} {bk : Bk} (h : SBlk.ok E β bk w (.row a ks n tail S)) : ∃ m, tail.length = m * ks.length ∧
    ((bk.z = true ∧ (n.den E).toNat = 0 ∧ m = 0) ∨
     (bk.z = false ∧ bk.n = (n.den E).toNat + m ∧ bk.n ≤ bk.c ∧ bk.c ≤ maxLen ∧ ∃ cur, w.heap[bk.a]? = some (.cells cur S (0, 0)) ∧ cur.size = bk.c * ks.length ∧ cur.toList.take (bk.n * ks.length) = rowCells E β bk.q a ks (n.den E).toNat tail)) := by
  obtain ⟨h0, m, h1, h2, h3⟩ := h
  refine ⟨m, h1, ?_⟩
  rcases h3 with ⟨hv, hl⟩ | ⟨g, cap, cur, hv, h4, h5, h6, h7, h8, h9⟩
  · left
    cases hz : bk.z with
    | true => exact ⟨rfl, by omega, by omega⟩
    | false => simp [Bk.v, hz] at hv
  · right
    cases hz : bk.z with
    | true => simp [Bk.v, hz] at hv
    | false =>
      simp [Bk.v, hz] at hv
      obtain ⟨⟨e1, _⟩, e2, e3⟩ := hv
      refine ⟨rfl, e2, by omega, by omega, cur, by rw [e1]; exact h5, by rw [e3]; exact h8, by rw [e2]; exact h9⟩
theorem rowCells_length (q : Nat → Value) (a : AE) (ks : List SK) (n : Nat) (tail : List SV) : (rowCells E β q a ks n tail).length = n * ks.length + tail.length := by
  simp [rowCells, denL_length]
theorem rowCells_lo {q : Nat → Value} {a : AE} {ks : List SK} {n : Nat} {tail : List SV} {j : Nat} (hj : j < n * ks.length) : (rowCells E β q a ks n tail)[j]? = some ((ks.getD (j % ks.length) default).val (a.den E j) (q j)) := by
  unfold rowCells
  rw [List.getElem?_append_left (by simpa using hj)]
  simp [hj]
theorem rowCells_hi {q : Nat → Value} {a : AE} {ks : List SK} {n : Nat} {tail : List SV} {j : Nat} : (rowCells E β q a ks n tail)[n * ks.length + j]? = (tail[j]?).map (SV.den E β) := by
  unfold rowCells
  rw [List.getElem?_append_right (by simp), SV.denL_map]
  simp
theorem cell_row {h : List SBlk} (hw : HOk E β h w) {b : Nat} {a : AE} {ks : List SK} {n : SE} {tail : List SV} {S : TypeId} (hb : h[b]? = some (.row a ks n tail S)) (j : Nat) (hj : j < (n.den E).toNat * ks.length + tail.length) :
    w.cell? ⟨(β b).a, (β b).o + j, none⟩ = (rowCells E β (β b).q a ks (n.den E).toNat tail)[j]? := by
  have ho : (β b).o = 0 := (hw.ok b _ hb).1
  rw [ho, Nat.zero_add]
  obtain ⟨m, h1, h2⟩ := row_v (hw.ok b _ hb)
  rcases h2 with ⟨_, h3, h4⟩ | ⟨_, h3, h4, h5, cur, h6, h7, h8⟩
  · rw [h3, h1, h4] at hj; simp at hj
  · rw [← h8]
    have hlen : j < (β b).n * ks.length := by rw [h3, Nat.add_mul]; omega
    simp only [World.cell?, h6]
    rw [List.getElem?_take_of_lt hlen]
    simp
theorem sLoadRow_ok {F : Fx} (hF : Facts E F) {h : List SBlk} (hw : HOk E β h w) {T : TypeId} {b : Nat} {o : Off} {a : AE} {ks : List SK} {rows : SE} {tail : List SV} {S : TypeId} {agg : Bool} {n0 : Nat} {v : SV}
    (hb : h[b]? = some (.row a ks rows tail S)) (ha : isAggT P T = some agg) (hn : sizeT P T = some n0) (hr : sLoadRow F b a ks rows tail o agg n0 = .val v) :
    (Instr.loadAt T ((SV.ptr b o).den E β)).run P w = .ok (v.den E β) w := by
  unfold sLoadRow at hr
  split at hr
  · rename_i hc
    have key : ∀ (r : Nat) (l : List SV), o.den E = r * ks.length + o.col → l.length = nOf agg n0 → (∀ j, j < nOf agg n0 → w.cell? ⟨(β b).a, (β b).o + (r * ks.length + (o.col + j)), none⟩ = (l[j]?).map (SV.den E β)) →
        (match l, agg with
          | l, true => RP.val (.agg l)
          | v :: _, false => .val v
          | _, _ => .no) = .val v → (Instr.loadAt T ((SV.ptr b o).den E β)).run P w = .ok (v.den E β) w := by
      intro r l hoff hl hcell hr
      cases agg with
      | true =>
        simp only [nOf] at hr hc hl hcell
        cases hr
        simp only [Instr.loadAt, SV.den, Instr.sureAddr, Sem.run_bind, Sem.run_pure, Result.andThen_ok, loadVar, isAggT_ok ha, if_true, sizeT_ok hn, hoff]
        have hl' : (SV.denL E β l).length = n0 := by rw [denL_length, hl]
        have := loadCells_ok (P := P) (w := w) ⟨(β b).a, (β b).o + (r * ks.length + o.col), none⟩ (SV.denL E β l) (fun j u hj => by
          rw [SV.denL_map, List.getElem?_map] at hj
          have hjn : j < n0 := by
            rcases Nat.lt_or_ge j n0 with h1 | h1
            · exact h1
            · rw [List.getElem?_eq_none (by omega)] at hj; cases hj
          rw [addr_add, Nat.add_assoc, Nat.add_assoc, hcell j hjn]
          exact hj)
        rw [hl'] at this
        rw [this]
        rfl
      | false =>
        simp only [nOf] at hr hc hl hcell
        split at hr
        · rename_i hx; cases hx
        · rename_i u t hx
          cases hr
          simp only [Instr.loadAt, SV.den, Instr.sureAddr, Sem.run_bind, Sem.run_pure, Result.andThen_ok, loadVar, isAggT_ok ha, hoff]
          have h3 := hcell 0 (by omega)
          simp only [Nat.add_zero] at h3
          simp [h3]
        · cases hr
    split at hr
    · rename_i t ht
      have hrow := tailIx_ok hF ht
      split at hr
      · rename_i hlen
        have hlen' : t * ks.length + ks.length ≤ tail.length := by rw [Nat.add_mul] at hlen; omega
        refine key ((rows.den E).toNat + t) _ (by simp [Off.den, hrow, hc.1]) (by simp; omega) (fun j hj => ?_) hr
        have e : ((rows.den E).toNat + t) * ks.length + (o.col + j) = (rows.den E).toNat * ks.length + (t * ks.length + o.col + j) := by rw [Nat.add_mul]; omega
        rw [e, cell_row hw hb _ (by omega), rowCells_hi, List.getElem?_take_of_lt hj, List.getElem?_drop]
      · cases hr
    · split at hr
      · rename_i hz
        obtain ⟨hz1, hz2⟩ := hz
        subst hz1; subst hz2
        obtain ⟨p, u, hp, hu, hv⟩ := sTab_ok (β := β) hF hr
        rw [hv]
        have hlt : p < tail.length := (List.getElem?_eq_some_iff.1 hu).1
        have hz0 : ((SE.c 0).den E).toNat = 0 := rfl
        have h3 := cell_row hw hb (((SE.c 0).den E).toNat * ks.length + p) (by omega)
        rw [rowCells_hi, hz0, Nat.zero_mul, Nat.zero_add, hu] at h3
        simp only [Instr.loadAt, SV.den, Instr.sureAddr, Sem.run_bind, Sem.run_pure, Result.andThen_ok, loadVar, isAggT_ok ha, hp]
        simp [h3]
      rcases onB_val hF hr with ⟨h0, hr⟩ | ⟨_, hr⟩
      · rcases onB_val hF hr with ⟨h1, hr⟩ | ⟨_, hr⟩
        · rw [SB.den_mkLe] at h0; rw [SB.den_mkLt] at h1
          have h0 : (0 : Int) ≤ o.row.den E := of_decide_eq_true h0
          have h1 : o.row.den E < rows.den E := of_decide_eq_true h1
          obtain ⟨r, hrow⟩ := Int.eq_ofNat_of_zero_le h0
          have hoff : o.den E = r * ks.length + o.col := by simp [Off.den, hrow, hc.1]
          have hrr : r + 1 ≤ (rows.den E).toNat := by omega
          have hmul : (r + 1) * ks.length ≤ (rows.den E).toNat * ks.length := Nat.mul_le_mul_right _ hrr
          rw [Nat.add_mul] at hmul
          have hbase : (SE.mkMul o.row (.c ks.length)).den E = ((r * ks.length : Nat) : Int) := by
            rw [SE.den_mkMul, hrow]; simp [SE.den]
          refine key r _ hoff (rdCells_length ..) (fun j hj => ?_) hr
          rw [cell_row hw hb _ (by omega), rowCells_lo (by omega), rdCells_ok hbase (nOf agg n0) o.col hc.2 j hj]
        · split at hr <;> cases hr
      · cases hr
  · cases hr
theorem sLoad_ok {F : Fx} (hF : Facts E F) {h : List SBlk} (hw : HOk E β h w) {T : TypeId} {x v : SV} (hr : sLoad P F h T x = .val v) :
    (Instr.loadAt T (x.den E β)).run P w = .ok (v.den E β) w := by
  unfold sLoad at hr
  split at hr
  · rename_i b o
    split at hr
    · rename_i l S n hb ha hn
      split at hr
      · rename_i p hp
        split at hr
        · rename_i hlen
          cases hr
          simp only [Instr.loadAt, SV.den, Instr.sureAddr, Sem.run_bind, Sem.run_pure, Result.andThen_ok, loadVar, isAggT_ok ha, if_true, sizeT_ok hn, constRow_ok hp]
          have hl : (SV.denL E β ((l.drop p).take n)).length = n := by rw [denL_length]; simp; omega
          have := loadCells_ok (P := P) (w := w) ⟨(β b).a, (β b).o + p, none⟩ (SV.denL E β ((l.drop p).take n)) (fun j u hj => by
            rw [addr_add, Nat.add_assoc, cell_cells hw hb]
            rw [SV.denL_map, List.getElem?_map] at hj
            rw [← hj]
            have hjn : j < n := by
              rcases Nat.lt_or_ge j n with h1 | h1
              · exact h1
              · rw [List.getElem?_eq_none (by simp; omega)] at hj; cases hj
            rw [List.getElem?_take_of_lt hjn, List.getElem?_drop])
          rw [hl] at this
          rw [this]
          rfl
        · cases hr
      · cases hr
    · rename_i l S n hb ha hn
      split at hr
      · rename_i p hp
        split at hr
        · rename_i u hu
          cases hr
          simp only [Instr.loadAt, SV.den, Instr.sureAddr, Sem.run_bind, Sem.run_pure, Result.andThen_ok, loadVar, isAggT_ok ha, constRow_ok hp]
          simp [cell_cells hw hb, hu]
        · cases hr
      · obtain ⟨p, u, hp, hu, hv⟩ := sTab_ok (β := β) hF hr
        rw [hv]
        simp only [Instr.loadAt, SV.den, Instr.sureAddr, Sem.run_bind, Sem.run_pure, Result.andThen_ok, loadVar, isAggT_ok ha, hp]
        simp [cell_cells hw hb, hu]
    · rename_i a ks rows agg n0 hb ha hn
      split at hr
      · rename_i hc
        rcases onB_val hF hr with ⟨h0, hr⟩ | ⟨_, hr⟩
        · rcases onB_val hF hr with ⟨h1, hr⟩ | ⟨_, hr⟩
          · rw [SB.den_mkLe] at h0; rw [SB.den_mkLt] at h1
            have h0 : (0 : Int) ≤ o.row.den E := of_decide_eq_true h0
            have h1 : o.row.den E < rows.den E := of_decide_eq_true h1
            obtain ⟨r, hrow⟩ := Int.eq_ofNat_of_zero_le h0
            have hoff : o.den E = r * ks.length + o.col := by simp [Off.den, hrow, hc.1]
            have hrr : r + 1 ≤ (rows.den E).toNat := by omega
            have hmul : (r + 1) * ks.length ≤ (rows.den E).toNat * ks.length := Nat.mul_le_mul_right _ hrr
            have hbase : (SE.mkMul o.row (.c ks.length)).den E = ((r * ks.length : Nat) : Int) := by
              rw [SE.den_mkMul, hrow]; simp [SE.den]
            have hcell : ∀ j, o.col + j < ks.length → w.cell? ⟨(β b).a, (β b).o + (r * ks.length + (o.col + j)), none⟩ = some ((ks.getD ((r * ks.length + (o.col + j)) % ks.length) default).val (a.den E (r * ks.length + (o.col + j))) ((β b).q (r * ks.length + (o.col + j)))) := fun j hj =>
              cell_arr hw hb _ (by rw [Nat.add_mul] at hmul; omega)
            cases agg with
            | true =>
              simp only [nOf] at hr hc
              cases hr
              simp only [Instr.loadAt, SV.den, Instr.sureAddr, Sem.run_bind, Sem.run_pure, Result.andThen_ok, loadVar, isAggT_ok ha, if_true, sizeT_ok hn, hoff]
              have hl : (SV.denL E β (rdCells ks b a (.mkMul o.row (.c ks.length)) o.col n0)).length = n0 := by rw [denL_length, rdCells_length]
              have := loadCells_ok (P := P) (w := w) ⟨(β b).a, (β b).o + (r * ks.length + o.col), none⟩ (SV.denL E β (rdCells ks b a (.mkMul o.row (.c ks.length)) o.col n0)) (fun j u hj => by
                rw [SV.denL_map, List.getElem?_map] at hj
                have hjn : j < n0 := by
                  rcases Nat.lt_or_ge j n0 with h1 | h1
                  · exact h1
                  · rw [List.getElem?_eq_none (by rw [rdCells_length]; omega)] at hj; cases hj
                rw [rdCells_ok hbase n0 o.col hc.2 j hjn] at hj
                rw [addr_add, Nat.add_assoc, Nat.add_assoc, hcell j (by omega)]
                exact hj)
              rw [hl] at this
              rw [this]
              rfl
            | false =>
              simp only [nOf] at hr hc
              have h2 := rdCells_ok (E := E) (β := β) (b := b) (a := a) hbase 1 o.col hc.2 0 (by omega)
              split at hr
              · rename_i hx; cases hx
              · rename_i u t hx hy
                cases hr
                rw [hx] at h2
                simp only [Instr.loadAt, SV.den, Instr.sureAddr, Sem.run_bind, Sem.run_pure, Result.andThen_ok, loadVar, isAggT_ok ha, hoff]
                have h3 := hcell 0 (by omega)
                simp only [Nat.add_zero] at h2 h3
                simp at h2
                simp [h3, h2]
              · cases hr
          · cases hr
        · cases hr
      · cases hr
    · rename_i a ks rows tail S agg n0 hb ha hn
      exact sLoadRow_ok hF hw hb ha hn hr
    · cases hr
  · cases hr
end Go.Sy
