/- A region whose order is open, told by what is hard (stores, calls, new blocks) and what only reads (soft): soft ones are read as soon as they can be, and looked at again behind each hard one they need not be ahead of. -/
import Derived.Test.YtjanndmmhjnpcaaDoorSyL
set_option autoImplicit true
set_option relaxedAutoImplicit true
set_option linter.unusedVariables false
set_option linter.unusedSimpArgs false
namespace Go.Sy
open Go
section
variable {P : Program} {ops : Array Oper} {Q : Exit → Act → World → Prop}
def QW (P : Program) (ops : Array Oper) (o : Oper) (a : Act) (w : World) (v : Value) : Prop :=
  (Region.wanted o (yielded ops a.tmps) = false ∧ v = undef) ∨
  (Region.wanted o (yielded ops a.tmps) = true ∧ (execOp a.eval o).run P w = .ok (.value v) w)
theorem QW.slot {o : Oper} {x y : Act} {w : World} {v : Value} (hs : ∀ cs b, o.op ≠ .select cs b) (h : ∀ d ∈ o.looksAt ops, x.tmps[d]? = y.tmps[d]?) (q : QW P ops o x w v) : QW P ops o y w v := by
  unfold QW at *
  rw [← exec_slot hs h, ← wanted_slot h]
  exact q
theorem QW.wpOp {i : Nat} {o : Oper} {act : Act} {v : Value} {w : World} {K : Act → World → Prop} (ho : ops[i]? = some o) (q : QW P ops o act w v) (h : K (act.put o.dst v) w) :
    Go.wpOp P ops Q i K act w := by
  unfold Go.wpOp
  simp only [ho]
  rcases q with ⟨hw, rfl⟩ | ⟨hw, q⟩
  · simp only [hw, Bool.false_eq_true, if_false]; exact h
  · simp only [hw, if_true]
    left
    unfold Oper.wp
    rw [q]; exact h
def wpQ (P : Program) (ops : Array Oper) (out : Prop) (K : Act → World → Prop) : List (Nat × Oper) → Act → World → Prop
  | [], a, w => K a w
  | (0, o) :: r, a, w => if Region.wanted o (yielded ops a.tmps) then opN P o a w (wpQ P ops out K r) out else wpQ P ops out K r (a.put o.dst undef) w
  | (1, o) :: r, a, w => ∃ v, QW P ops o a w v ∧ wpQ P ops out K r (a.put o.dst v) w
  | (_ + 2, o) :: r, a, w => (∃ v, QW P ops o a w v ∧ a.put o.dst v = a) ∧ wpQ P ops out K r a w
theorem opN_mono {o : Oper} {a : Act} {w : World} {next next' : Act → World → Prop} {out : Prop} (h : opN P o a w next out) (hn : ∀ a w, next a w → next' a w) : opN P o a w next' out := by
  unfold opN at *
  generalize (execOp a.eval o).run P w = r at *
  cases r with
  | ok n w' =>
    cases n <;> simp only at h ⊢ <;> first
      | exact hn _ _ h
      | exact h.elim
      | exact h.mono fun e w'' he => by
          cases e with
          | returned v => exact hn _ _ he
          | panicked c => exact he.elim
          | outgrown => exact he
  | halt x w' => exact h.elim
theorem wpQ_zero : ∀ {l : List Oper} {a : Act} {w : World}, wpQ P ops (LetsOut Q) (Q .normal) (l.map fun o => (0, o)) a w → wpN P ops Q l a w
  | [], _, _, h => h
  | o :: r, a, w, h => by
    simp only [List.map_cons, wpQ] at h
    simp only [wpN]
    split
    · rename_i hw; rw [if_pos hw] at h; exact opN_mono h fun _ _ h => wpQ_zero h
    · rename_i hw; rw [if_neg hw] at h; exact wpQ_zero h
def softOp (o : Oper) : Bool :=
  match o.op with
  | .move _ | .pick .. | .build .. | .load .. | .nilCheck _ | .binOp .. | .unOp .. | .convert .. | .makeInterface .. | .makeFunc .. | .slice .. | .fieldAddr .. | .field .. | .indexAddr .. | .index .. | .lookup .. | .typeAssert .. | .extract .. => true
  | .call c => match c.callee with
    | .builtin .len | .builtin .cap | .builtin .min | .builtin .max => true
    | _ => false
  | _ => false
def softAt (ops : Array Oper) (i : Nat) : Bool :=
  match ops[i]? with
  | some o => softOp o
  | none => false
def needM (M : List Nat) (x y : Nat) : Bool := (M.getD x 0).testBit y
def availM (ops : Array Oper) (M : List Nat) (done : List Nat) (i : Nat) : Bool := (List.range ops.size).all fun j => softAt ops j || !needM M i j || done.contains j
def candsM (ops : Array Oper) (M : List Nat) (done : List Nat) : List Nat := (List.range ops.size).filter fun i => !softAt ops i && !done.contains i && availM ops M done i
def ableM (ops : Array Oper) (M : List Nat) (done : List Nat) : List Nat := (List.range ops.size).filter fun i => softAt ops i && availM ops M done i
def forcedM (M : List Nat) (done : List Nat) (i : Nat) : Bool := done.any fun k => needM M k i
def itemsAt (ops : Array Oper) (k : Nat) (l : List Nat) : List (Nat × Oper) := l.filterMap fun i => (ops[i]?).map fun o => (k, o)
def behindM (ops : Array Oper) (M : List Nat) (done : List Nat) (h : Nat) : List (Nat × Oper) :=
  itemsAt ops 2 ((ableM ops M done).filter fun i => !forcedM M (h :: done) i) ++ itemsAt ops 1 ((ableM ops M (h :: done)).filter fun i => !availM ops M done i)
def wpA (P : Program) (ops : Array Oper) (M : List Nat) (Q : Exit → Act → World → Prop) : Nat → List Nat → Act → World → Prop
  | 0, _, a, w => Q .normal a w
  | k + 1, done, a, w => (candsM ops M done = [] → Q .normal a w) ∧ ∀ h ∈ candsM ops M done, ∀ o, ops[h]? = some o → wpQ P ops (LetsOut Q) (wpA P ops M Q k (h :: done)) ((0, o) :: behindM ops M done h) a w
def planPair (ops : Array Oper) (M : List Nat) (i : Nat) (o : Oper) (j : Nat) (q : Oper) : Bool :=
  match o.dst with
  | none => true
  | some d =>
    let look := (q.looksAt ops).contains d
    if softOp o then
      (i == j || q.dst != some d) &&
      (!look || (i != j && ((needM M j i && (!softOp q || Nat.beq (M.getD i 0 ||| M.getD j 0) (M.getD j 0))) || (!softOp q && needM M i j))))
    else !(softOp q && look) || needM M j i || needM M i j
def planOk (ops : Array Oper) (M : List Nat) : Bool :=
  Region.noSelect ops &&
  (ops.toList.zipIdx.all fun (o, i) => chkEdges i o && ops.toList.zipIdx.all fun (q, j) => planPair ops M i o j q)
def Over (M : List Nat) (j i : Nat) : Prop := needM M j i = true ∧ ∀ t, needM M i t = true → needM M j t = true
structure PlanFacts (ops : Array Oper) : Prop where
  sel : ∀ (j : Nat) (o : Oper) cs b, ops[j]? = some o → o.op ≠ .select cs b
  edges : ∀ i o, ops[i]? = some o → ∀ e ∈ o.after, Region.binds .any e = true → e.on < i
  one : ∀ (i j : Nat) (o q : Oper) s, ops[i]? = some o → ops[j]? = some q → softOp o = true → o.dst = some s → j ≠ i → q.dst ≠ some s
  self : ∀ (i : Nat) (o : Oper) s, ops[i]? = some o → softOp o = true → o.dst = some s → s ∉ o.looksAt ops
  look : ∀ (i j : Nat) (o q : Oper) s, ops[i]? = some o → ops[j]? = some q → softOp o = true → o.dst = some s → s ∈ q.looksAt ops → (Needs ops j i ∧ (softOp q = true → Over (allMasks ops) j i)) ∨ (softOp q = false ∧ needM (allMasks ops) i j = true)
  hard : ∀ (i j : Nat) (o q : Oper) s, ops[i]? = some o → ops[j]? = some q → softOp o = false → softOp q = true → o.dst = some s → s ∈ q.looksAt ops → Needs ops j i ∨ Needs ops i j
theorem planOk_ok (h : planOk ops (allMasks ops) = true) : PlanFacts ops := by
  simp only [planOk, Bool.and_eq_true] at h
  obtain ⟨hs, hall⟩ := h
  have key := fun {i : Nat} {o : Oper} (ho : ops[i]? = some o) => zipAll (P := fun o i => chkEdges i o && ops.toList.zipIdx.all fun (q, j) => planPair ops (allMasks ops) i o j q) hall ho
  have kE : ∀ {i : Nat} {o : Oper}, ops[i]? = some o → chkEdges i o = true := fun ho => by have := key ho; simp only [Bool.and_eq_true] at this; exact this.1
  have kP : ∀ {i j : Nat} {o q : Oper}, ops[i]? = some o → ops[j]? = some q → planPair ops (allMasks ops) i o j q = true := fun {i j o q} ho hq => by
    have := key ho; simp only [Bool.and_eq_true] at this
    exact zipAll (P := fun q j => planPair ops (allMasks ops) i o j q) this.2 hq
  refine ⟨Region.noSelect_spec hs, fun i o ho e he hb => ?_, fun i j o q s ho hq hso hd hne hqd => ?_, fun i o s ho hso hd hl => ?_, fun i j o q s ho hq hso hd hl => ?_, fun i j o q s ho hq hso hsq hd hl => ?_⟩
  · have := List.all_eq_true.1 (kE ho) e (by simpa using he)
    simp only [hb, Bool.not_true, Bool.false_or, decide_eq_true_eq] at this
    exact this
  · have := kP ho hq
    have hij : (i == j) = false := by simpa using fun h => hne h.symm
    simp [planPair, hd, hso, hqd, hij] at this
  · have := kP ho ho
    have hc : (o.looksAt ops).contains s = true := List.contains_iff_mem.2 hl
    simp only [planPair, hd, hso, if_true, hc, Bool.not_true, Bool.false_or, bne_self_eq_false, Bool.false_and, Bool.and_false] at this
    cases this
  · have := kP ho hq
    have hc : (q.looksAt ops).contains s = true := List.contains_iff_mem.2 hl
    simp only [planPair, hd, hso, if_true, hc, Bool.not_true, Bool.false_or, Bool.and_eq_true, Bool.or_eq_true, Bool.not_eq_true'] at this
    rcases this.2.2 with ⟨h, h3⟩ | ⟨h1, h2⟩
    · refine .inl ⟨allMasks_ok h, fun hq2 => ⟨h, fun t ht => ?_⟩⟩
      rw [hq2] at h3
      have h3 := Nat.eq_of_beq_eq_true (h3.resolve_left (by simp))
      unfold needM at ht ⊢
      rw [← h3, Nat.testBit_or, ht]; rfl
    · exact .inr ⟨h1, h2⟩
  · have := kP ho hq
    have hc : (q.looksAt ops).contains s = true := List.contains_iff_mem.2 hl
    simp only [planPair, hd, hso, hsq, if_true, hc, Bool.and_self, Bool.not_true, Bool.false_or, Bool.false_eq_true, if_false, Bool.or_eq_true] at this
    exact this.imp allMasks_ok allMasks_ok
theorem items_one {k : Nat} {l : List Nat} {x : Nat × Oper} (h : x ∈ itemsAt ops k l) : x.1 = k := by
  unfold itemsAt at h
  rw [List.mem_filterMap] at h
  obtain ⟨i, _, h⟩ := h
  cases ho : ops[i]? with
  | none => rw [ho] at h; cases h
  | some o => rw [ho] at h; simp only [Option.map_some, Option.some.injEq] at h; rw [← h]
theorem items_mem {k : Nat} {l : List Nat} {i : Nat} {o : Oper} (hi : i ∈ l) (ho : ops[i]? = some o) : (k, o) ∈ itemsAt ops k l := by
  unfold itemsAt
  rw [List.mem_filterMap]
  exact ⟨i, hi, by rw [ho]; rfl⟩
theorem wpQ_twos {out : Prop} {K : Act → World → Prop} {r : List (Nat × Oper)} {a : Act} {w : World} : ∀ {l : List (Nat × Oper)}, (∀ x ∈ l, x.1 = 2) → wpQ P ops out K (l ++ r) a w → (∀ x ∈ l, ∃ v, QW P ops x.2 a w v ∧ a.put x.2.dst v = a) ∧ wpQ P ops out K r a w
  | [], _, h => ⟨fun x hx => (by cases hx), h⟩
  | (k, o) :: l, hk, h => by
    have : k = 2 := hk (k, o) (by simp)
    subst this
    simp only [List.cons_append, wpQ] at h
    obtain ⟨h1, h2⟩ := wpQ_twos (fun x hx => hk x (by simp [hx])) h.2
    refine ⟨fun x hx => ?_, h2⟩
    cases hx with
    | head => exact h.1
    | tail _ hx => exact h1 x hx
theorem put_put_self {a : Act} {d : Option Tmp} {v : Value} : (a.put d v).put d v = a.put d v := by
  cases d with
  | none => rfl
  | some d => simp [Act.put]
theorem QW.keep {o : Oper} (hs : ∀ cs b, o.op ≠ .select cs b) {a : Act} {w : World} {v u : Value} {d : Option Tmp} (h1 : ∀ s, d = some s → s ∉ o.looksAt ops) (h2 : ∀ s, d = some s → o.dst ≠ some s)
    (q : QW P ops o a w v ∧ a.put o.dst v = a) : QW P ops o (a.put d u) w v ∧ (a.put d u).put o.dst v = a.put d u := by
  refine ⟨q.1.slot hs fun s hsl => (put_other _ (fun hh => h1 s hh hsl) u).symm, ?_⟩
  rw [Act.put_comm a u v h2, q.2]
theorem wpQ_ones (hf : PlanFacts ops) {out : Prop} {K : Act → World → Prop} {w : World} : ∀ (l : List Nat) (a : Act) (old : List Nat), (∀ i ∈ l, softAt ops i = true) → (∀ i ∈ old, softAt ops i = true) →
    List.Pairwise (· < ·) l → (∀ i ∈ old, ∀ j ∈ l, i ≠ j ∧ ¬ Over (allMasks ops) i j) →
    (∀ i ∈ old, ∀ o, ops[i]? = some o → ∃ v, QW P ops o a w v ∧ a.put o.dst v = a) → wpQ P ops out K (itemsAt ops 1 l) a w →
    ∃ a', K a' w ∧ a'.defers = a.defers ∧ a'.tmps.size = a.tmps.size ∧ (∀ s, (∀ i ∈ l, dstOf ops i ≠ some s) → a'.tmps[s]? = a.tmps[s]?) ∧
      (∀ i, (i ∈ old ∨ i ∈ l) → ∀ o, ops[i]? = some o → ∃ v, QW P ops o a' w v ∧ a'.put o.dst v = a')
  | [], a, old, _, _, _, _, ho, h => ⟨a, h, rfl, rfl, fun _ _ => rfl, fun i hi o hoi => by rcases hi with hi | hi; exact ho i hi o hoi; cases hi⟩
  | i :: l, a, old, hl, hold, hp, hn, ho, h => by
    have hsi := hl i (by simp)
    obtain ⟨o, hoi⟩ : ∃ o, ops[i]? = some o := by
      unfold softAt at hsi
      cases hh : ops[i]? with
      | none => rw [hh] at hsi; cases hsi
      | some o => exact ⟨o, rfl⟩
    have hso : softOp o = true := by unfold softAt at hsi; rw [hoi] at hsi; exact hsi
    have e1 : itemsAt ops 1 (i :: l) = (1, o) :: itemsAt ops 1 l := by simp [itemsAt, hoi]
    rw [e1] at h
    simp only [wpQ] at h
    obtain ⟨v, hq, h⟩ := h
    rw [List.pairwise_cons] at hp
    obtain ⟨a', k1, k2, k3, k4, k5⟩ := wpQ_ones hf l (a.put o.dst v) (i :: old) (fun j hj => hl j (by simp [hj])) (fun j hj => by
        cases hj with
        | head => exact hsi
        | tail _ hj => exact hold j hj) hp.2 (fun j hj k hk => by
        cases hj with
        | head =>
          have hlt := hp.1 k hk
          refine ⟨by omega, fun hN => ?_⟩
          -- what is needed stands ahead of it
          have hD : Closed ops (fun x => decide (x < i)) := fun x ox hox hx e he hb => by
            have := hf.edges x ox hox e he hb
            have hx : decide (x < i) = true := hx
            show decide (e.on < i) = true
            simp only [decide_eq_true_eq] at hx ⊢
            omega
          have := allMasks_ok hN.1 _ hD o hoi fun e he hb => by
            have := hf.edges i o hoi e he hb
            simpa using this
          simp only [decide_eq_true_eq] at this
          omega
        | tail _ hj => exact hn j hj k (by simp [hk])) (fun j hj oj hoj => by
        cases hj with
        | head =>
          rw [hoi] at hoj
          cases hoj
          refine ⟨v, hq.slot (fun cs b => hf.sel i o cs b hoi) fun s hs => (put_other _ (fun hh => hf.self i o s hoi hso hh hs) v).symm, put_put_self⟩
        | tail _ hj =>
          obtain ⟨u, hu⟩ := ho j hj oj hoj
          have hne := hn j hj i (by simp)
          refine ⟨u, hu.1.slot (fun cs b => hf.sel j oj cs b hoj) fun s hs => (put_other _ (fun hh => ?_) v).symm, ?_⟩
          · rcases hf.look i j o oj s hoi hoj hso hh hs with h1 | ⟨h1, _⟩
            · exact hne.2 (h1.2 (by have := hold j hj; unfold softAt at this; rw [hoj] at this; exact this))
            · have := hold j hj
              unfold softAt at this
              rw [hoj] at this
              simp only [h1] at this
              cases this
          · rw [Act.put_comm a v u fun d hd => fun hh => hf.one i j o oj d hoi hoj hso hd hne.1 hh, hu.2]) h
    refine ⟨a', k1, by rw [k2, put_defers], by rw [k3, put_size], fun s hs => ?_, fun j hj oj hoj => k5 j ?_ oj hoj⟩
    · rw [k4 s fun j hj => hs j (by simp [hj])]
      exact put_other _ (by have := hs i (by simp); simpa [dstOf, hoi] using this) v
    · rcases hj with hj | hj
      · exact .inl (by simp [hj])
      · cases hj with
        | head => exact .inl (by simp)
        | tail _ hj => exact .inr hj
def Pend (ops : Array Oper) (listed : Array Bool) (done : List Nat) (i : Nat) : Prop := softAt ops i = true ∧ availM ops (allMasks ops) done i = true ∧ listed.getD i false = false ∧ i < ops.size
theorem soft_of {i : Nat} {o : Oper} (ho : ops[i]? = some o) : softAt ops i = softOp o := by unfold softAt; rw [ho]
theorem avail_iff {done : List Nat} {i : Nat} : availM ops (allMasks ops) done i = true ↔ ∀ j, j < ops.size → softAt ops j = false → needM (allMasks ops) i j = true → j ∈ done := by
  unfold availM
  rw [List.all_eq_true]
  constructor
  · intro h j hj hs hn
    have := h j (List.mem_range.2 hj)
    simpa [hs, hn] using this
  · intro h j hj
    have hj := List.mem_range.1 hj
    cases hs : softAt ops j with
    | true => simp
    | false =>
      cases hn : needM (allMasks ops) i j with
      | false => simp
      | true => simp [h j hj hs hn]
theorem avail_mono {done : List Nat} {i h : Nat} (ha : availM ops (allMasks ops) done i = true) : availM ops (allMasks ops) (h :: done) i = true :=
  avail_iff.2 fun j hj hs hn => List.mem_cons_of_mem _ (avail_iff.1 ha j hj hs hn)
theorem plan_any (hf : PlanFacts ops) :
    ∀ (d f k : Nat) (listed : Array Bool) (done : List Nat) (x y : Act) (w : World), listed.size = ops.size → left ops.size listed = d → d ≤ f → d ≤ k → Closed ops (fun j => listed.getD j false) →
      (∀ t, t < ops.size → softAt ops t = false → (listed.getD t false = true ↔ t ∈ done)) → (∀ t ∈ done, t < ops.size ∧ softAt ops t = false) →
      x.defers = y.defers → x.tmps.size = y.tmps.size → (∀ s, (∀ i, Pend ops listed done i → dstOf ops i ≠ some s) → x.tmps[s]? = y.tmps[s]?) →
      (∀ i, Pend ops listed done i → ∀ o, ops[i]? = some o → ∃ v, QW P ops o y w v ∧ y.put o.dst v = y) →
      wpA P ops (allMasks ops) Q k done y w → wpAny P .any ops Q f listed x w := by
  intro d
  induction d with
  | zero =>
    intro f k listed done x y w hsz hd0 hdf hdk hcl hH hdn hdef hsize hR hP hW
    have hall : ∀ j, j < ops.size → listed.getD j false = true := fun j hj => left_zero hd0 hj
    have hxy : x = y := by
      obtain ⟨xt, xd⟩ := x; obtain ⟨yt, yd⟩ := y
      simp only at hdef; subst hdef
      have : xt = yt := Array.ext_getElem? fun s => hR s fun i hi _ => by
        have := hi.2.2.1
        rw [hall i hi.2.2.2] at this; cases this
      rw [this]
    subst hxy
    have hr : Region.ready .any ops listed = [] := by
      rw [List.eq_nil_iff_forall_not_mem]
      intro i hi
      obtain ⟨h2, h3, _⟩ := ready_un hsz hi
      rw [hall i h2] at h3; cases h3
    refine wpAny_done hr ?_ f
    cases k with
    | zero => exact hW
    | succ k =>
      refine hW.1 ?_
      rw [List.eq_nil_iff_forall_not_mem]
      intro i hi
      unfold candsM at hi
      rw [List.mem_filter] at hi
      simp only [Bool.and_eq_true, Bool.not_eq_true'] at hi
      have hlt := List.mem_range.1 hi.1
      have := (hH i hlt hi.2.1.1).1 (hall i hlt)
      have := hi.2.1.2
      simp_all
  | succ d ih =>
    intro f k listed done x y w hsz hd0 hdf hdk hcl hH hdn hdef hsize hR hP hW
    obtain ⟨f, rfl⟩ : ∃ f', f = f' + 1 := ⟨f - 1, by omega⟩
    obtain ⟨k, rfl⟩ : ∃ k', k = k' + 1 := ⟨k - 1, by omega⟩
    refine ⟨fun hr => ?_, fun i hi => ?_⟩
    · exfalso
      have hall : ∀ m, m < ops.size → listed.getD m false = true := by
        intro m
        induction m using Nat.strongRecOn with
        | _ m ihm =>
          intro hlt
          cases hmu : listed.getD m false with
          | true => rfl
          | false =>
            exfalso
            obtain ⟨o, ho⟩ : ∃ o, ops[m]? = some o := ⟨ops[m], by simp [hlt]⟩
            have : m ∈ Region.ready .any ops listed := by
              rw [mem_ready]
              have hli : m < listed.size := by omega
              refine ⟨?_, o, ho, fun e he hb => ?_⟩
              · rw [Array.getD_eq_getD_getElem?] at hmu ⊢
                simp [hli] at hmu ⊢
                exact hmu
              · have hlt2 := hf.edges m o ho e he hb
                exact ihm e.on hlt2 (by omega)
            rw [hr] at this
            cases this
      have : left ops.size listed = 0 := by
        unfold left
        rw [List.length_eq_zero_iff, List.filter_eq_nil_iff]
        intro j hj
        rw [hall j (List.mem_range.1 hj)]; simp
      omega
    · obtain ⟨hlt, hiu, o, ho, hall⟩ := ready_un hsz hi
      have hli : i < listed.size := by omega
      have hdst : dstOf ops i = o.dst := by simp [dstOf, ho]
      have hleft := left_set hlt hli hiu
      have hcl' : Closed ops (fun j => (listed.setIfInBounds i true).getD j false) := by rw [← set_fun hli]; exact closed_put hcl ho hall
      have hneed : ∀ j, Needs ops i j → listed.getD j false = true := fun j hN => hN _ hcl o ho hall
      have hav : availM ops (allMasks ops) done i = true := avail_iff.2 fun j hj hs hn => (hH j hj hs).1 (hneed j (allMasks_ok hn))
      have hset : (listed.setIfInBounds i true).getD i false = true := by
        rw [Array.getD_eq_getD_getElem?]; simp [hli]
      have hslot : ∀ s ∈ o.looksAt ops, x.tmps[s]? = y.tmps[s]? := fun s hs => hR s fun j hj hjs => by
        obtain ⟨hj1, hj2, hj3, hj4⟩ := hj
        obtain ⟨oj, hoj⟩ : ∃ oj, ops[j]? = some oj := ⟨ops[j], by simp [hj4]⟩
        have hjd : oj.dst = some s := by simpa [dstOf, hoj] using hjs
        rw [soft_of hoj] at hj1
        rcases hf.look j i oj o s hoj ho hj1 hjd hs with ⟨h1, _⟩ | ⟨h1, h2⟩
        · have := hneed j h1
          rw [hj3] at this; cases this
        · have hi1 := avail_iff.1 hj2 i hlt (by rw [soft_of ho]; exact h1) h2
          have := (hH i hlt (by rw [soft_of ho]; exact h1)).2 hi1
          rw [hiu] at this; cases this
      cases hsi : softAt ops i with
      | true =>
        have hpi : Pend ops listed done i := ⟨hsi, hav, hiu, hlt⟩
        obtain ⟨v, hq, hput⟩ := hP i hpi o ho
        have hqx : QW P ops o x w v := hq.slot (fun cs b => hf.sel i o cs b ho) fun s hs => (hslot s hs).symm
        refine hqx.wpOp ho ?_
        have hpe : ∀ j, Pend ops (listed.setIfInBounds i true) done j → Pend ops listed done j ∧ j ≠ i := fun j hj => by
          have hne : j ≠ i := fun hh => by subst hh; have := hj.2.2.1; rw [hset] at this; cases this
          exact ⟨⟨hj.1, hj.2.1, by have := hj.2.2.1; rwa [getD_set_ne false (Ne.symm hne)] at this, hj.2.2.2⟩, hne⟩
        refine ih f (k + 1) _ done _ y w (by simp [hsz]) (by omega) (by omega) (by omega) hcl' (fun t ht hst => ?_) hdn (by rw [put_defers]; exact hdef) (by rw [put_size]; exact hsize) (fun s hs => ?_) (fun j hj oj hoj => hP j (hpe j hj).1 oj hoj) hW
        · have : i ≠ t := fun hh => by subst hh; rw [hsi] at hst; cases hst
          rw [getD_set_ne false this]; exact hH t ht hst
        · rw [put_get]
          split
          · rename_i hd'
            have : y.tmps[s]? = (y.put o.dst v).tmps[s]? := by rw [hput]
            rw [this, put_get, if_pos hd', hsize]
          · rename_i hd'
            refine hR s fun j hj hjs => ?_
            by_cases hji : j = i
            · subst hji; rw [hdst] at hjs; exact hd' hjs
            · refine hs j ⟨hj.1, hj.2.1, ?_, hj.2.2.2⟩ hjs
              rw [getD_set_ne false (Ne.symm hji)]; exact hj.2.2.1
      | false =>
        have hso : softOp o = false := by rw [← soft_of ho]; exact hsi
        have hnd : i ∉ done := fun hh => by have := (hH i hlt hsi).2 hh; rw [hiu] at this; cases this
        have hc : i ∈ candsM ops (allMasks ops) done := by
          unfold candsM
          rw [List.mem_filter]
          refine ⟨List.mem_range.2 hlt, ?_⟩
          simp [hsi, hnd, hav]
        have h := hW.2 i hc o ho
        simp only [wpQ] at h
        have next : ∀ (x' y' : Act) (v : Value) (w' : World), x'.tmps = (x.put o.dst v).tmps → y'.tmps = (y.put o.dst v).tmps → x'.defers = y'.defers →
            wpQ P ops (LetsOut Q) (wpA P ops (allMasks ops) Q k (i :: done)) (behindM ops (allMasks ops) done i) y' w' → wpAny P .any ops Q f (listed.setIfInBounds i true) x' w' := fun x' y' v w' h1 h2 h3 h4 => by
          unfold behindM at h4
          obtain ⟨q1, q2⟩ := wpQ_twos (fun x hx => items_one hx) h4
          obtain ⟨y'', k1, k2, k3, k4, k5⟩ := wpQ_ones hf ((ableM ops (allMasks ops) (i :: done)).filter fun j => !availM ops (allMasks ops) done j) y' ((ableM ops (allMasks ops) done).filter fun j => !forcedM (allMasks ops) (i :: done) j)
            (fun j hj => by
              rw [List.mem_filter] at hj
              have := hj.1
              unfold ableM at this
              rw [List.mem_filter] at this
              simp only [Bool.and_eq_true] at this
              exact this.2.1)
            (fun j hj => by
              rw [List.mem_filter] at hj
              have := hj.1
              unfold ableM at this
              rw [List.mem_filter] at this
              simp only [Bool.and_eq_true] at this
              exact this.2.1)
            (by
              refine List.Pairwise.filter _ ?_
              unfold ableM
              refine List.Pairwise.filter _ ?_
              exact List.pairwise_lt_range)
            (fun j hj l hl => by
              rw [List.mem_filter] at hj hl
              have hj1 := hj.1
              have hl1 := hl.1
              unfold ableM at hj1 hl1
              rw [List.mem_filter] at hj1 hl1
              simp only [Bool.and_eq_true] at hj1 hl1
              have hl2 := hl.2
              simp only [Bool.not_eq_true'] at hl2
              refine ⟨fun hh => ?_, fun hov => ?_⟩
              · subst hh; rw [hj1.2.2] at hl2; cases hl2
              · have : availM ops (allMasks ops) done l = true := avail_iff.2 fun t ht hst hn => avail_iff.1 hj1.2.2 t ht hst (hov.2 t hn)
                rw [this] at hl2; cases hl2)
            (fun j hj oj hoj => q1 (2, oj) (items_mem hj hoj)) q2
          have hpe : ∀ j, Pend ops (listed.setIfInBounds i true) (i :: done) j → j ≠ i ∧ listed.getD j false = false ∧
              (j ∈ ((ableM ops (allMasks ops) done).filter fun j => !forcedM (allMasks ops) (i :: done) j) ∨ j ∈ ((ableM ops (allMasks ops) (i :: done)).filter fun j => !availM ops (allMasks ops) done j)) := fun j hj => by
            have hne : j ≠ i := fun hh => by subst hh; have := hj.2.2.1; rw [hset] at this; cases this
            have hju : listed.getD j false = false := by have := hj.2.2.1; rwa [getD_set_ne false (Ne.symm hne)] at this
            refine ⟨hne, hju, ?_⟩
            cases hav2 : availM ops (allMasks ops) done j with
            | true =>
              left
              rw [List.mem_filter]
              refine ⟨?_, ?_⟩
              · unfold ableM
                rw [List.mem_filter]
                exact ⟨List.mem_range.2 hj.2.2.2, by simp [hj.1, hav2]⟩
              · simp only [Bool.not_eq_true']
                cases hfo : forcedM (allMasks ops) (i :: done) j with
                | false => rfl
                | true =>
                  exfalso
                  unfold forcedM at hfo
                  rw [List.any_eq_true] at hfo
                  obtain ⟨t, ht, hn⟩ := hfo
                  have hlj : listed.getD j false = true := by
                    rcases List.mem_cons.1 ht with rfl | ht
                    · exact hneed j (allMasks_ok hn)
                    · obtain ⟨htl, hts⟩ := hdn t ht
                      obtain ⟨ot, hot⟩ : ∃ ot, ops[t]? = some ot := ⟨ops[t], by simp [htl]⟩
                      exact allMasks_ok hn _ hcl ot hot fun e he hb => hcl t ot hot ((hH t htl hts).2 ht) e he hb
                  rw [hju] at hlj; cases hlj
            | false =>
              right
              rw [List.mem_filter]
              refine ⟨?_, by simp [hav2]⟩
              unfold ableM
              rw [List.mem_filter]
              exact ⟨List.mem_range.2 hj.2.2.2, by simp [hj.1, hj.2.1]⟩
          refine ih f k _ (i :: done) x' y'' w' (by simp [hsz]) (by omega) (by omega) (by omega) hcl' (fun t ht hst => ?_) (fun t ht => by
            rcases List.mem_cons.1 ht with rfl | ht
            · exact ⟨hlt, hsi⟩
            · exact hdn t ht) (by rw [h3, k2]) (by rw [k3, h1, h2, put_size, put_size]; exact hsize) (fun s hs => ?_) (fun j hj oj hoj => k5 j (hpe j hj).2.2 oj hoj) k1
          · by_cases hti : i = t
            · subst hti; simp [hset]
            · rw [getD_set_ne false hti, hH t ht hst]
              simp [Ne.symm hti]
          · rw [h1, k4 s fun j hj hjs => ?_, h2, put_get, put_get, hsize]
            · split
              · rfl
              · rename_i hd'
                refine hR s fun j hj hjs => hs j ⟨hj.1, avail_mono hj.2.1, ?_, hj.2.2.2⟩ hjs
                have hne : i ≠ j := fun hh => by subst hh; rw [hj.1] at hsi; cases hsi
                rw [getD_set_ne false hne]; exact hj.2.2.1
            · rw [List.mem_filter] at hj
              have hj1 := hj.1
              unfold ableM at hj1
              rw [List.mem_filter] at hj1
              simp only [Bool.and_eq_true] at hj1
              have hjl := List.mem_range.1 hj1.1
              have hne : i ≠ j := fun hh => by subst hh; rw [hj1.2.1] at hsi; cases hsi
              refine hs j ⟨hj1.2.1, hj1.2.2, ?_, hjl⟩ hjs
              rw [getD_set_ne false hne]
              cases hjj : listed.getD j false with
              | false => rfl
              | true =>
                exfalso
                have : availM ops (allMasks ops) done j = true := avail_iff.2 fun t ht hst hn => (hH t ht hst).1 (by
                  obtain ⟨oj, hoj⟩ : ∃ oj, ops[j]? = some oj := ⟨ops[j], by simp [hjl]⟩
                  exact allMasks_ok hn _ hcl oj hoj fun e he hb => hcl j oj hoj hjj e he hb)
                have hj2 := hj.2
                rw [this] at hj2
                cases hj2
        unfold Go.wpOp
        simp only [ho]
        rw [wanted_slot hslot]
        split
        · rename_i hw
          rw [if_pos hw] at h
          left
          unfold opN at h
          unfold Oper.wp
          rw [exec_slot (fun cs b => hf.sel i o cs b ho) hslot]
          generalize (execOp y.eval o).run P w = r at *
          cases r with
          | halt z w' => exact h.elim
          | ok n w' =>
            cases n <;> simp only [Oper.upon] at h ⊢ <;> first
              | exact h.elim
              | exact next _ _ _ _ rfl rfl (by rw [put_defers, put_defers]; exact hdef) h
              | skip
            · exact h.mono fun e w'' he => by
                cases e with
                | returned v => exact next _ _ v _ rfl rfl (by rw [put_defers, put_defers]; exact hdef) he
                | panicked c => exact he.elim
                | outgrown => exact he
            · rename_i dd
              refine next _ _ undef _ ?_ ?_ ?_ h
              · cases o.dst <;> rfl
              · cases o.dst <;> rfl
              · rw [put_defers, put_defers]; simp only [hdef]
        · rename_i hw
          rw [if_neg hw] at h
          exact next _ _ undef _ rfl rfl (by rw [put_defers, put_defers]; exact hdef) h
theorem wp_region_plan {id : Nat} {a : Act} {w : World} (hm : P.follows .mixedOrders = true) (hc : planOk ops (allMasks ops) = true)
    (h : wpQ P ops (LetsOut Q) (wpA P ops (allMasks ops) Q ops.size []) (itemsAt ops 1 (ableM ops (allMasks ops) [])) a { w with drawn := w.drawn + 1 }) :
    (Code.region id ops true).wp P Q a w := by
  have hf := planOk_ok hc
  refine wp_region_any hm ?_
  have hrep : ∀ j, (Array.replicate ops.size false).getD j false = false := fun j => by
    rw [Array.getD_eq_getD_getElem?]
    by_cases h : j < ops.size <;> simp [h]
  have hl : left ops.size (Array.replicate ops.size false) = ops.size := by
    unfold left
    rw [List.filter_eq_self.2 (fun j _ => by rw [hrep]; rfl)]; simp
  have hs : ∀ j ∈ ableM ops (allMasks ops) [], softAt ops j = true := fun j hj => by
    unfold ableM at hj
    rw [List.mem_filter] at hj
    simp only [Bool.and_eq_true] at hj
    exact hj.2.1
  obtain ⟨y, k1, k2, k3, k4, k5⟩ := wpQ_ones hf (ableM ops (allMasks ops) []) a [] hs (fun _ h => by cases h) (by
    unfold ableM
    exact List.Pairwise.filter _ List.pairwise_lt_range) (fun _ h => by cases h) (fun _ h => by cases h) h
  have hpe : ∀ j, Pend ops (Array.replicate ops.size false) [] j ↔ j ∈ ableM ops (allMasks ops) [] := fun j => by
    unfold ableM
    rw [List.mem_filter]
    constructor
    · intro h; exact ⟨List.mem_range.2 h.2.2.2, by simp [h.1, h.2.1]⟩
    · intro h
      simp only [Bool.and_eq_true] at h
      exact ⟨h.2.1, h.2.2, hrep j, List.mem_range.1 h.1⟩
  exact plan_any hf ops.size ops.size ops.size _ [] a y _ (by simp) hl (Nat.le_refl _) (Nat.le_refl _) (fun i o ho hD => by simp only at hD; rw [hrep] at hD; cases hD)
    (fun t _ _ => by rw [hrep]; simp) (fun _ h => by cases h) k2.symm k3.symm (fun s hs => (k4 s fun j hj => hs j ((hpe j).2 hj)).symm) (fun j hj o ho => k5 j (.inr ((hpe j).1 hj)) o ho) k1
end
end Go.Sy
