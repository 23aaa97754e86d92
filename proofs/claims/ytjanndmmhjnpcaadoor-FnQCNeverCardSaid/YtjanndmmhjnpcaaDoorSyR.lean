/- Words for rows of laws: slices of whole numbers as arguments; arguments read again. -/
import Derived.Test.YtjanndmmhjnpcaaDoorSyQ
import Derived.WalkKit
import Derived.ProofKit
import Derived.OpenShut
import Derived.ChangeOld
import Derived.Below
import Derived.ReadAgain
import Derived.Deep.Slices
set_option autoImplicit true
set_option relaxedAutoImplicit true
set_option linter.unusedVariables false
set_option linter.unusedSimpArgs false
namespace Go.Sy
open Go Go.ChangeShapes Go.WideShapes Go.RowKit
section
variable {H : Type} {enc : TypeId × Value → H} {P : Program} {W W' : World}
theorem trodAll_carry {base : Nat} {spare : Nat → Bool} {held : Bool} : ∀ {ts : List TypeId} {vs : List Value} {ds : List (DataW H)} {ps : List MemPlace}, DataW.TrodAll enc P W base spare held ts vs ds ps → (∀ p ∈ ps, W.sameAt W' p) → DataW.TrodAll enc P W' base spare held ts vs ds ps
  | [], vs, ds, ps, h, _ => by
    obtain ⟨rfl, rfl, rfl⟩ := trodAll_nil h
    exact trodAll_mk0
  | t :: ts, vs, ds, ps, h, hs => by
    obtain ⟨v, vs', d, ds', p, q, rfl, rfl, rfl, ⟨n, h1⟩, h2⟩ := trodAll_cons h
    exact trodAll_cons_mk ⟨n, DataW.trod_carry n t _ _ h1 fun p hp => hs p (by simp [show p ∈ _ from hp])⟩ (trodAll_carry h2 fun p hp => hs p (by simp [hp]))
theorem trodAll_again {T : TypeId → Prop} (K : Kids P T) (hz : ∀ t e, T t → P.underlying t = some (.slice e) → 0 < P.cellsOf e) {ts : List TypeId} {vs : List Value} {ds : List (DataW H)} {ps : List MemPlace} (hT : ∀ t ∈ ts, T t) (bel : Below W.heap.size W W')
    (h : DataW.TrodAll enc P W 0 (fun _ => true) true ts vs ds ps) (hlt : ∀ p ∈ ps, p.block < W.heap.size) : DataW.TrodAll enc P W' 0 (fun b => decide (b < W.heap.size)) true ts vs ds ps :=
  DataW.TrodAll.respare K hz hT (trodAll_carry h fun p hp => bel.same (hlt p hp)) fun p hp => by simpa using hlt p hp
def zr : Nat → Value := fun _ => .nilIface
def numsAt (w : World) (ks : List SK) (a o n : Nat) (A : Nat → Int) : Prop :=
  ∃ cs T fz, w.heap[a]? = some (.cells cs T fz) ∧ ∀ j, j < n * ks.length → cs[o + j]? = some ((ks.getD (j % ks.length) default).val (A j) .nilIface)
theorem open_rows {t e : TypeId} {ks : List SK} {v : Value} {d : DataW H} {ps : List MemPlace} {r : Reach} {b0 : Nat} (ht : P.underlying t = some (.slice e)) (hK : P.cellsOf e = ks.length) (hk0 : 0 < ks.length) (R : Nat → Int → Prop)
    (hel : ∀ n cs' y, DataW.trod enc P W 0 (fun _ => true) true n e cs' = some y → ∃ f : Nat → Int, cs' = (List.range ks.length).map (fun c => (ks.getD c default).val (f c) .nilIface) ∧ ∀ c, c < ks.length → R c (f c))
    (hv : Value.okWide P W r b0 t v) (h : DataW.Trod enc P W 0 (fun _ => true) true t v d ps) :
    v = .slice none 0 0 ∨ ∃ (a o len cap : Nat) (A : Nat → Int), v = .slice (some ⟨a, o, none⟩) len cap ∧ len ≤ cap ∧ cap ≤ maxLen ∧ a < W.heap.size ∧ numsAt W ks a o cap A ∧ ∀ j, j < cap * ks.length → R (j % ks.length) (A j) := by
  obtain ⟨fuel, hf⟩ := h
  rcases Go.Deep.open_slice ht hf with ⟨h0, _⟩ | ⟨a, len, cap, m, n, D, Pl, hcs, _, hl, hm, hmm, hx, hel'⟩
  · left
    cases v <;> simp [Value.cells] at h0
    · rw [h0.1, h0.2.1, h0.2.2]
    · simp only [Value.okWide, ht, Cell.okWide, Cell.ok] at hv
  · right
    have hvs : v = .slice (some a) len cap := by
      cases v <;> simp [Value.cells] at hcs
      · rw [hcs.1, hcs.2.1, hcs.2.2]
      · simp only [Value.okWide, ht, Cell.okWide, Cell.ok] at hv
    subst hvs
    simp only [if_true] at hmm
    have hmm := hmm.symm
    subst hmm
    have hv' : W.has P r b0 a e cap := by
      simp only [Value.okWide, ht, Cell.okWide, Cell.ok] at hv
      exact hv.2.2
    obtain ⟨_, hsp, row, cells, hsh, _⟩ := hv'
    obtain ⟨ab, ao, asp⟩ := a
    simp only at hsp
    subst hsp
    obtain ⟨cs, T, fz, hblk⟩ : ∃ cs T fz, W.heap[ab]? = some (.cells cs T fz) := by
      unfold World.shape? at hsh
      split at hsh
      · rename_i c el f hh; exact ⟨c, el, f, hh⟩
      · cases hsh
    have each : ∀ i, ∃ f : Nat → Int, i < cap → (∀ c, c < ks.length → cs[ao + (i * ks.length + c)]? = some ((ks.getD c default).val (f c) .nilIface)) ∧ ∀ c, c < ks.length → R c (f c) := fun i => by
      by_cases hi : i < cap
      · obtain ⟨cs', h1, h2⟩ := hel' i hi
        obtain ⟨f, rfl, h4⟩ := hel _ _ _ h2
        refine ⟨f, fun _ => ⟨fun c hc => ?_, h4⟩⟩
        obtain ⟨_, _, h5⟩ := World.cells?_some h1
        have h6 := h5 c (by rw [hK]; exact hc)
        rw [Go.Deep.add_add] at h6
        have h7 : (List.map (fun c => (ks.getD c default).val (f c) .nilIface) (List.range ks.length))[c]? = some ((ks.getD c default).val (f c) .nilIface) := by simp [hc]
        rw [h7, hK] at h6
        rw [← h6]
        have h8 : (Addr.add ⟨ab, ao, none⟩ (i * ks.length + c)) = ⟨ab, ao + (i * ks.length + c), none⟩ := addr_add _ _ _
        rw [h8]
        simp [World.cell?, hblk]
      · exact ⟨fun _ => 0, fun h => (hi h).elim⟩
    let F : Nat → Nat → Int := fun i => Classical.choose (each i)
    have hF : ∀ i, i < cap → (∀ c, c < ks.length → cs[ao + (i * ks.length + c)]? = some ((ks.getD c default).val (F i c) .nilIface)) ∧ ∀ c, c < ks.length → R c (F i c) := fun i => Classical.choose_spec (each i)
    refine ⟨ab, ao, len, cap, fun j => F (j / ks.length) (j % ks.length), rfl, hl, hm, (Array.getElem?_eq_some_iff.1 hblk).1, ⟨cs, T, fz, hblk, fun j hj => ?_⟩, fun j hj => ?_⟩
    · have h1 : j / ks.length < cap := (Nat.div_lt_iff_lt_mul hk0).2 hj
      have h2 := (hF _ h1).1 (j % ks.length) (Nat.mod_lt _ hk0)
      have h3 : j / ks.length * ks.length + j % ks.length = j := by rw [Nat.mul_comm]; exact Nat.div_add_mod j ks.length
      rw [h3] at h2
      exact h2
    · have h1 : j / ks.length < cap := (Nat.div_lt_iff_lt_mul hk0).2 hj
      exact (hF _ h1).2 (j % ks.length) (Nat.mod_lt _ hk0)
theorem el_int {u : TypeId} {k : IntKind} (hu : P.underlying u = some (.int k)) {n : Nat} {cs' : List Value} {y : DataW H × List MemPlace} (h : DataW.trod enc P W 0 (fun _ => true) true n u cs' = some y) :
    ∃ f : Nat → Int, cs' = (List.range 1).map (fun c => .int k (f c)) ∧ ∀ c, c < 1 → k.min ≤ f c ∧ f c ≤ k.max := by
  obtain ⟨z, h2, _, h3⟩ := DataW.trod_int hu h
  exact ⟨fun _ => z, by rw [h2]; rfl, fun _ _ => by simpa [Lit.wf] using h3⟩
theorem hok_nums {E : Env} {ks : List SK} {a o n : Nat} {A : Nat → Int} {N : SE} (hlt : a < W.heap.size) (h : numsAt W ks a o n A) (hA : ∀ j, j < n * ks.length → E.a 0 j = A j) (hN : (N.den E).toNat ≤ n) : HOk E (fun _ => { a := a, o := o, q := zr }) [.arr (.v 0) ks N] W := by
  have at0 : ∀ (i : Nat) (s : SBlk) (x : Nat), [SBlk.arr (.v 0) ks N][i]? = some s → s.at E { a := a, o := o, q := zr } x → x = a := fun i s x hi hx => by
    have h1 := (List.getElem?_eq_some_iff.1 hi).1
    have h0 : i = 0 := by simp at h1; omega
    subst h0
    obtain rfl := Option.some.inj hi
    exact hx.2
  refine ⟨fun i j s t x hi hj _ _ => ?_, fun i s x hi hx => by rw [at0 i s x hi hx]; exact hlt, fun i s hi => ?_⟩
  · have h1 := (List.getElem?_eq_some_iff.1 hi).1
    have h2 := (List.getElem?_eq_some_iff.1 hj).1
    simp at h1 h2; omega
  · have h1 := (List.getElem?_eq_some_iff.1 hi).1
    have h0 : i = 0 := by simp at h1; omega
    subst h0
    obtain rfl := Option.some.inj hi
    obtain ⟨cs, T, fz, h2, h3⟩ := h
    refine ⟨cs, T, fz, h2, fun j hj => ?_⟩
    have hj' : j < n * ks.length := Nat.lt_of_lt_of_le hj (Nat.mul_le_mul_right _ hN)
    show cs[o + j]? = some ((ks.getD (j % ks.length) default).val ((AE.v 0).den E j) .nilIface)
    rw [h3 j hj']
    simp only [AE.den, hA j hj']
theorem law_of_ct {fns : Fns} {ct : Ct} {E : Env} {β : Nat → Bk} {w : World} {post : List SBlk} {F : Fx} (h : CtOk P fns ct) (hE : E.fn = fns) (hg : ct.gm = []) (hw : HOk E β ct.heap w) (hF : Facts E ct.pre) (ha : ct.alts = [{ res := .bool (.c true), post := post, facts := F }])
    (hro : ∀ s ∈ ct.heap, ∀ bk : Bk, ¬ s.wr bk) : Calls P ct.g (SV.denL E β ct.args).toArray w fun e w' => e = .returned (.bool true) ∧ Below w.heap.size w w' := by
  refine (h E β w hE (by rw [hg]; intro q hq; cases hq) hw hF).2.mono fun e w' ⟨a, β', V, h1, h2, h3, h4, _⟩ => ?_
  rw [ha] at h1
  obtain rfl := Option.some.inj h1
  refine ⟨by rw [h2]; rfl, h4.os, h4.tape, h4.output, h4.size, fun b hb => h4.same b hb fun i s hi hs => (hro s (List.mem_of_getElem? hi) _ hs).elim⟩
end
end Go.Sy
