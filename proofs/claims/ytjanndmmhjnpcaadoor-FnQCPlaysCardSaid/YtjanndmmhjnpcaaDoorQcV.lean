/- put and next keep their contracts. -/
import Derived.Test.YtjanndmmhjnpcaaDoorQcT
import Derived.Test.YtjanndmmhjnpcaaDoorQcU
import Derived.Test.YtjanndmmhjnpcaaDoorQcW
import Derived.Test.YtjanndmmhjnpcaaDoorQcE
import Derived.Test.YtjanndmmhjnpcaaDoorSyAb
set_option autoImplicit true
set_option relaxedAutoImplicit true
set_option linter.unusedVariables false
set_option linter.unusedSimpArgs false
namespace Go.Proofs.YtjanndmmhjnpcaaDoor
open Go Go.Sy
theorem hok_heap {E : Env} {β : Nat → Bk} {h : List SBlk} {w w' : World} (hw : HOk E β h w) (hh : w'.heap = w.heap) : HOk E β h w' :=
  ⟨hw.dis, fun i s x h1 h2 => by rw [hh]; exact hw.lt i s x h1 h2, fun i s h1 => SBlk.ok_frame (fun x _ => by rw [hh]) (hw.ok i s h1)⟩
theorem ext_heap {E E' : Env} {β β' : Nat → Bk} {h h' : List SBlk} {w w1 w' : World} (x : Ext E h β w E' h' β' w1) (hh : w'.heap = w1.heap) (ho : w'.os = w1.os) (ht : w'.tape = w1.tape) (hp : w'.output = w1.output) : Ext E h β w E' h' β' w' :=
  { x with size := by rw [hh]; exact x.size, same := fun b hb hn => by rw [hh]; exact x.same b hb hn, os := ho.trans x.os, tape := ht.trans x.tape, output := hp.trans x.output }
theorem two_step {E : Env} {β : Nat → Bk} {w wM w' : World} {l l' : List SV} {S : TypeId} (hE : E.fn = fns) (hl : SV.vbL 500 l = true) (hlb : SV.bndL 2 l = true) (hw : HOk E β [.cells l S, quW] w) {bk : Bk} {N : SE} {A : AE}
    (hos : wM.os = w.os) (htp : wM.tape = w.tape) (hop : wM.output = w.output) (hsz : w.heap.size ≤ wM.heap.size)
    (hsame : ∀ k, k < w.heap.size → (∀ x, (β 1).v.ownBlock = some x → k ≠ x) → wM.heap[k]? = w.heap[k]?)
    (hq : QuIs qw (N.den E).toNat (E.i 9) (A.den E) bk.v wM) (hnew : ∀ x, bk.v.ownBlock = some x → x < wM.heap.size ∧ (w.heap.size ≤ x ∨ (β 1).v.ownBlock = some x))
    (hh : w'.heap = (wset wM (β 0).a (.cells (SV.denL E (upB β 2 bk) l').toArray S (0, 0))).heap) (ho : w'.os = wM.os) (ht : w'.tape = wM.tape) (hp : w'.output = wM.output) :
    HOk E (upB β 2 bk) [.cells l' S, .dead, quB 1003 N (.v 9) A] w' ∧ Ext E [.cells l S, quW] β w E [.cells l' S, .dead, quB 1003 N (.v 9) A] (upB β 2 bk) w' := by
  have hat : ∀ x, quW.at E (β 1) x ↔ (β 1).v.ownBlock = some x := fun x => by
    show E.fn.ft 1003 _ (β 1).a (β 1).v x ↔ _
    rw [hE]; exact qokw.ft _ _ _ _ _ _
  obtain ⟨k1, k2⟩ := HOk.absorb (E := E) (E2 := E) (β := β) (h := [.cells l S, quW]) (w := w) (w' := wM) (bk := bk) (s1 := quB 1003 N (.v 9) A) hw (by simp [SBlk.bnd, quW, quV, quB, hlb]) [1] (AgE.refl 500 E) (by simp [SBlk.vb, quW, quV, quB, hl]; decide) hos htp hop hsz
    (fun k hk hn' => hsame k hk fun x hx hh => hn' 1 _ rfl rfl ((hat k).2 (by rw [hh]; exact hx)))
    (fun j s' hj hs x hx => by
      have : j = 1 := by simpa using hj
      subst this; cases hs; trivial)
    (fun x hx => by
      have hx' : E.fn.ft 1003 _ bk.a bk.v x := hx
      rw [hE] at hx'
      obtain ⟨a, b⟩ := hnew x ((qokw.ft _ _ _ _ _ _).1 hx')
      refine ⟨a, ?_⟩
      rcases b with b | b
      · exact .inl b
      · exact .inr ⟨1, _, rfl, rfl, (hat _).2 b⟩)
    (by
      show E.fn.p 1003 _ bk.a bk.v wM
      rw [hE]
      exact (qokw.p _ _ _ _ _ _).2 hq)
  have e0 : upB β 2 bk 0 = β 0 := upB_ne (by decide)
  obtain ⟨k3, k4⟩ := HOk.set (l' := l') (b := 0) k1 rfl
  rw [show upB β ([SBlk.cells l S, quW].length) bk = upB β 2 bk from rfl] at k1 k2 k3 k4
  rw [e0] at k3 k4
  exact ⟨hok_heap k3 hh, ext_heap (k2.trans k4) hh ho ht hp⟩
theorem qw_val (s l : Int) : qw.val s l = [.int .u64 s] := by simp [QuP.val, qw, SV.denL, SV.den, SE.den]
theorem qw_q {E : Env} {β : Nat → Bk} {w : World} {l : List SV} {S : TypeId} (hE : E.fn = fns) (hw : HOk E β [.cells l S, quW] w) : QuIs qw (E.i 0).toNat (E.i 9) (E.a 0) (β 1).v w := by
  have h : E.fn.p 1003 ((SL.i (.v 0) (.i (.v 9) (.a (.v 0) .nil))).den E) (β 1).a (β 1).v w := hw.ok 1 _ rfl
  rw [hE] at h
  have := (qokw.p _ _ _ _ _ _).1 h
  have e : (AE.v 0).den E = E.a 0 := by funext j; simp only [AE.den]
  rw [e] at this
  exact this
theorem spc_cells {E : Env} {β : Nat → Bk} {w : World} {l : List SV} {s : SBlk} (hw : HOk E β [.cells l 80, s] w) : (β 0).o = 0 ∧ w.heap[(β 0).a]? = some (.cells (SV.denL E β l).toArray 80 (0, 0)) := hw.ok 0 _ rfl
theorem cell_of {w : World} {m : Nat} {cs : Array Value} {T : TypeId} (h : w.heap[m]? = some (.cells cs T (0, 0))) (j : Nat) : w.cell? ⟨m, j, none⟩ = cs[j]? ∧ w.frozen? ⟨m, j, none⟩ = false := by
  simp [World.cell?, World.frozen?, h]
theorem world_wset {w : World} {m : Nat} {cs : Array Value} {T : TypeId} (h : w.heap[m]? = some (.cells cs T (0, 0))) : w = wset w m (.cells cs T (0, 0)) := by
  have hm := (Array.getElem?_eq_some_iff.1 h)
  obtain ⟨hl, he⟩ := hm
  unfold wset
  have : w.heap.setIfInBounds m (.cells cs T (0, 0)) = w.heap := by
    apply Array.ext_getElem?
    intro i
    rw [Array.getElem?_setIfInBounds]
    split
    · rename_i hi; subst hi; exact h.symm
    · rfl
  rw [this]
theorem setCell_wset' {w : World} {m : Nat} {cs : Array Value} {T : TypeId} (hl : m < w.heap.size) (off : Nat) (v : Value) : (wset w m (.cells cs T (0, 0))).setCell ⟨m, off, none⟩ v = wset w m (.cells (cs.setIfInBounds off v) T (0, 0)) := by
  rw [setCell_wset (wset_same hl), wset_wset]
theorem ct40_ok : CtOk Tryd.prog fns ct40 := by
  intro E β w hE _ hw hF
  refine ⟨fun a ha => (by cases ha; intro q hq; cases hq), ?_⟩
  have p0 : 0 ≤ E.i 0 := of_decide_eq_true (hF (.le (.c 0) (.v 0), true) (by simp [ct40, bd]))
  have p1 : E.i 0 ≤ 50 := of_decide_eq_true (hF (.le (.v 0) (.c 50), true) (by simp [ct40, bd]))
  obtain ⟨n, hn⟩ : ∃ n : Nat, E.i 0 = n := ⟨(E.i 0).toNat, by omega⟩
  have hw' : HOk E β [.cells [.int .u64 (.v 10), .own 1, .int .u64 (.v 11), .bool (.v 0), .int .u64 (.v 13), .int .u64 (.v 14), .int .u64 perE] 80, quW] w := hw
  obtain ⟨ho0, hblk⟩ := spc_cells hw'
  have hq := qw_q hE hw'
  rw [hn, Int.toNat_natCast] at hq
  obtain ⟨m, hm⟩ : ∃ m, (β 0).a = m := ⟨_, rfl⟩
  rw [hm] at hblk
  have hcs : (SV.denL E β [.int .u64 (.v 10), .own 1, .int .u64 (.v 11), .bool (.v 0), .int .u64 (.v 13), .int .u64 (.v 14), .int .u64 perE]).toArray = #[.int .u64 (E.i 10), (β 1).v, .int .u64 (E.i 11), .bool (E.b 0), .int .u64 (E.i 13), .int .u64 (E.i 14), .int .u64 (perE.den E)] := rfl
  rw [hcs] at hblk
  have hml : m < w.heap.size := (Array.getElem?_eq_some_iff.1 hblk).1
  have hc1 : w.cell? ⟨m, 1, none⟩ = some (β 1).v := (cell_of hblk 1).1
  have hf1 : w.frozen? ⟨m, 1, none⟩ = false := (cell_of hblk 1).2
  have hargs : (SV.denL E β ct40.args).toArray = #[.pointer (some ⟨m, 0, none⟩), .int .u64 (E.i 1)] := by
    simp only [ct40, SV.denL, SV.den, SE.den, hm, ho0]; rfl
  rw [hargs]
  have hfd := f3_den hE (.v 0) (.v 0) (.v 1)
  have eA : (AE.v 0).den E = E.a 0 := by funext j; simp only [AE.den]
  rw [eA, d_v, hn, Int.toNat_natCast, d_v] at hfd
  have dead : ∀ x, (β 1).v.ownBlock = some x → x ≠ m ∧ x < w.heap.size := fun x hx => by
    have hat : quW.at E (β 1) x := by
      show E.fn.ft 1003 _ (β 1).a (β 1).v x
      rw [hE]; exact (qokw.ft _ _ _ _ _ _).2 hx
    refine ⟨fun hh => ?_, hw'.lt 1 _ x rfl hat⟩
    have := hw'.dis 0 1 _ _ x rfl rfl ⟨trivial, by rw [hm]; exact hh⟩ hat
    cases this
  have fin : ∀ (w' : World), PutPost m n (E.a 0) (E.i 1) w w' → hasA (E.a 0) n (E.i 1) = false → ctPost E β w ct40 (.returned (.tuple #[])) w' := fun w' ⟨wB, G, ROW, b1, b2, b3, b4, b5, b6, b7, b8, b9, b10, b11, b12, b13⟩ hno => by
    obtain ⟨bk, hbk⟩ : ∃ bk : Bk, bk = { a := wB.heap.size, z := false, n := n + 1, c := G, o := 0 } := ⟨_, rfl⟩
    have hbv : bk.v = .slice (some ⟨wB.heap.size, 0, none⟩) (n + 1) G := by rw [hbk]; rfl
    have hblkM : (wB.alloc (.cells ROW 29)).heap[m]? = some (.cells #[.int .u64 (E.i 10), (β 1).v, .int .u64 (E.i 11), .bool (E.b 0), .int .u64 (E.i 13), .int .u64 (E.i 14), .int .u64 (perE.den E)] 80 (0, 0)) := by
      simp only [World.alloc]
      rw [Array.getElem?_push_lt (by omega), ← Array.getElem?_eq_getElem, b2 m hml]; exact hblk
    have eN : putN (E.a 0) n (E.i 1) = n + 1 ∧ putA (E.a 0) n (E.i 1) = insA (E.a 0) n (kx (E.a 0) (E.i 1) n) (E.i 1) := by simp [putN, putA, hno]
    obtain ⟨k1, k2⟩ := two_step (l' := [.int .u64 (.v 10), .own 2, .int .u64 (.v 11), .bool (.v 0), .int .u64 (.v 13), .int .u64 (.v 14), .int .u64 perE]) (N := f3 5 (.v 0) (.v 0) (.v 1)) (A := a3 5 (.v 0) (.v 0) (.v 1)) (wM := wB.alloc (.cells ROW 29)) (w' := w') (bk := bk) hE (by decide) (by decide) hw' (by show wB.os = _; exact b3) (by show wB.tape = _; exact b4) (by show wB.output = _; exact b5)
      (by simp only [World.alloc, Array.size_push]; omega)
      (fun k hk _ => by
        simp only [World.alloc]
        rw [Array.getElem?_push_lt (by omega), ← Array.getElem?_eq_getElem, b2 k hk])
      (by
        rw [hfd.1, hfd.2.2, eN.1, eN.2, hbv]
        refine .inr ⟨wB.heap.size, 0, G, rfl, b6, b7, ?_, fun j hj => ⟨?_, ?_⟩, fun i j hi hj => ?_⟩
        · simp only [World.alloc, Array.getElem?_push_size]; rfl
        · rw [World.cell?_alloc_at (w := wB) ROW _ wB.heap.size _ rfl, Array.getElem?_eq_getElem (by
            have : qw.S = 1 := rfl
            rw [this] at hj; omega)]; rfl
        · exact World.frozen?_alloc_at (w := wB) ROW _ wB.heap.size _ rfl
        · have hS : qw.S = 1 := rfl
          rw [hS] at hj ⊢
          have hj0 : j = 0 := by omega
          subst hj0
          rw [World.cell?_alloc_at (w := wB) ROW _ wB.heap.size _ rfl, qw_val, show 0 + (i * 1 + 0) = i by omega]
          have hi' : i < n + 1 := hi
          rw [b9 i hi']; rfl)
      (fun x hx => by
        rw [hbv] at hx
        simp only [Value.ownBlock, Option.some.injEq] at hx
        subst hx
        exact ⟨by simp only [World.alloc, Array.size_push]; omega, .inl b1⟩)
      (by
        rw [b10, setCell_wset hblkM, hm]
        congr 2
        have : SV.denL E (upB β 2 bk) [.int .u64 (.v 10), .own 2, .int .u64 (.v 11), .bool (.v 0), .int .u64 (.v 13), .int .u64 (.v 14), .int .u64 perE] = [.int .u64 (E.i 10), bk.v, .int .u64 (E.i 11), .bool (E.b 0), .int .u64 (E.i 13), .int .u64 (E.i 14), .int .u64 (perE.den E)] := by
          simp only [SV.denL, SV.den, upB_self]; rfl
        rw [this, hbv]; rfl) b11 b12 b13
    exact ctPost0 (c := ct40) (β' := upB β 2 bk) rfl rfl rfl rfl k1 k2
  cases hh : hasA (E.a 0) n (E.i 1) with
  | true =>
    rcases hq with ⟨hv, h0⟩ | ⟨g, off, c, hv, h1, h2, h3, h4, h5⟩
    · subst h0; simp [hasA] at hh
    · refine (put_have m g off n c (E.i 1) (E.a 0) w (by omega) (by rw [hc1, hv]) (fun j hj => ?_) hh).mono ?_
      · have := h5 j 0 hj (by decide)
        rw [qw_val] at this
        rw [show off + j = off + (j * qw.S + 0) by rw [show qw.S = 1 from rfl]; omega]; exact this
      · rintro e w' ⟨rfl, rfl⟩
        have eN : putN (E.a 0) n (E.i 1) = n ∧ putA (E.a 0) n (E.i 1) = E.a 0 := by simp [putN, putA, hh]
        obtain ⟨k1, k2⟩ := two_step (l' := [.int .u64 (.v 10), .own 2, .int .u64 (.v 11), .bool (.v 0), .int .u64 (.v 13), .int .u64 (.v 14), .int .u64 perE]) (N := f3 5 (.v 0) (.v 0) (.v 1)) (A := a3 5 (.v 0) (.v 0) (.v 1)) (wM := w') (w' := w') (bk := β 1) hE (by decide) (by decide) hw' rfl rfl rfl (Nat.le_refl _) (fun _ _ _ => rfl)
          (by rw [hfd.1, hfd.2.2, eN.1, eN.2]; exact .inr ⟨g, off, c, hv, h1, h2, h3, h4, h5⟩) (fun x hx => ⟨(dead x hx).2, .inr hx⟩)
          (by
            have : SV.denL E (upB β 2 (β 1)) [.int .u64 (.v 10), .own 2, .int .u64 (.v 11), .bool (.v 0), .int .u64 (.v 13), .int .u64 (.v 14), .int .u64 perE] = [.int .u64 (E.i 10), (β 1).v, .int .u64 (E.i 11), .bool (E.b 0), .int .u64 (E.i 13), .int .u64 (E.i 14), .int .u64 (perE.den E)] := by
              simp only [SV.denL, SV.den, upB_self]; rfl
            rw [this, hm]
            exact congrArg World.heap (world_wset hblk)) rfl rfl rfl
        exact ctPost0 (c := ct40) (β' := upB β 2 (β 1)) rfl rfl rfl rfl k1 k2
  | false =>
    rcases hq with ⟨hv, h0⟩ | ⟨g, off, c, hv, h1, h2, h3, h4, h5⟩
    · subst h0
      refine (put_nil m (E.i 1) (E.a 0) w hml hf1 (by rw [hc1, hv])).mono ?_
      rintro e w' ⟨rfl, hp⟩
      exact fin w' hp hh
    · obtain ⟨d1, d2⟩ := dead g (by rw [hv]; rfl)
      refine (put_new m g off n c (E.i 1) (E.a 0) w (by omega) h1 h2 (Ne.symm d1) hml d2 hf1 (by rw [hc1, hv]) (fun j hj => ?_) hh).mono ?_
      · have := h5 j 0 hj (by decide)
        rw [qw_val] at this
        rw [show off + j = off + (j * qw.S + 0) by rw [show qw.S = 1 from rfl]; omega]; exact this
      · rintro e w' ⟨rfl, hp⟩
        exact fin w' hp hh
theorem ct29_ok : CtOk Tryd.prog fns ct29 := by
  intro E β w hE _ hw hF
  refine ⟨fun a ha => (by cases ha; intro q hq; cases hq), ?_⟩
  have p0 : 1 ≤ E.i 0 := of_decide_eq_true (hF (.le (.c 1) (.v 0), true) (by simp [ct29, bd]))
  obtain ⟨n, hn⟩ : ∃ n : Nat, E.i 0 = n := ⟨(E.i 0).toNat, by omega⟩
  have hw' : HOk E β [.cells [.int .u64 (.v 10), .own 1, .int .u64 (.v 11), .bool (.v 0), .int .u64 (.v 13), .int .u64 (.v 14), .int .u64 perE] 80, quW] w := hw
  obtain ⟨ho0, hblk⟩ := spc_cells hw'
  have hq := qw_q hE hw'
  rw [hn, Int.toNat_natCast] at hq
  obtain ⟨m, hm⟩ : ∃ m, (β 0).a = m := ⟨_, rfl⟩
  rw [hm] at hblk
  have hcs : (SV.denL E β [.int .u64 (.v 10), .own 1, .int .u64 (.v 11), .bool (.v 0), .int .u64 (.v 13), .int .u64 (.v 14), .int .u64 perE]).toArray = #[.int .u64 (E.i 10), (β 1).v, .int .u64 (E.i 11), .bool (E.b 0), .int .u64 (E.i 13), .int .u64 (E.i 14), .int .u64 (perE.den E)] := rfl
  rw [hcs] at hblk
  have hml : m < w.heap.size := (Array.getElem?_eq_some_iff.1 hblk).1
  have hargs : (SV.denL E β ct29.args).toArray = #[.pointer (some ⟨m, 0, none⟩)] := by
    simp only [ct29, SV.denL, SV.den, SE.den, hm, ho0]; rfl
  rw [hargs]
  have dead : ∀ x, (β 1).v.ownBlock = some x → x ≠ m ∧ x < w.heap.size := fun x hx => by
    have hat : quW.at E (β 1) x := by
      show E.fn.ft 1003 _ (β 1).a (β 1).v x
      rw [hE]; exact (qokw.ft _ _ _ _ _ _).2 hx
    refine ⟨fun hh => ?_, hw'.lt 1 _ x rfl hat⟩
    have := hw'.dis 0 1 _ _ x rfl rfl ⟨trivial, by rw [hm]; exact hh⟩ hat
    cases this
  rcases hq with ⟨hv, h0⟩ | ⟨g, off, c, hv, h1, h2, h3, h4, h5⟩
  · omega
  obtain ⟨d1, d2⟩ := dead g (by rw [hv]; rfl)
  have hx0 : w.cell? ⟨g, off, none⟩ = some (.int .u64 (E.a 0 0)) := by
    have := h5 0 0 (by omega) (by decide)
    rw [qw_val] at this
    rw [show off = off + (0 * qw.S + 0) by omega]; exact this
  refine (next_walk m g off n c (E.i 10) (E.i 11) (E.i 13) (E.i 14) (perE.den E) (E.a 0 0) (E.b 0) w (by omega) h1 h2 (Ne.symm d1) (fun j => (cell_of hblk j).2) (cell_of hblk 0).1 (by rw [(cell_of hblk 1).1, ← hv]; rfl) (cell_of hblk 2).1 (cell_of hblk 4).1 (cell_of hblk 5).1 (cell_of hblk 6).1 hx0).mono ?_
  rintro e w' ⟨rfl, off', c', mx, X, q0, q1, q2, q3, q4⟩
  obtain ⟨bk, hbk⟩ : ∃ bk : Bk, bk = { a := g, z := false, n := n - 1, c := c', o := off' } := ⟨_, rfl⟩
  have hbv : bk.v = .slice (some ⟨g, off', none⟩) (n - 1) c' := by rw [hbk]; rfl
  have hX : X = wset w m (.cells #[.int .u64 (E.a 0 0), bk.v, .int .u64 (imx (E.i 11) (E.i 10)), .bool (E.b 0), .int .u64 0, .int .u64 (perE.den E), .int .u64 (perE.den E)] 80 (0, 0)) := by
    have e : mx = imx (E.i 11) (E.i 10) := by rw [q0]; unfold imx; split <;> omega
    rw [q3, e, setCell_wset hblk, setCell_wset' hml, setCell_wset' hml, setCell_wset' hml, setCell_wset' hml, hbv]; rfl
  obtain ⟨k1, k2⟩ := two_step (l' := [.int .u64 (.rd (.v 0) (.c 0)), .own 2, .int .u64 (.mx (.v 11) (.v 10)), .bool (.v 0), .int .u64 (.c 0), .int .u64 perE, .int .u64 perE]) (N := .sub (.v 0) (.c 1)) (A := .dr (.v 0) (.c 1)) (wM := w) (w' := w') (bk := bk) hE (by decide) (by decide) hw' rfl rfl rfl (Nat.le_refl _) (fun _ _ _ => rfl)
    (by
      have en : ((SE.sub (.v 0) (.c 1)).den E).toNat = n - 1 := by simp only [d_sub, d_v, d_c, hn]; omega
      have eA : (AE.dr (.v 0) (.c 1)).den E = fun j => E.a 0 (j + 1) := by
        funext j; simp only [AE.den, SE.den]; rfl
      rw [en, eA, hbv]
      refine .inr ⟨g, off', c', rfl, by omega, by omega, h3, fun j hj => ?_, fun i j hi hj => ?_⟩
      · have hS : qw.S = 1 := rfl
        rw [hS] at hj h4
        rcases q1 with q1 | q1
        · omega
        · rw [q1, Nat.add_assoc]; exact h4 (1 + j) (by omega)
      · have hS : qw.S = 1 := rfl
        rw [hS] at hj
        have hj0 : j = 0 := by omega
        subst hj0
        rcases q1 with q1 | q1
        · omega
        · have := h5 (i + 1) 0 (by omega) (by decide)
          rw [qw_val] at this ⊢
          rw [show off' + (i * qw.S + 0) = off + ((i + 1) * qw.S + 0) by rw [q1, hS]; omega]; exact this)
    (fun x hx => by
      rw [hbv] at hx
      simp only [Value.ownBlock, Option.some.injEq] at hx
      subst hx
      exact ⟨d2, .inr (by rw [hv]; rfl)⟩)
    (by
      rw [q4]
      show X.heap = _
      rw [hX, hm]
      congr 2) (by rw [q4]; show X.os = _; rw [hX]; rfl) (by rw [q4]; show X.tape = _; rw [hX]; rfl) (by rw [q4]; show X.output = _; rw [hX]; rfl)
  exact ctPost0 (c := ct29) (β' := upB β 2 bk) rfl rfl rfl rfl k1 k2
end Go.Proofs.YtjanndmmhjnpcaaDoor
