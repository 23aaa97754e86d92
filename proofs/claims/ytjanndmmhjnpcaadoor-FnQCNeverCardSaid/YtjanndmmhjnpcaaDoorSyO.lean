/- Rows of the call's own: their length, their elements, appending to them. -/
import Derived.Test.YtjanndmmhjnpcaaDoorSyI
import Derived.ArgAppend
import Derived.Laws.Tables
set_option autoImplicit true
set_option relaxedAutoImplicit true
set_option linter.unusedVariables false
set_option linter.unusedSimpArgs false
namespace Go.Sy
open Go
variable {E : Env} {β : Nat → Bk} {P : Program} {w : World}
def rowLen (F : Fx) (n : SE) (ks : List SK) (tail : List SV) : SE := .mkAdd (nn F n) (.c ((tail.length / ks.length : Nat) : Int))
def sOwn (P : Program) (gm : Gm) (F : Fx) (h : List SBlk) (tmps : Tm) (op : Op) : RP :=
  match op with
  | .call c => match c.callee, c.argTypes.toList, evL gm tmps c.args.toList with
    | .builtin .len, t :: _, some [.own b] => match P.underlying t, h[b]? with
      | some (.slice _), some (.row _ ks n tail _) => if ks.length = 0 then .no else .val (.int .i64 (rowLen F n ks tail))
      | _, _ => .no
    | _, _, _ => .no
  | .indexAddr T x ix => match ev gm tmps x, ev gm tmps ix with
    | some (.own b), some (.int k i) => match P.underlying T, h[b]? with
      | some (.slice e), some (.row _ ks n tail _) => if sizeT P e = some ks.length ∧ ks.length ≠ 0 then
          onB F (.mkLe (.c 0) i) (onB F (.mkLt i (rowLen F n ks tail)) (.val (.ptr b ⟨cstR F i, ks.length, 0⟩)) .dead) .dead
        else .no
      | _, _ => .no
    | _, _ => .no
  | _ => .no
theorem row_den {F : Fx} (hF : Facts E F) {b : Nat} {a : AE} {ks : List SK} {n : SE} {tail : List SV} {S : TypeId} (hk : ks.length ≠ 0) (h : SBlk.ok E β (β b) w (.row a ks n tail S)) :
    ((β b).z = true ∧ (SV.own b).den E β = .slice none 0 0 ∧ (rowLen F n ks tail).den E = 0) ∨
    ((β b).z = false ∧ (SV.own b).den E β = .slice (some ⟨(β b).a, 0, none⟩) (β b).n (β b).c ∧ (rowLen F n ks tail).den E = ((β b).n : Int)) := by
  obtain ⟨m, h1, h2⟩ := row_v h
  have hm : tail.length / ks.length = m := by rw [h1]; exact Nat.mul_div_cancel _ (Nat.pos_of_ne_zero hk)
  have hl : (rowLen F n ks tail).den E = (((n.den E).toNat + m : Nat) : Int) := by
    unfold rowLen
    rw [SE.den_mkAdd, nn_ok hF, hm]; simp [SE.den]
  rcases h2 with ⟨h3, h4, h5⟩ | ⟨h3, h4, _⟩
  · left; refine ⟨h3, by simp [SV.den, Bk.v, h3], by rw [hl]; omega⟩
  · right; refine ⟨h3, by simp [SV.den, Bk.v, h3, show (β b).o = 0 from h.1], by rw [hl, h4]⟩
theorem sOwn_ok {gm : Gm} (hg : gm.ok β) {F : Fx} (hF : Facts E F) {h : List SBlk} (hw : HOk E β h w) {tmps : Tm} {ds : List Deferred} {o : Oper} {v : SV}
    (hr : sOwn P gm F h tmps o.op = .val v) : (execOp (actD E β tmps ds).eval o).run P w = .ok (.value (v.den E β)) w := by
  unfold execOp
  cases ho : o.op <;> simp only [ho, sOwn] at hr <;> try (first | (cases hr; done))
  case call c =>
    split at hr
    · rename_i t ts b hc hts hl
      split at hr
      · rename_i e a ks n tail S hd hb
        split at hr
        · cases hr
        · rename_i hk
          cases hr
          simp only [resolve, hc, Sem.run_bind, Sem.run_pure, Result.andThen_ok, invoke, evL_arr (E := E) (ds := ds) hg hl]
          obtain ⟨argTypes, he⟩ : ∃ l, c.argTypes = l := ⟨_, rfl⟩
          rw [he] at hts ⊢
          obtain ⟨argTypes⟩ := argTypes
          simp only at hts
          subst hts
          rcases row_den hF hk (hw.ok b _ hb) with ⟨_, h1, h2⟩ | ⟨_, h1, h2⟩
          · have e1 : SV.denL E β [.own b] = [.slice none 0 0] := by rw [SV.denL, SV.denL, h1]
            rw [e1]
            simp [builtin, Builtin.len_, underlying, hd, goInt, SV.den, h2]
          · have e1 : SV.denL E β [.own b] = [.slice (some ⟨(β b).a, 0, none⟩) (β b).n (β b).c] := by rw [SV.denL, SV.denL, h1]
            rw [e1]
            simp [builtin, Builtin.len_, underlying, hd, goInt, SV.den, h2]
      · cases hr
    · cases hr
  case indexAddr T x ix =>
    split at hr
    · rename_i b k i hx hi
      split at hr
      · rename_i e a ks n tail S hd hb
        split at hr
        · rename_i hk
          simp only [ev_ok hg hx, ev_ok hg hi]
          rcases onB_val hF hr with ⟨h0, hr⟩ | ⟨_, hr⟩
          · rcases onB_val hF hr with ⟨h1, hr⟩ | ⟨_, hr⟩
            · cases hr
              rw [SB.den_mkLe] at h0; rw [SB.den_mkLt] at h1
              have h0' : (0 : Int) ≤ i.den E := of_decide_eq_true h0
              have h1' : i.den E < (rowLen F n ks tail).den E := of_decide_eq_true h1
              rcases row_den hF hk.2 (hw.ok b _ hb) with ⟨_, h3, h4⟩ | ⟨_, h3, h4⟩
              · omega
              · rw [h4] at h1'
                have hbo : (β b).o = 0 := (hw.ok b _ hb).1
                refine val_run ?_
                rw [h3]
                simp only [Instr.indexAt, SV.den, asIntOf, Sem.run_bind, Sem.run_pure, Result.andThen_ok, underlying, run_program, hd]
                simp only [h0', h1', and_self, if_true, Sem.run_bind, sizeT_ok hk.1, Result.andThen_ok, Sem.run_pure, addr_add, Off.den, cstR_ok hF, Nat.zero_add, Nat.add_zero, hbo]
            · cases hr
          · cases hr
        · cases hr
      · cases hr
    · cases hr
def kill (ob : Option Nat) (h : List SBlk) : List SBlk :=
  match ob with
  | some b => h.set b .dead
  | none => h
theorem kill_length (ob : Option Nat) (h : List SBlk) : (kill ob h).length = h.length := by cases ob <;> simp [kill]
theorem kill_get {ob : Option Nat} {h : List SBlk} {i : Nat} {s : SBlk} {bk : Bk} (hs : (kill ob h)[i]? = some s) (hr : s.real bk) : h[i]? = some s ∧ ob ≠ some i := by
  cases ob with
  | none => exact ⟨hs, by simp⟩
  | some b =>
    simp only [kill] at hs
    by_cases hib : b = i
    · subst hib
      rw [List.getElem?_set] at hs
      split at hs
      · split at hs
        · cases hs; exact hr.elim
        · cases hs
      · rename_i hh; exact (hh rfl).elim
    · rw [List.getElem?_set_ne hib] at hs; exact ⟨hs, by simp [hib]⟩
theorem kill_get2 {ob : Option Nat} {h : List SBlk} {i : Nat} {s : SBlk} (hs : (kill ob h)[i]? = some s) : s = .dead ∨ (h[i]? = some s ∧ ob ≠ some i) := by
  cases ob with
  | none => exact .inr ⟨hs, by simp⟩
  | some b =>
    simp only [kill] at hs
    by_cases hib : b = i
    · subst hib
      rw [List.getElem?_set] at hs
      split at hs
      · split at hs
        · cases hs; exact .inl rfl
        · cases hs
      · rename_i hh; exact (hh rfl).elim
    · rw [List.getElem?_set_ne hib] at hs; exact .inr ⟨hs, by simp [hib]⟩
theorem HOk.grow {h : List SBlk} (hw : HOk E β h w) (hbnd : h.all (SBlk.bnd h.length) = true) {ob : Option Nat} {old : Option Nat} (hob : ∀ g, old = some g → ∃ b a ks n l S, ob = some b ∧ h[b]? = some (.row a ks n l S) ∧ (β b).z = false ∧ g = (β b).a)
    {a : AE} {ks : List SK} {n : SE} {tail : List SV} {S : TypeId} {bk : Bk} {w' : World} (hos : w'.os = w.os) (htp : w'.tape = w.tape) (hop : w'.output = w.output) (hsz : w.heap.size ≤ w'.heap.size)
    (hold : ∀ c, c < w.heap.size → some c ≠ old → w'.heap[c]? = w.heap[c]?) (hnew : bk.z = false → (w.heap.size ≤ bk.a ∨ old = some bk.a) ∧ bk.a < w'.heap.size) (hl : SV.bndL h.length tail = true)
    (hok : SBlk.ok E β bk w' (.row a ks n tail S)) :
    HOk E (upB β h.length bk) (kill ob h ++ [.row a ks n tail S]) w' ∧ Ext E h β w E (kill ob h ++ [.row a ks n tail S]) (upB β h.length bk) w' := by
  have hag : ∀ i, i < h.length → upB β h.length bk i = β i := fun i hi => upB_ne (by omega)
  have lt2 : ∀ i s, (kill ob h ++ [SBlk.row a ks n tail S])[i]? = some s → (i < h.length ∧ (kill ob h)[i]? = some s ∧ upB β h.length bk i = β i) ∨ (i = h.length ∧ s = .row a ks n tail S ∧ upB β h.length bk i = bk) := fun i s hs => by
    rcases Nat.lt_or_ge i h.length with h1 | h1
    · rw [List.getElem?_append_left (by rw [kill_length]; exact h1)] at hs; exact .inl ⟨h1, hs, hag i h1⟩
    · have hi : i = h.length := by
        have := (List.getElem?_eq_some_iff.1 hs).1
        simp [kill_length] at this; omega
      subst hi
      rw [List.getElem?_append_right (by rw [kill_length]; exact h1)] at hs
      simp [kill_length] at hs
      exact .inr ⟨rfl, hs.symm, upB_self _ _ _⟩
  have apart : ∀ (i : Nat) (s : SBlk) (x : Nat), (kill ob h)[i]? = some s → s.at E (β i) x → x < w.heap.size ∧ some x ≠ old := fun i s x hs hr => by
    obtain ⟨h1, h2⟩ := kill_get hs (SBlk.at_real hr)
    refine ⟨hw.lt i s x h1 hr, fun hh => ?_⟩
    obtain ⟨b, a', ks', n', l', S', e1, e2, e3, e4⟩ := hob _ hh.symm
    exact h2 (by rw [e1, hw.dis i b _ _ x h1 e2 hr ⟨e3, e4⟩])
  refine ⟨⟨fun i j s t x hi hj hri hrj => ?_, fun i s x hi hr => ?_, fun i s hs => ?_⟩, ⟨by simp [kill_length], hag, fun i s hi hk hr => ?_, fun i s x h2 hr => ?_, hsz, fun c hc hn => ?_, hos, htp, hop⟩⟩
  · rcases lt2 i s hi with ⟨h1, h2, h3⟩ | ⟨h1, h2, h3⟩ <;> rcases lt2 j t hj with ⟨h4, h5, h6⟩ | ⟨h4, h5, h6⟩ <;> rw [h3] at hri <;> rw [h6] at hrj
    · exact hw.dis i j s t x (kill_get h2 (SBlk.at_real hri)).1 (kill_get h5 (SBlk.at_real hrj)).1 hri hrj
    · obtain ⟨a1, a2⟩ := apart i s x h2 hri
      rw [h5] at hrj
      obtain ⟨r1, r2⟩ := hrj
      subst r2
      rcases (hnew r1).1 with h7 | h7
      · omega
      · exact (a2 h7.symm).elim
    · obtain ⟨a1, a2⟩ := apart j t x h5 hrj
      rw [h2] at hri
      obtain ⟨r1, r2⟩ := hri
      subst r2
      rcases (hnew r1).1 with h7 | h7
      · omega
      · exact (a2 h7.symm).elim
    · omega
  · rcases lt2 i s hi with ⟨h1, h2, h3⟩ | ⟨h1, h2, h3⟩ <;> rw [h3] at hr
    · have := (apart i s x h2 hr).1; omega
    · rw [h2] at hr
      obtain ⟨r1, r2⟩ := hr
      subst r2
      exact (hnew r1).2
  · rcases lt2 i s hs with ⟨h1, h2, h3⟩ | ⟨h1, h2, h3⟩ <;> rw [h3]
    · rcases kill_get2 h2 with rfl | ⟨h4, _⟩
      · trivial
      · have hsb : s.bnd h.length = true := List.all_eq_true.1 hbnd s (List.mem_of_getElem? h4)
        rw [SBlk.ok_agree hag s hsb]
        exact SBlk.ok_frame (fun x hx => hold _ (apart i s x h2 hx).1 (apart i s x h2 hx).2) (hw.ok i s h4)
    · rw [h2, SBlk.ok_agree hag (.row a ks n tail S) hl]; exact hok
  · rw [List.getElem?_append_left (by rw [kill_length]; exact hi)] at hk
    exact ⟨s, (kill_get hk (SBlk.wr_real hr)).1, hr⟩
  · rcases lt2 i s h2 with ⟨h3, h4, h5⟩ | ⟨h3, h4, h5⟩
    · rw [h5] at hr
      exact .inr ⟨i, s, (kill_get h4 (SBlk.at_real hr)).1, hr, .inr rfl⟩
    · rw [h5, h4] at hr
      obtain ⟨r1, r2⟩ := hr
      subst r2
      rcases (hnew r1).1 with h7 | h7
      · exact .inl h7
      · obtain ⟨b, a', ks', n', l', S', e1, e2, e3, e4⟩ := hob _ h7
        exact .inr ⟨b, _, e2, ⟨e3, e4⟩, .inl e3⟩
  · refine hold c hc fun hh => ?_
    obtain ⟨b, a', ks', n', l', S', e1, e2, e3, e4⟩ := hob _ hh.symm
    exact hn b _ e2 e3 ⟨e3, e4⟩
inductive AR where
  | ok (h : List SBlk) (v : SV)
  | fork (b : SB)
  | dead
  | no
def onA (F : Fx) (b : SB) (k : AR) : AR :=
  match dec F b with
  | some true => k
  | some false => .dead
  | none => .fork b
theorem onA_ok {F : Fx} (hF : Facts E F) {b : SB} {k : AR} {h : List SBlk} {v : SV} (hr : onA F b k = .ok h v) : b.den E = true ∧ k = .ok h v := by
  unfold onA at hr
  split at hr
  · rename_i hd; exact ⟨dec_ok hF hd, hr⟩
  · cases hr
  · cases hr
def appNews (h : List SBlk) (sz : Nat) (x : SV) : Option (List SV × Nat) :=
  match x with
  | .slice b o (.c m) _ => match h[b]?, constRow o with
    | some (.cells l _), some p =>
      if p + m.toNat * sz ≤ l.length ∧ ((l.drop p).take (m.toNat * sz)).all SV.isCell = true then some ((l.drop p).take (m.toNat * sz), m.toNat) else none
    | _, _ => none
  | .own b => match h[b]? with
    | some (.row _ ks (.c 0) l _) => if ks.length = sz ∧ sz ≠ 0 ∧ l ≠ [] ∧ l.length % sz = 0 ∧ l.all SV.isCell = true then some (l, l.length / sz) else none
    | _ => none
  | _ => none
def kindOf : Value → SK
  | .int k _ => .int k
  | .bool _ => .bool
  | _ => .opq
def kindsOf (z : Value) : List SK := z.cells.toList.map kindOf
def appOld (h : List SBlk) (ks0 : List SK) (sz : Nat) (e : TypeId) (s : SV) : Option (Option Nat × AE × List SK × SE × List SV) :=
  match s with
  | .nilslice => some (none, .v 0, ks0, .c 0, [])
  | .own b => match h[b]? with
    | some (.row a ks n tail S) => if ks.length = sz ∧ S = e then some (some b, a, ks, n, tail) else none
    | _ => none
  | _ => none
def appLim (bytes cnt : Nat) : Int := (140737488355328 / max 1 bytes : Nat) - (cnt : Int)
def sAppend (P : Program) (gm : Gm) (F : Fx) (h : List SBlk) (tmps : Tm) (op : Op) : AR :=
  match op with
  | .call c => match c.callee, c.argTypes.toList, evL gm tmps c.args.toList with
    | .builtin .append, [t, t'], some [s, x] => if t = t' then match P.underlying t with
      | some (.slice e) => match P.info? e with
        | some i => match i.zero with
          | some z => if z.cells.size = i.size ∧ 0 < i.size then match appNews h i.size x, appOld h (kindsOf z) i.size e s with
            | some (news, m), some (ob, a, ks, n, tail) =>
              if h.all (SBlk.bnd h.length) && SV.bndL h.length (tail ++ news) && decide (0 ≤ appLim i.bytes (tail.length / i.size + m)) then
                onA F (.mkLe n (.c (appLim i.bytes (tail.length / i.size + m)))) (.ok (kill ob h ++ [.row a ks n (tail ++ news) e]) (.own h.length))
              else .no
            | _, _ => .no
          else .no
          | none => .no
        | none => .no
      | _ => .no
      else .no
    | _, _, _ => .no
  | _ => .no
theorem denL_append (l r : List SV) : SV.denL E β (l ++ r) = SV.denL E β l ++ SV.denL E β r := by
  simp [SV.denL_map]
theorem appNews_ok {h : List SBlk} (hw : HOk E β h w) {sz : Nat} {x : SV} {news : List SV} {m : Nat} (hr : appNews h sz x = some (news, m)) :
    ∃ ad c, x.den E β = .slice (some ad) m c ∧ (SV.denL E β news).length = m * sz ∧ (∀ j u, (SV.denL E β news)[j]? = some u → w.cell? (ad.add j) = some u) ∧ (∀ u ∈ SV.denL E β news, u.oneCell' = true) := by
  unfold appNews at hr
  split at hr
  · rename_i b o m' c
    split at hr
    · rename_i l S p hb hp
      split at hr
      · rename_i hc
        cases hr
        have hbo : (β b).o = 0 := (hw.ok b _ hb).1
        refine ⟨⟨(β b).a, (β b).o + p, none⟩, (c.den E).toNat, by simp [SV.den, constRow_ok hp, SE.den], ?_, fun j u hj => ?_, fun u hu => ?_⟩
        · rw [denL_length]; simp; omega
        · rw [addr_add, Nat.add_assoc, cell_cells hw hb]
          rw [SV.denL_map, List.getElem?_map] at hj
          rw [← hj]
          have hjn : j < m'.toNat * sz := by
            rcases Nat.lt_or_ge j (m'.toNat * sz) with h1 | h1
            · exact h1
            · rw [List.getElem?_eq_none (by simp; omega)] at hj; cases hj
          rw [List.getElem?_take_of_lt hjn, List.getElem?_drop]
        · rw [SV.denL_map] at hu
          obtain ⟨s, hs, rfl⟩ := List.mem_map.1 hu
          exact isCell_ok (List.all_eq_true.1 hc.2 s hs)
      · cases hr
    · cases hr
  · rename_i b
    split at hr
    · rename_i a ks l S hb
      split at hr
      · rename_i hc
        cases hr
        obtain ⟨hk, hz, hne, hmod, hall⟩ := hc
        have hbo : (β b).o = 0 := (hw.ok b _ hb).1
        obtain ⟨m, hm, hrest⟩ := row_v (hw.ok b _ hb)
        rw [hk] at hm
        have hmm : news.length / sz = m := by rw [hm]; exact Nat.mul_div_cancel _ (Nat.pos_of_ne_zero hz)
        have hl0 : news.length ≠ 0 := fun h => hne (List.eq_nil_of_length_eq_zero h)
        rcases hrest with ⟨h3, h4, h5⟩ | ⟨h3, h4, _⟩
        · subst h5; simp at hm; exact (hne hm).elim
        · have hn : (β b).n = m := by rw [h4]; simp [SE.den]
          refine ⟨⟨(β b).a, 0, none⟩, (β b).c, by simp [SV.den, Bk.v, h3, hmm, hn], by rw [denL_length, hmm, hm], fun j u hj => ?_, fun u hu => ?_⟩
          · have hjl : j < news.length := by
              have := (List.getElem?_eq_some_iff.1 hj).1
              rwa [denL_length] at this
            have := cell_row hw hb j (by simp [SE.den]; exact hjl)
            rw [hbo, Nat.zero_add] at this
            rw [addr_add, Nat.zero_add, this]
            have e : rowCells E β (β b).q a ks ((SE.c 0).den E).toNat news = SV.denL E β news := by simp [rowCells, SE.den]
            rw [e]; exact hj
          · rw [SV.denL_map] at hu
            obtain ⟨s, hs, rfl⟩ := List.mem_map.1 hu
            exact isCell_ok (List.all_eq_true.1 hall s hs)
      · cases hr
    · cases hr
  · cases hr
theorem rowCells_append (q : Nat → Value) (a : AE) (ks : List SK) (n : Nat) (tail news : List SV) : rowCells E β q a ks n (tail ++ news) = rowCells E β q a ks n tail ++ SV.denL E β news := by
  simp [rowCells, denL_append]
theorem sAppend_ok {gm : Gm} (hg : gm.ok β) {F : Fx} (hF : Facts E F) {h h' : List SBlk} (hw : HOk E β h w) {tmps : Tm} {ds : List Deferred} {o : Oper} {v : SV}
    (hr : sAppend P gm F h tmps o.op = .ok h' v) : ∃ bk w', (execOp (actD E β tmps ds).eval o).run P w = .ok (.value (v.den E (upB β h.length bk))) w' ∧ HOk E (upB β h.length bk) h' w' ∧ Ext E h β w E h' (upB β h.length bk) w' := by
  unfold execOp
  cases ho : o.op <;> simp only [ho, sAppend] at hr <;> try (first | (cases hr; done))
  rename_i c
  split at hr
  · rename_i t t' s x hc hts hl
    split at hr
    · rename_i htt
      subst htt
      split at hr
      · rename_i e hd
        split at hr
        · rename_i i hi
          split at hr
          · rename_i z hz
            split at hr
            · rename_i hzs
              split at hr
              · rename_i news m ob a ks n tail hnews hold
                split at hr
                · rename_i hb
                  simp only [Bool.and_eq_true, decide_eq_true_eq] at hb
                  obtain ⟨hlim, hr⟩ := onA_ok hF hr
                  cases hr
                  rw [SB.den_mkLe] at hlim
                  have hlim : n.den E ≤ appLim i.bytes (tail.length / i.size + m) := of_decide_eq_true hlim
                  obtain ⟨ad, xc, hx, hn1, hn2, hn3⟩ := appNews_ok hw hnews
                  have hat : c.argTypes = #[t, t] := by
                    obtain ⟨l, he⟩ : ∃ l, c.argTypes = l := ⟨_, rfl⟩
                    rw [he] at hts ⊢
                    obtain ⟨l⟩ := l
                    simp only at hts
                    rw [hts]
                  simp only [resolve, hc, Sem.run_bind, Sem.run_pure, Result.andThen_ok, invoke, evL_arr (E := E) (ds := ds) hg hl, hat]
                  have hlen : ∀ mt : Nat, tail.length = mt * i.size → (n.den E).toNat + mt + m ≤ 140737488355328 / max 1 i.bytes := fun mt hmt => by
                    have e1 : tail.length / i.size = mt := by rw [hmt]; exact Nat.mul_div_cancel _ hzs.2
                    rw [e1] at hlim hb
                    unfold appLim at hlim hb
                    omega
                  have hbytes : ∀ k : Nat, k ≤ 140737488355328 / max 1 i.bytes → k ≤ maxLen ∧ k * i.bytes ≤ 140737488355328 := fun k hk => by
                    have h1 : k * max 1 i.bytes ≤ 140737488355328 := by
                      have := Nat.mul_le_mul_right (max 1 i.bytes) hk
                      exact Nat.le_trans this (Nat.div_mul_le_self _ _)
                    have h2 : k * i.bytes ≤ k * max 1 i.bytes := Nat.mul_le_mul_left _ (by omega)
                    have h3 : k * 1 ≤ k * max 1 i.bytes := Nat.mul_le_mul_left _ (by omega)
                    constructor
                    · simp only [maxLen]; omega
                    · omega
                  have fin : ∀ (q : Nat → Value) (v' : Value) (w' : World) (old : Option Nat) (mt base : Nat), tail.length = mt * i.size → ks.length = i.size → (Builtin.append_ #[t, t] o.type #[s.den E β, x.den E β]).run P w = .ok v' w' →
                      w'.ownsRow base e i.size v' ((n.den E).toNat + mt + m) (rowCells E β q a ks (n.den E).toNat tail ++ SV.denL E β news) → w.grownBy w' old → (∀ g, v'.ownBlock = some g → w.heap.size ≤ g ∨ old = some g) →
                      (∀ g, old = some g → ∃ b a ks n l S, ob = some b ∧ h[b]? = some (.row a ks n l S) ∧ (β b).z = false ∧ g = (β b).a) →
                      ∃ bk w', ((do pure (Next.value (← Builtin.append_ #[t, t] o.type #[s.den E β, x.den E β]))) : Sem Next).run P w = .ok (.value ((SV.own h.length).den E (upB β h.length bk))) w' ∧
                        HOk E (upB β h.length bk) (kill ob h ++ [.row a ks n (tail ++ news) e]) w' ∧ Ext E h β w E (kill ob h ++ [.row a ks n (tail ++ news) e]) (upB β h.length bk) w' := by
                    intro q v' w' old mt base hmt hks hrun hown hgr hbl hobl
                    have hm' : (tail ++ news).length = (mt + m) * ks.length := by
                      rw [List.length_append, hmt, hks, Nat.add_mul, ← hn1, denL_length]
                    have go : ∀ bk : Bk, bk.q = q → bk.o = 0 → bk.v = v' → (bk.z = false → v'.ownBlock = some bk.a ∧ bk.a < w'.heap.size) → ∃ bk w', ((do pure (Next.value (← Builtin.append_ #[t, t] o.type #[s.den E β, x.den E β]))) : Sem Next).run P w = .ok (.value ((SV.own h.length).den E (upB β h.length bk))) w' ∧
                        HOk E (upB β h.length bk) (kill ob h ++ [.row a ks n (tail ++ news) e]) w' ∧ Ext E h β w E (kill ob h ++ [.row a ks n (tail ++ news) e]) (upB β h.length bk) w' := fun bk hbq hbo hbk hbz => by
                      have hok : SBlk.ok E β bk w' (.row a ks n (tail ++ news) e) := by
                        refine ⟨hbo, mt + m, hm', ?_⟩
                        rw [hbq, rowCells_append, hbk, ← Nat.add_assoc, hks]
                        exact ⟨hown.1, hown.2.imp id fun ⟨g, cap, cur, h1, _, h2⟩ => ⟨g, cap, cur, h1, Nat.zero_le _, h2⟩⟩
                      have hag : ∀ i, i < h.length → upB β h.length bk i = β i := fun i hi => upB_ne (by omega)
                      obtain ⟨k1, k2⟩ := HOk.grow hw hb.1.1 hobl hgr.os hgr.tape hgr.output hgr.size (fun c hc hne => hgr.block c hc hne.symm.symm) (fun hz => ⟨hbl _ (hbz hz).1, (hbz hz).2⟩) hb.1.2 hok
                      refine ⟨bk, w', ?_, k1, k2⟩
                      rw [Sem.run_bind, hrun]
                      simp [SV.den, upB_self, hbk]
                    rcases hown.2 with ⟨hv, _⟩ | ⟨g, cap, cur, hv, _, hg2, _⟩
                    · exact go ⟨0, true, 0, 0, 0, q⟩ rfl rfl (by rw [hv]; rfl) (fun hz => by cases hz)
                    · exact go ⟨g, false, _, cap, 0, q⟩ rfl rfl (by rw [hv]; rfl) (fun _ => ⟨by rw [hv]; rfl, (Array.getElem?_eq_some_iff.1 hg2).1⟩)
                  have hargs : (SV.denL E β [s, x]).toArray = #[s.den E β, x.den E β] := rfl
                  rw [hargs]
                  show ∃ bk w', ((do pure (Next.value (← Builtin.append_ #[t, t] o.type #[s.den E β, x.den E β]))) : Sem Next).run P w = _ ∧ _
                  unfold appOld at hold
                  split at hold
                  · cases hold
                    have hl0 := hlen 0 (by simp)
                    obtain ⟨b1, b2⟩ := hbytes _ hl0
                    simp only [SE.den] at b1 b2
                    obtain ⟨v', w', r1, r2, r3, _⟩ := run_append_own (P := P) w w.heap.size t o.type e i z i.size i.bytes hd hi hz rfl rfl hzs.1 hzs.2 (.slice none 0 0) 0 [] (World.ownsRow_nil w _ e i.size) ad m xc (SV.denL E β news) hn1 hn2 hn3 (by simpa using b1) (by simpa using b2) (Nat.le_refl _)
                    refine fin (fun _ => .nilIface) v' w' none 0 w.heap.size (by simp) (by simp [kindsOf, hzs.1]) (by rw [hx]; exact r1) (by simpa [rowCells, SE.den, SV.denL] using r2) r3 (fun g hg' => .inl (r2.lt g hg').1) (fun g hg' => by cases hg')
                  · rename_i b
                    split at hold
                    · rename_i a' ks' n' tail' S hbk
                      split at hold
                      · rename_i hks
                        cases hold
                        obtain ⟨hks, rfl⟩ := hks
                        have hblk := hw.ok b _ hbk
                        obtain ⟨mt, hmt, hrest⟩ := row_v hblk
                        rw [hks] at hmt
                        have hl0 := hlen mt hmt
                        obtain ⟨b1, b2⟩ := hbytes _ hl0
                        rcases hrest with ⟨h3, h4, h5⟩ | ⟨h3, h4, h5, h6, cur, h7, h8, h9⟩
                        · have htl : tail = [] := List.eq_nil_of_length_eq_zero (by rw [hmt, h5]; simp)
                          subst htl
                          obtain ⟨v', w', r1, r2, r3, _⟩ := run_append_own (P := P) w w.heap.size t o.type S i z i.size i.bytes hd hi hz rfl rfl hzs.1 hzs.2 (.slice none 0 0) 0 [] (World.ownsRow_nil w _ S i.size) ad m xc (SV.denL E β news) hn1 hn2 hn3 (by omega) (by rw [h4, h5] at b2; simpa using b2) (Nat.le_refl _)
                          refine fin (β b).q v' w' none mt w.heap.size hmt hks (by rw [hx]; simpa [SV.den, Bk.v, h3] using r1) (by rw [h4, h5]; simpa [rowCells, SV.denL] using r2) r3 (fun g hg' => .inl (r2.lt g hg').1) (fun g hg' => by cases hg')
                        · have hv : (SV.own b).den E β = .slice (some ⟨(β b).a, 0, none⟩) (β b).n (β b).c := by simp [SV.den, Bk.v, h3, show (β b).o = 0 from hblk.1]
                          rw [hks] at h8 h9
                          have hxs : (rowCells E β (β b).q a ks (n.den E).toNat tail).length = (β b).n * i.size := by rw [rowCells_length, hmt, hks, h4, Nat.add_mul]
                          by_cases hroom : (β b).n + m ≤ (β b).c
                          · have hfit : (β b).n * i.size + (SV.denL E β news).length ≤ cur.size := by
                              rw [hn1, h8, ← Nat.add_mul]; exact Nat.mul_le_mul_right _ hroom
                            have r1 := run_append_room (P := P) w t o.type S i hd hi (β b).a (β b).n (β b).c cur h7 ad m xc (SV.denL E β news) hn1 hn2 hn3 hroom hfit
                            have hlt : (β b).a < w.heap.size := (Array.getElem?_eq_some_iff.1 h7).1
                            refine fin (β b).q _ _ (some (β b).a) mt 0 hmt hks (by rw [hx, hv]; exact r1) ?_ ?_ (fun g hg' => .inr (by simpa [Value.ownBlock] using hg')) (fun g hg' => ⟨b, _, _, _, _, _, rfl, hbk, h3, by simpa using hg'.symm⟩)
                            · refine ⟨by rw [List.length_append, hxs, hn1, h4]; simp only [Nat.add_mul], .inr ⟨(β b).a, (β b).c, (cur.toList.take ((β b).n * i.size) ++ SV.denL E β news ++ cur.toList.drop ((β b).n * i.size + (SV.denL E β news).length)).toArray, by rw [h4], Nat.zero_le _, ?_, by omega, h6, ?_, ?_⟩⟩
                              · exact setRow_heap w _ _ _ _ _ h7
                              · simp
                                rw [← h8]
                                omega
                              · have hle : (rowCells E β (β b).q a ks (n.den E).toNat tail ++ SV.denL E β news).length = ((n.den E).toNat + mt + m) * i.size := by rw [List.length_append, hxs, hn1, h4]; simp only [Nat.add_mul]
                                rw [h9, ← hle]
                                exact List.take_left
                            · exact ⟨rfl, rfl, rfl, by simp, fun k _ hk => setRow_other w _ k _ (fun hh => hk (by rw [hh]))⟩
                          · obtain ⟨v', w', r1, r2, r3⟩ := run_append_arg_grows (P := P) w t o.type S i z i.size i.bytes hd hi hz rfl rfl hzs.1 hzs.2 ⟨(β b).a, 0, none⟩ (β b).n (β b).c (rowCells E β (β b).q a ks (n.den E).toNat tail) hxs (fun j u hj => by
                              have hjl : j < (rowCells E β (β b).q a ks (n.den E).toNat tail).length := (List.getElem?_eq_some_iff.1 hj).1
                              rw [rowCells_length] at hjl
                              have h0 : (β b).o + j = j := by rw [(show (β b).o = 0 from hblk.1), Nat.zero_add]
                              rw [addr_add, Nat.zero_add, ← h0, cell_row hw hbk j hjl]; exact hj) ad m xc (SV.denL E β news) hn1 hn2 (by omega) (by rw [h4]; exact b1) (by rw [h4]; exact b2)
                            refine fin (β b).q v' w' none mt w.heap.size hmt hks (by rw [hx, hv]; exact r1) (by rw [← h4]; exact r2) r3 (fun g hg' => .inl (r2.lt g hg').1) (fun g hg' => by cases hg')
                      · cases hold
                    · cases hold
                  · cases hold
                · cases hr
              · cases hr
            · cases hr
          · cases hr
        · cases hr
      · cases hr
    · cases hr
  · cases hr
theorem own_append {t ty e : TypeId} {i : TypeInfo} {z : Value} (ht : P.underlying t = some (.slice e)) (hi : P.info? e = some i) (hz : i.zero = some z) (hzs : z.cells.size = i.size) (hsz : 0 < i.size)
    {v : Value} {n : Nat} {xs : List Value} (hown : w.ownsRow 0 e i.size v n xs) {ad : Addr} {m c : Nat} {news : List Value} (hl : news.length = m * i.size) (hnews : ∀ j u, news[j]? = some u → w.cell? (ad.add j) = some u) (h1 : ∀ u ∈ news, u.oneCell' = true)
    (h63 : n + m ≤ maxLen) (hbytes : (n + m) * i.bytes ≤ 140737488355328) :
    ∃ v' w', (Builtin.append_ #[t, t] ty #[v, .slice (some ad) m c]).run P w = .ok v' w' ∧ w'.ownsRow 0 e i.size v' (n + m) (xs ++ news) ∧ w.grownBy w' v.ownBlock ∧ (∀ g, v'.ownBlock = some g → w.heap.size ≤ g ∨ v.ownBlock = some g) ∧ (∀ g, v'.ownBlock = some g → g < w'.heap.size) := by
  have low : ∀ {w' : World} {v' : Value} {n : Nat} {xs : List Value} {B : Nat}, w'.ownsRow B e i.size v' n xs → w'.ownsRow 0 e i.size v' n xs ∧ ∀ g, v'.ownBlock = some g → B ≤ g ∧ g < w'.heap.size := fun {w'} {v'} {n} {xs} {B} h => by
    refine ⟨⟨h.1, h.2.imp id fun ⟨g, cap, cur, a1, _, a2⟩ => ⟨g, cap, cur, a1, Nat.zero_le _, a2⟩⟩, fun g hg => ?_⟩
    rcases h.2 with ⟨hv, _⟩ | ⟨g', cap, cur, hv, a1, a2, _⟩
    · rw [hv] at hg; cases hg
    · rw [hv] at hg; simp [Value.ownBlock] at hg; subst hg; exact ⟨a1, (Array.getElem?_eq_some_iff.1 a2).1⟩
  rcases hown.2 with ⟨hv, hn0⟩ | ⟨g, cap, cur, hv, _, h5, h6, h7, h8, h9⟩
  · subst hv; subst hn0
    have hx0 : xs = [] := List.eq_nil_of_length_eq_zero (by rw [hown.1]; simp)
    subst hx0
    obtain ⟨v', w', r1, r2, r3, _⟩ := run_append_own (P := P) w w.heap.size t ty e i z i.size i.bytes ht hi hz rfl rfl hzs hsz (.slice none 0 0) 0 [] (World.ownsRow_nil w _ e i.size) ad m c news hl hnews h1 h63 hbytes (Nat.le_refl _)
    obtain ⟨l1, l2⟩ := low r2
    exact ⟨v', w', r1, l1, r3, fun g hg => .inl (l2 g hg).1, fun g hg => (l2 g hg).2⟩
  · subst hv
    by_cases hroom : n + m ≤ cap
    · have hfit : n * i.size + news.length ≤ cur.size := by rw [hl, h8, ← Nat.add_mul]; exact Nat.mul_le_mul_right _ hroom
      have hlt : g < w.heap.size := (Array.getElem?_eq_some_iff.1 h5).1
      refine ⟨_, _, run_append_room (P := P) w t ty e i ht hi g n cap cur h5 ad m c news hl hnews h1 hroom hfit, ?_, ⟨rfl, rfl, rfl, by simp, fun k _ hk => setRow_other w _ k _ (fun hh => hk (by rw [hh]; rfl))⟩, fun g' hg' => .inr (by simpa [Value.ownBlock] using hg'), fun g' hg' => by simp [Value.ownBlock] at hg'; subst hg'; simpa using hlt⟩
      refine ⟨by rw [List.length_append, hown.1, hl, Nat.add_mul], .inr ⟨g, cap, (cur.toList.take (n * i.size) ++ news ++ cur.toList.drop (n * i.size + news.length)).toArray, rfl, Nat.zero_le _, ?_, by omega, h7, ?_, ?_⟩⟩
      · exact setRow_heap w _ _ _ _ _ h5
      · simp; rw [← h8]; omega
      · have hle : (xs ++ news).length = (n + m) * i.size := by rw [List.length_append, hown.1, hl, Nat.add_mul]
        rw [h9, ← hle]
        exact List.take_left
    · obtain ⟨v', w', r1, r2, r3⟩ := run_append_arg_grows (P := P) w t ty e i z i.size i.bytes ht hi hz rfl rfl hzs hsz ⟨g, 0, none⟩ n cap xs hown.1 (fun j u hj => by
        have hjl : j < xs.length := (List.getElem?_eq_some_iff.1 hj).1
        rw [addr_add, Nat.zero_add]
        rw [← h9] at hj hjl
        simp only [World.cell?, h5]
        simp only [List.length_take] at hjl
        rw [List.getElem?_take_of_lt (by omega)] at hj
        simpa using hj) ad m c news hl hnews (by omega) h63 hbytes
      obtain ⟨l1, l2⟩ := low r2
      exact ⟨v', w', r1, l1, ⟨r3.os, r3.tape, r3.output, r3.size, fun k hk _ => r3.block k hk (by simp)⟩, fun g hg => .inl (l2 g hg).1, fun g hg => (l2 g hg).2⟩
theorem own_append_nil {t ty e : TypeId} {i : TypeInfo} (ht : P.underlying t = some (.slice e)) (hi : P.info? e = some i) {v : Value} {n : Nat} {xs : List Value} (hown : w.ownsRow 0 e i.size v n xs) :
    (Builtin.append_ #[t, t] ty #[v, .slice none 0 0]).run P w = .ok v w := by
  rcases hown.2 with ⟨hv, hn0⟩ | ⟨g, cap, cur, hv, _, h5, h6, h7, h8, h9⟩
  · subst hv; simp [Builtin.append_, run_underlying ht, sizeOf, typeInfo, hi, Builtin.lenOf, Builtin.firstCells]
  · subst hv; simp [Builtin.append_, run_underlying ht, sizeOf, typeInfo, hi, Builtin.lenOf, Builtin.firstCells, h6, storeCells]
def plainK : SK → Bool
  | .opq => false
  | _ => true
def sAppend2 (P : Program) (gm : Gm) (F : Fx) (h : List SBlk) (tmps : Tm) (op : Op) : AR :=
  match op with
  | .call c => match c.callee, c.argTypes.toList, evL gm tmps c.args.toList with
    | .builtin .append, [t, t'], some [s, .own b2] => if t = t' then match P.underlying t with
      | some (.slice e) => match P.info? e with
        | some i => match i.zero with
          | some z => if z.cells.size = i.size ∧ 0 < i.size then match h[b2]?, appOld h (kindsOf z) i.size e s with
            | some (.row a2 ks2 n2 tail2 S2), some (ob, a, ks, .c 0, []) =>
              if h.all (SBlk.bnd h.length) && SV.bndL h.length tail2 && decide (ks2.length = i.size) && ks2.all plainK && tail2.all SV.isCell && decide (0 ≤ appLim i.bytes (tail2.length / i.size)) then
                onA F (.mkLe n2 (.c (appLim i.bytes (tail2.length / i.size)))) (.ok (kill ob h ++ [.row a2 ks2 n2 tail2 e]) (.own h.length))
              else .no
            | _, _ => .no
          else .no
          | none => .no
        | none => .no
      | _ => .no
      else .no
    | _, _, _ => .no
  | _ => .no
theorem sAppend2_ok {gm : Gm} (hg : gm.ok β) {F : Fx} (hF : Facts E F) {h h' : List SBlk} (hw : HOk E β h w) {tmps : Tm} {ds : List Deferred} {o : Oper} {v : SV}
    (hr : sAppend2 P gm F h tmps o.op = .ok h' v) : ∃ bk w', (execOp (actD E β tmps ds).eval o).run P w = .ok (.value (v.den E (upB β h.length bk))) w' ∧ HOk E (upB β h.length bk) h' w' ∧ Ext E h β w E h' (upB β h.length bk) w' := by
  unfold execOp
  cases ho : o.op <;> simp only [ho, sAppend2] at hr <;> try (first | (cases hr; done))
  rename_i c
  split at hr
  · rename_i t t' s b2 hc hts hl
    split at hr
    · rename_i htt
      subst htt
      split at hr
      · rename_i e hd
        split at hr
        · rename_i i hi
          split at hr
          · rename_i z hz
            split at hr
            · rename_i hzs
              split at hr
              · rename_i a2 ks2 n2 tail2 S2 ob a ks hb2 hold
                split at hr
                · rename_i hb
                  simp only [Bool.and_eq_true, decide_eq_true_eq] at hb
                  obtain ⟨⟨⟨⟨⟨hb1, hb3⟩, hks2⟩, hpk⟩, hcell⟩, hlim0⟩ := hb
                  obtain ⟨hlim, hr⟩ := onA_ok hF hr
                  cases hr
                  rw [SB.den_mkLe] at hlim
                  have hlim : n2.den E ≤ appLim i.bytes (tail2.length / i.size) := of_decide_eq_true hlim
                  have hat : c.argTypes = #[t, t] := by
                    obtain ⟨l, he⟩ : ∃ l, c.argTypes = l := ⟨_, rfl⟩
                    rw [he] at hts ⊢
                    obtain ⟨l⟩ := l
                    simp only at hts
                    rw [hts]
                  simp only [resolve, hc, Sem.run_bind, Sem.run_pure, Result.andThen_ok, invoke, evL_arr (E := E) (ds := ds) hg hl, hat]
                  have hargs : (SV.denL E β [s, .own b2]).toArray = #[s.den E β, (SV.own b2).den E β] := rfl
                  rw [hargs]
                  show ∃ bk w', ((do pure (Next.value (← Builtin.append_ #[t, t] o.type #[s.den E β, (SV.own b2).den E β]))) : Sem Next).run P w = _ ∧ _
                  -- what it is appended to
                  have hdst : ∃ bk0 : Bk, s.den E β = bk0.v ∧ bk0.o = 0 ∧ w.ownsRow 0 e i.size (s.den E β) 0 [] ∧ (∀ g, (s.den E β).ownBlock = some g → ∃ b a ks n l S, ob = some b ∧ h[b]? = some (.row a ks n l S) ∧ (β b).z = false ∧ g = (β b).a) := by
                    unfold appOld at hold
                    split at hold
                    · exact ⟨{ a := 0 }, rfl, rfl, World.ownsRow_nil w _ e i.size, fun g hg => by cases hg⟩
                    · rename_i b
                      split at hold
                      · rename_i a' ks' n' tail' S hbk
                        split at hold
                        · rename_i hkk
                          cases hold
                          obtain ⟨hkk1, rfl⟩ := hkk
                          have hblk := hw.ok b _ hbk
                          obtain ⟨h0, m, hm, hown⟩ := hblk
                          have hm0 : m = 0 := by
                            have hmm : 0 = m * ks.length := hm
                            rcases Nat.mul_eq_zero.1 hmm.symm with h | h
                            · exact h
                            · omega
                          subst hm0
                          refine ⟨β b, rfl, h0, ?_, fun g hg => ?_⟩
                          · have : rowCells E β (β b).q a ks ((SE.c 0).den E).toNat [] = [] := by simp [rowCells, SE.den, SV.denL]
                            rw [this, hkk1] at hown
                            exact hown
                          · have hz : (β b).z = false := by
                              cases hz : (β b).z with
                              | false => rfl
                              | true => simp [SV.den, Bk.v, hz, Value.ownBlock] at hg
                            refine ⟨b, _, _, _, _, _, rfl, hbk, hz, ?_⟩
                            simp [SV.den, Bk.v, hz, Value.ownBlock] at hg
                            exact hg.symm
                        · cases hold
                      · cases hold
                    · cases hold
                  obtain ⟨bk0, hbv, hbo, hown0, hobl⟩ := hdst
                  -- the end
                  have fin : ∀ (v' : Value) (w' : World) (m : Nat), tail2.length = m * ks2.length → (Builtin.append_ #[t, t] o.type #[s.den E β, (SV.own b2).den E β]).run P w = .ok v' w' →
                      w'.ownsRow 0 e i.size v' ((n2.den E).toNat + m) (rowCells E β (β b2).q a2 ks2 (n2.den E).toNat tail2) → w.grownBy w' (s.den E β).ownBlock → (∀ g, v'.ownBlock = some g → w.heap.size ≤ g ∨ (s.den E β).ownBlock = some g) → (∀ g, v'.ownBlock = some g → g < w'.heap.size) →
                      ∃ bk w', ((do pure (Next.value (← Builtin.append_ #[t, t] o.type #[s.den E β, (SV.own b2).den E β]))) : Sem Next).run P w = .ok (.value ((SV.own h.length).den E (upB β h.length bk))) w' ∧
                        HOk E (upB β h.length bk) (kill ob h ++ [.row a2 ks2 n2 tail2 e]) w' ∧ Ext E h β w E (kill ob h ++ [.row a2 ks2 n2 tail2 e]) (upB β h.length bk) w' := by
                    intro v' w' m hm hrun hown hgr hbl hbs
                    have go : ∀ bk : Bk, bk.q = (β b2).q → bk.o = 0 → bk.v = v' → (bk.z = false → v'.ownBlock = some bk.a) → ∃ bk w', ((do pure (Next.value (← Builtin.append_ #[t, t] o.type #[s.den E β, (SV.own b2).den E β]))) : Sem Next).run P w = .ok (.value ((SV.own h.length).den E (upB β h.length bk))) w' ∧
                        HOk E (upB β h.length bk) (kill ob h ++ [.row a2 ks2 n2 tail2 e]) w' ∧ Ext E h β w E (kill ob h ++ [.row a2 ks2 n2 tail2 e]) (upB β h.length bk) w' := fun bk hbq hbo hbk hbz => by
                      have hok : SBlk.ok E β bk w' (.row a2 ks2 n2 tail2 e) := ⟨hbo, m, hm, by rw [hbq, hbk, hks2]; exact hown⟩
                      obtain ⟨k1, k2⟩ := HOk.grow hw hb1 (old := (s.den E β).ownBlock) hobl hgr.os hgr.tape hgr.output hgr.size (fun c hc hne => hgr.block c hc hne) (fun hz => ⟨hbl _ (hbz hz), hbs _ (hbz hz)⟩) hb3 hok
                      refine ⟨bk, w', ?_, k1, k2⟩
                      rw [Sem.run_bind, hrun]
                      simp [SV.den, upB_self, hbk]
                    rcases hown.2 with ⟨hv, _⟩ | ⟨g, cap, cur, hv, _⟩
                    · exact go ⟨0, true, 0, 0, 0, (β b2).q⟩ rfl rfl (by rw [hv]; rfl) (fun hz => by cases hz)
                    · exact go ⟨g, false, _, cap, 0, (β b2).q⟩ rfl rfl (by rw [hv]; rfl) (fun _ => by rw [hv]; rfl)
                  obtain ⟨m, hm, hrest⟩ := row_v (hw.ok b2 _ hb2)
                  rcases hrest with ⟨h3, h4, h5⟩ | ⟨h3, h4, h5, h6, cur, h7, h8, h9⟩
                  · have htl : tail2 = [] := List.eq_nil_of_length_eq_zero (by rw [hm, h5]; simp)
                    have hsv : (SV.own b2).den E β = .slice none 0 0 := by simp [SV.den, Bk.v, h3]
                    have hrun := own_append_nil (P := P) (w := w) (t := t) (ty := o.type) hd hi hown0
                    refine fin (s.den E β) w m hm (by rw [hsv]; exact hrun) ?_ ⟨rfl, rfl, rfl, Nat.le_refl _, fun _ _ _ => rfl⟩ (fun g hg => .inr hg) (fun g hg => ?_)
                    · have : rowCells E β (β b2).q a2 ks2 (n2.den E).toNat tail2 = [] := by rw [h4, htl]; simp [rowCells, SV.denL]
                      rw [this, h4, h5]; exact hown0
                    · obtain ⟨b, _, _, _, _, _, _, e2, e3, e4⟩ := hobl g hg
                      rw [e4]; exact hw.lta e2 e3 rfl
                  · have hsv : (SV.own b2).den E β = .slice (some ⟨(β b2).a, 0, none⟩) (β b2).n (β b2).c := by simp [SV.den, Bk.v, h3, show (β b2).o = 0 from (hw.ok b2 _ hb2).1]
                    have hlen : (rowCells E β (β b2).q a2 ks2 (n2.den E).toNat tail2).length = (β b2).n * i.size := by rw [rowCells_length, hm, hks2, h4, Nat.add_mul]
                    have hmt : tail2.length / i.size = m := by rw [hm, hks2]; exact Nat.mul_div_cancel _ hzs.2
                    have htot : (β b2).n ≤ 140737488355328 / max 1 i.bytes := by
                      rw [hmt] at hlim hlim0
                      unfold appLim at hlim hlim0
                      rw [h4]; omega
                    have hbytes : (β b2).n ≤ maxLen ∧ (β b2).n * i.bytes ≤ 140737488355328 := by
                      have h1 : (β b2).n * max 1 i.bytes ≤ 140737488355328 := Nat.le_trans (Nat.mul_le_mul_right (max 1 i.bytes) htot) (Nat.div_mul_le_self _ _)
                      have h2 : (β b2).n * i.bytes ≤ (β b2).n * max 1 i.bytes := Nat.mul_le_mul_left _ (by omega)
                      exact ⟨Nat.le_trans h5 h6, by omega⟩
                    have hone : ∀ u ∈ rowCells E β (β b2).q a2 ks2 (n2.den E).toNat tail2, u.oneCell' = true := fun u hu => by
                      unfold rowCells at hu
                      rw [List.mem_append] at hu
                      rcases hu with hu | hu
                      · obtain ⟨j, hj, rfl⟩ := List.mem_map.1 hu
                        have hjl := List.mem_range.1 hj
                        have hK : j % ks2.length < ks2.length := Nat.mod_lt _ (by omega)
                        have hmem : ks2.getD (j % ks2.length) default ∈ ks2 := by
                          rw [List.getD_eq_getElem?_getD, List.getElem?_eq_getElem hK]
                          exact List.getElem_mem hK
                        have := List.all_eq_true.1 hpk _ hmem
                        revert this
                        generalize ks2.getD (j % ks2.length) default = kk
                        intro this
                        cases kk <;> simp_all [plainK, SK.val, Value.oneCell']
                      · rw [SV.denL_map] at hu
                        obtain ⟨x, hx, rfl⟩ := List.mem_map.1 hu
                        exact isCell_ok (List.all_eq_true.1 hcell x hx)
                    obtain ⟨v', w', r1, r2, r3, r4, r5⟩ := own_append (P := P) (w := w) (t := t) (ty := o.type) hd hi hz hzs.1 hzs.2 hown0 (ad := ⟨(β b2).a, 0, none⟩) (m := (β b2).n) (c := (β b2).c) hlen (fun j u hj => by
                      have hjl : j < (rowCells E β (β b2).q a2 ks2 (n2.den E).toNat tail2).length := (List.getElem?_eq_some_iff.1 hj).1
                      rw [rowCells_length] at hjl
                      have h0 : (β b2).o + j = j := by rw [(show (β b2).o = 0 from (hw.ok b2 _ hb2).1), Nat.zero_add]
                      rw [addr_add, Nat.zero_add, ← h0, cell_row hw hb2 j hjl]; exact hj) hone (by omega) (by rw [Nat.zero_add]; exact hbytes.2)
                    refine fin v' w' m hm (by rw [hsv]; exact r1) ?_ r3 r4 r5
                    rw [List.nil_append, Nat.zero_add, h4] at r2
                    exact r2
                · cases hr
              · cases hr
            · cases hr
          · cases hr
        · cases hr
      · cases hr
    · cases hr
  · cases hr
def rowOp (P : Program) (gm : Gm) (tmps : Tm) (op : Op) : Option (List SV × List SK × TypeId) :=
  match op with
  | .buildSlice T len parts => match P.underlying T, evParts gm tmps parts.toList with
    | some (.slice e), some ps => match sizeT P e, sZero P e, (P.info? e).bind (·.zero) with
      | some sz, some z, some zv => if len * sz ≤ 2 ^ 24 ∧ sz ≠ 0 ∧ z.isEmpty = false ∧ (kindsOf zv).length = sz then
          match sFill (fun i => some (i * sz, sz)) (zeros z (len * sz)) ps with
          | some out => if out.length = len * sz then some (out, kindsOf zv, e) else none
          | none => none
        else none
      | _, _, _ => none
    | _, _ => none
  | _ => none
theorem rowOp_ok {gm : Gm} (hg : gm.ok β) {tmps : Tm} {ds : List Deferred} {o : Oper} {l : List SV} {ks : List SK} {e : TypeId} (hr : rowOp P gm tmps o.op = some (l, ks, e)) :
    ∃ len, l.length = len * ks.length ∧ ks.length ≠ 0 ∧ len ≤ maxLen ∧ (execOp (actD E β tmps ds).eval o).run P w = .ok (.value (.slice (some ⟨w.heap.size, 0, none⟩) len len)) (w.alloc (.cells (SV.denL E β l).toArray e)) := by
  unfold execOp
  cases ho : o.op <;> simp only [ho, rowOp] at hr <;> try (first | (cases hr; done))
  case buildSlice T len parts =>
    split at hr
    · rename_i e' ps hd hps
      split at hr
      · rename_i sz z zv hsz hz hzv
        split at hr
        · rename_i hc
          split at hr
          · rename_i out hout
            split at hr
            · rename_i hlen
              cases hr
              obtain ⟨zz, h1, h2⟩ := sZero_ok (E := E) (β := β) (w := w) hz
              have h3 : ¬ (len * sz > 2 ^ 24) := by omega
              have hpp : (parts.map fun (x : Nat × Operand) => match x with | (i, x) => (i, (actD E β tmps ds).eval x)).toList = ps.map fun p => (p.1, p.2.den E β) := by
                rw [← evParts_ok (E := E) (ds := ds) hg hps]; simp
              have hfill := sFill_ok (E := E) (β := β) hout
              refine ⟨len, by rw [hc.2.2.2]; exact hlen, by rw [hc.2.2.2]; exact hc.2.1, ?_, ?_⟩
              · have : len * 1 ≤ len * sz := Nat.mul_le_mul_left _ (Nat.pos_of_ne_zero hc.2.1)
                simp only [maxLen]; omega
              · by_cases h0 : len * sz = 0
                · have e0 : zeros z (len * sz) = [] := by rw [h0]; rfl
                  rw [e0] at hfill
                  have h30 : ¬ (0 > 2 ^ 24) := by omega
                  simp only [Instr.buildSlice, underlying, Sem.run_bind, run_program, Result.andThen_ok, hd, Sem.run_pure, sizeT_ok hsz, h0]
                  rw [if_neg h30]
                  simp only [if_true, Sem.run_bind, Sem.run_pure, Result.andThen_ok]
                  have e1 : (Array.range 0).map (fun (i : Nat) => (#[] : Array Value)[i % (#[] : Array Value).size]!) = (SV.denL E β []).toArray := by simp [SV.denL]
                  rw [hpp, e1, hfill]
                  simp [newRow]
                · rw [← zeros_ok z (len * sz) (Or.inr (by intro h; simp [h] at hc))] at hfill
                  simp only [Instr.buildSlice, underlying, Sem.run_bind, run_program, Result.andThen_ok, hd, Sem.run_pure, sizeT_ok hsz, h3, if_false, h0, h1]
                  simp only [h2]
                  rw [hpp, hfill]
                  simp [newRow]
            · cases hr
          · cases hr
        · cases hr
      · cases hr
    · cases hr
theorem HOk.pushRow {h : List SBlk} (hw : HOk E β h w) (hbnd : h.all (SBlk.bnd h.length) = true) {l : List SV} {ks : List SK} {S : TypeId} (hl : SV.bndL h.length l = true) {len : Nat} (hlen : l.length = len * ks.length) (hK : ks.length ≠ 0) (hm : len ≤ maxLen) :
    HOk E (upB β h.length ⟨w.heap.size, false, len, len, 0, fun _ => .nilIface⟩) (h ++ [.row (.v 0) ks (.c 0) l S]) (w.alloc (.cells (SV.denL E β l).toArray S)) ∧
    Ext E h β w E (h ++ [.row (.v 0) ks (.c 0) l S]) (upB β h.length ⟨w.heap.size, false, len, len, 0, fun _ => .nilIface⟩) (w.alloc (.cells (SV.denL E β l).toArray S)) := by
  have hag : ∀ i, i < h.length → upB β h.length ⟨w.heap.size, false, len, len, 0, fun _ => .nilIface⟩ i = β i := fun i hi => upB_ne (by omega)
  have hold : ∀ c, c < w.heap.size → (w.alloc (.cells (SV.denL E β l).toArray S)).heap[c]? = w.heap[c]? := fun c hc => by
    show (w.heap.push _)[c]? = _
    rw [Array.getElem?_push, if_neg (by omega)]
  refine HOk.more hw hbnd rfl rfl rfl (by simp) hold (fun x hx => by have := hx.2; simp only at this; subst this; simp) ?_
  refine ⟨rfl, len, hlen, ?_⟩
  have hrc : rowCells E (upB β h.length ⟨w.heap.size, false, len, len, 0, fun _ => .nilIface⟩) (fun _ => .nilIface) (.v 0) ks ((SE.c 0).den E).toNat l = SV.denL E β l := by
    simp only [rowCells, SE.den]
    rw [SV.denL_agree hag l hl]; simp
  rw [hrc]
  have hll : (SV.denL E β l).length = len * ks.length := by rw [denL_length]; exact hlen
  refine ⟨by simpa [SE.den] using hll, .inr ⟨w.heap.size, len, (SV.denL E β l).toArray, by simp [Bk.v, SE.den], Nat.zero_le _, ?_, by simp [SE.den], hm, by simpa using hll, ?_⟩⟩
  · show (w.heap.push _)[w.heap.size]? = _
    simp
  · simp only [SE.den]
    rw [List.take_of_length_le (by simp [hll])]
end Go.Sy
