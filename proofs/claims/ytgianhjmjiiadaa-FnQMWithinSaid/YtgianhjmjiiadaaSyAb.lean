/- One new block behind an operation that takes up some old ones; appending to a row of the call's own, with where the new row lies. -/
import Derived.Test.YtgianhjmjiiadaaSyQ
set_option autoImplicit true
set_option relaxedAutoImplicit true
set_option linter.unusedVariables false
set_option linter.unusedSimpArgs false
namespace Go.Sy
open Go
variable {E E2 : Env} {β : Nat → Bk} {P : Program} {w : World}
def killK (K : List Nat) (h : List SBlk) : List SBlk := h.zipIdx.map fun p => if K.contains p.2 then .dead else p.1
theorem killK_length (K : List Nat) (h : List SBlk) : (killK K h).length = h.length := by simp [killK]
theorem killK_get {K : List Nat} {h : List SBlk} {i : Nat} {s : SBlk} (hs : (killK K h)[i]? = some s) : (K.contains i = true ∧ s = .dead) ∨ (K.contains i = false ∧ h[i]? = some s) := by
  unfold killK at hs
  rw [List.getElem?_map, List.getElem?_zipIdx] at hs
  cases hh : h[i]? with
  | none => rw [hh] at hs; simp at hs
  | some t =>
    rw [hh] at hs
    simp only [Option.map_some, Nat.zero_add, Option.some.injEq] at hs
    cases hk : K.contains i with
    | true => rw [hk] at hs; exact .inl ⟨rfl, by simpa using hs.symm⟩
    | false => rw [hk] at hs; exact .inr ⟨rfl, by simpa using hs⟩
theorem HOk.absorb {h : List SBlk} (hw : HOk E β h w) (hbnd : h.all (SBlk.bnd h.length) = true) (K : List Nat) {n : Nat} (H : AgE n E E2) (hv : h.all (SBlk.vb n) = true) {s1 : SBlk} {bk : Bk} {w' : World}
    (hos : w'.os = w.os) (htp : w'.tape = w.tape) (hop : w'.output = w.output) (hsz : w.heap.size ≤ w'.heap.size)
    (hsame : ∀ c, c < w.heap.size → (∀ (i : Nat) (s : SBlk), K.contains i = true → h[i]? = some s → ¬ s.at E (β i) c) → w'.heap[c]? = w.heap[c]?)
    (hwr : ∀ (i : Nat) (s : SBlk), K.contains i = true → h[i]? = some s → ∀ x, s.at E (β i) x → s.wr (β i))
    (hnew : ∀ x, s1.at E2 bk x → x < w'.heap.size ∧ (w.heap.size ≤ x ∨ ∃ (i : Nat) (s : SBlk), K.contains i = true ∧ h[i]? = some s ∧ s.at E (β i) x))
    (hok : s1.ok E2 (upB β h.length bk) bk w') :
    HOk E2 (upB β h.length bk) (killK K h ++ [s1]) w' ∧ Ext E h β w E2 (killK K h ++ [s1]) (upB β h.length bk) w' := by
  have hag : ∀ i, i < h.length → upB β h.length bk i = β i := fun i hi => upB_ne (by omega)
  have lt2 : ∀ i s, (killK K h ++ [s1])[i]? = some s → (i < h.length ∧ (killK K h)[i]? = some s ∧ upB β h.length bk i = β i) ∨ (i = h.length ∧ s = s1 ∧ upB β h.length bk i = bk) := fun i s hs => by
    rcases Nat.lt_or_ge i h.length with h1 | h1
    · rw [List.getElem?_append_left (by rw [killK_length]; exact h1)] at hs; exact .inl ⟨h1, hs, hag i h1⟩
    · have hi : i = h.length := by
        have := (List.getElem?_eq_some_iff.1 hs).1
        simp [killK_length] at this; omega
      subst hi
      rw [List.getElem?_append_right (by rw [killK_length]; exact h1)] at hs
      simp [killK_length] at hs
      exact .inr ⟨rfl, hs.symm, upB_self _ _ _⟩
  have hvb : ∀ {i : Nat} {s : SBlk}, h[i]? = some s → s.vb n = true := fun hi => List.all_eq_true.1 hv _ (List.mem_of_getElem? hi)
  have old : ∀ (i : Nat) (s : SBlk) (x : Nat), (killK K h)[i]? = some s → s.at E2 (β i) x → K.contains i = false ∧ h[i]? = some s ∧ s.at E (β i) x := fun i s x hs hr => by
    rcases killK_get hs with ⟨_, rfl⟩ | ⟨h1, h2⟩
    · exact hr.1.elim
    · exact ⟨h1, h2, (SBlk.at_ag H s (hvb h2) _ x).1 hr⟩
  have apart : ∀ (i j : Nat) (s t : SBlk) (x : Nat), K.contains i = false → h[i]? = some s → s.at E (β i) x → K.contains j = true → h[j]? = some t → t.at E (β j) x → False := fun i j s t x h1 h2 h3 h4 h5 h6 => by
    have := hw.dis i j s t x h2 h5 h3 h6
    subst this; rw [h1] at h4; cases h4
  have cross : ∀ (i : Nat) (s : SBlk) (x : Nat), (killK K h)[i]? = some s → s.at E2 (β i) x → s1.at E2 bk x → False := fun i s x hs hr hn => by
    obtain ⟨a1, a2, a3⟩ := old i s x hs hr
    rcases (hnew x hn).2 with h7 | ⟨j, t, b1, b2, b3⟩
    · have := hw.lt i s x a2 a3; omega
    · exact apart i j s t x a1 a2 a3 b1 b2 b3
  refine ⟨⟨fun i j s t x hi hj hri hrj => ?_, fun i s x hi hr => ?_, fun i s hs => ?_⟩, ⟨by simp [killK_length], hag, fun i s hi hk hr => ?_, fun i s x h2 hr => ?_, hsz, fun c hc hn => ?_, hos, htp, hop⟩⟩
  · rcases lt2 i s hi with ⟨h1, h2, h3⟩ | ⟨h1, h2, h3⟩ <;> rcases lt2 j t hj with ⟨h4, h5, h6⟩ | ⟨h4, h5, h6⟩ <;> rw [h3] at hri <;> rw [h6] at hrj
    · obtain ⟨_, a2, a3⟩ := old i s x h2 hri
      obtain ⟨_, b2, b3⟩ := old j t x h5 hrj
      exact hw.dis i j s t x a2 b2 a3 b3
    · rw [h5] at hrj; exact (cross i s x h2 hri hrj).elim
    · rw [h2] at hri; exact (cross j t x h5 hrj hri).elim
    · omega
  · rcases lt2 i s hi with ⟨h1, h2, h3⟩ | ⟨h1, h2, h3⟩ <;> rw [h3] at hr
    · obtain ⟨_, a2, a3⟩ := old i s x h2 hr
      have := hw.lt i s x a2 a3; omega
    · rw [h2] at hr; exact (hnew x hr).1
  · rcases lt2 i s hs with ⟨h1, h2, h3⟩ | ⟨h1, h2, h3⟩ <;> rw [h3]
    · rcases killK_get h2 with ⟨_, rfl⟩ | ⟨a1, a2⟩
      · trivial
      · have hsb : s.bnd h.length = true := List.all_eq_true.1 hbnd s (List.mem_of_getElem? a2)
        rw [SBlk.ok_agree hag s hsb, SBlk.ok_ag H s (hvb a2)]
        exact SBlk.ok_frame (fun x hx => hsame x (hw.lt i s x a2 hx) fun j t b1 b2 b3 => apart i j s t x a1 a2 hx b1 b2 b3) (hw.ok i s a2)
    · rw [h2]; exact hok
  · rw [List.getElem?_append_left (by rw [killK_length]; exact hi)] at hk
    rcases killK_get hk with ⟨_, rfl⟩ | ⟨a1, a2⟩
    · exact hr.elim
    · exact ⟨s, a2, hr⟩
  · rcases lt2 i s h2 with ⟨h3, h4, h5⟩ | ⟨h3, h4, h5⟩
    · rw [h5] at hr
      obtain ⟨_, a2, a3⟩ := old i s x h4 hr
      exact .inr ⟨i, s, a2, a3, .inr rfl⟩
    · rw [h5, h4] at hr
      rcases (hnew x hr).2 with h7 | ⟨j, t, b1, b2, b3⟩
      · exact .inl h7
      · exact .inr ⟨j, t, b2, b3, .inl (hwr j t b1 b2 x b3)⟩
  · exact hsame c hc fun i s h1 h2 h3 => hn i s h2 (hwr i s h1 h2 c h3) h3
theorem ctPostX {E : Env} {β β' : Nat → Bk} {w w' : World} {e : Ending} {c : Ct} {a : Alt} (V : Env) (ha : altSel E c.alts = some a) (he : e = .returned (a.res.den (E.upd xb c.nx V) β')) (hw : HOk (E.upd xb c.nx V) β' a.post w') (hx : Ext E c.heap β w (E.upd xb c.nx V) a.post β' w') (hf : Facts (E.upd xb c.nx V) a.xf) : ctPost E β w c e w' :=
  ⟨a, β', V, ha, he, hw, hx, hf⟩
theorem append_own3 (t ty e : TypeId) (i : TypeInfo) (z : Value) (ht : P.underlying t = some (.slice e)) (hi : P.info? e = some i) (hz : i.zero = some z) (hzs : z.cells.size = i.size) (hsz : 0 < i.size)
    {v : Value} {n : Nat} {xs : List Value} (hown : w.ownsRow 0 e i.size v n xs)
    (a : Addr) (m c : Nat) (news : List Value) (hl : news.length = m * i.size) (hnews : ∀ j u, news[j]? = some u → w.cell? (a.add j) = some u) (h1 : ∀ u ∈ news, u.oneCell' = true)
    (h63 : n + m ≤ maxLen) (hbytes : (n + m) * i.bytes ≤ 140737488355328) (hm : 0 < m) :
    ∃ v' w' g cap, (Builtin.append_ #[t, t] ty #[v, .slice (some a) m c]).run P w = .ok v' w' ∧ w'.ownsRow 0 e i.size v' (n + m) (xs ++ news) ∧ w.grownBy w' v.ownBlock ∧ v' = .slice (some ⟨g, 0, none⟩) (n + m) cap ∧ (w.heap.size ≤ g ∨ v.ownBlock = some g) ∧ g < w'.heap.size := by
  have fin : ∀ (v' : Value) (w' : World) (base : Nat) (row : Option Nat), (Builtin.append_ #[t, t] ty #[v, .slice (some a) m c]).run P w = .ok v' w' → w'.ownsRow base e i.size v' (n + m) (xs ++ news) → w.grownBy w' row → (row = none ∨ row = v.ownBlock) → (∀ g, v'.ownBlock = some g → w.heap.size ≤ g ∨ v.ownBlock = some g) →
      ∃ v' w' g cap, (Builtin.append_ #[t, t] ty #[v, .slice (some a) m c]).run P w = .ok v' w' ∧ w'.ownsRow 0 e i.size v' (n + m) (xs ++ news) ∧ w.grownBy w' v.ownBlock ∧ v' = .slice (some ⟨g, 0, none⟩) (n + m) cap ∧ (w.heap.size ≤ g ∨ v.ownBlock = some g) ∧ g < w'.heap.size := by
    intro v' w' base row r1 r2 r3 r4 r5
    rcases r2.2 with ⟨_, hv⟩ | ⟨g, cap, cur, rfl, _, hg, hr⟩
    · omega
    · refine ⟨_, w', g, cap, r1, ⟨r2.1, .inr ⟨g, cap, cur, rfl, Nat.zero_le _, hg, hr⟩⟩, ⟨r3.os, r3.tape, r3.output, r3.size, fun k hk hne => r3.block k hk ?_⟩, rfl, r5 g rfl, (Array.getElem?_eq_some_iff.1 hg).1⟩
      rcases r4 with r4 | r4
      · rw [r4]; simp
      · rw [r4]; exact hne
  have hlen := hown.1
  rcases hown.2 with ⟨rfl, rfl⟩ | ⟨g, cap, cur, rfl, _, hg, hcap, hcm, hcs, hx⟩
  · have hxs : xs = [] := List.eq_nil_of_length_eq_zero (by rw [hlen]; simp)
    subst hxs
    obtain ⟨v', w', r1, r2, r3, _⟩ := run_append_own (P := P) w w.heap.size t ty e i z i.size i.bytes ht hi hz rfl rfl hzs hsz (.slice none 0 0) 0 [] (World.ownsRow_nil w _ e i.size) a m c news hl hnews h1 h63 hbytes (Nat.le_refl _)
    exact fin v' w' w.heap.size none r1 r2 r3 (.inl rfl) fun g hg => .inl (r2.lt g hg).1
  · by_cases hroom : n + m ≤ cap
    · have hfit : n * i.size + news.length ≤ cur.size := by
        rw [hl, hcs, ← Nat.add_mul]; exact Nat.mul_le_mul_right _ hroom
      have r1 := run_append_room (P := P) w t ty e i ht hi g n cap cur hg a m c news hl hnews h1 hroom hfit
      refine fin _ _ 0 (some g) r1 ⟨by rw [List.length_append, hlen, hl, Nat.add_mul], .inr ⟨g, cap, (cur.toList.take (n * i.size) ++ news ++ cur.toList.drop (n * i.size + news.length)).toArray, rfl, Nat.zero_le _, setRow_heap w _ _ _ _ _ hg, hroom, hcm, ?_, ?_⟩⟩ ?_ (.inr rfl) (fun g' hg' => .inr hg')
      · simp
        rw [← hcs]
        omega
      · have hle : (xs ++ news).length = (n + m) * i.size := by rw [List.length_append, hlen, hl, Nat.add_mul]
        rw [hx, ← hle]
        exact List.take_left
      · exact ⟨rfl, rfl, rfl, by simp, fun k _ hk => setRow_other w _ k _ (fun hh => hk (by rw [hh]))⟩
    · obtain ⟨v', w', r1, r2, r3⟩ := run_append_arg_grows (P := P) w t ty e i z i.size i.bytes ht hi hz rfl rfl hzs hsz ⟨g, 0, none⟩ n cap xs hlen (fun j u hj => by
        have hjl : j < xs.length := (List.getElem?_eq_some_iff.1 hj).1
        rw [addr_add, Nat.zero_add]
        simp only [World.cell?, hg]
        rw [← hx] at hj
        rw [List.getElem?_take] at hj
        split at hj
        · simpa using hj
        · cases hj) a m c news hl hnews (by omega) h63 hbytes
      exact fin v' w' w.heap.size none r1 r2 r3 (.inl rfl) fun g' hg' => .inl (r2.lt g' hg').1
end Go.Sy
