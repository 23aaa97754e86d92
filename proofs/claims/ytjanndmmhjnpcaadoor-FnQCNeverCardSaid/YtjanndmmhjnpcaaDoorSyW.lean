/- Writing into rows of the call's own; copy. -/
import Derived.Test.YtjanndmmhjnpcaaDoorSyO
import Derived.Laws.CopyRow
import Derived.Laws.IdiomCopy
set_option autoImplicit true
set_option relaxedAutoImplicit true
set_option linter.unusedVariables false
set_option linter.unusedSimpArgs false
namespace Go.Sy
open Go
variable {E : Env} {β : Nat → Bk} {P : Program} {w : World}
theorem putAll_eq (off : Nat) : ∀ (vs l : List SV) (j : Nat), off + j + vs.length ≤ l.length → putAll off l j vs = l.take (off + j) ++ vs ++ l.drop (off + j + vs.length)
  | [], l, j, h => by simp [putAll]
  | v :: r, l, j, h => by
    simp only [List.length_cons] at h
    simp only [putAll]
    rw [putAll_eq off r (l.set (off + j) v) (j + 1) (by simp; omega)]
    have h1 : (l.set (off + j) v).take (off + (j + 1)) = l.take (off + j) ++ [v] := by
      rw [show off + (j + 1) = off + j + 1 by omega, List.take_succ_eq_append_getElem (by simp; omega)]
      simp [List.take_set_of_le]
    have h2 : (l.set (off + j) v).drop (off + (j + 1) + r.length) = l.drop (off + j + (v :: r).length) := by
      rw [List.drop_set_of_lt (by omega)]
      congr 1; simp only [List.length_cons]; omega
    rw [h1, h2]; simp
theorem HOk.setRow {h : List SBlk} (hw : HOk E β h w) {b : Nat} {a a' : AE} {ks : List SK} {n : SE} {tail tail' : List SV} {S : TypeId} (hb : h[b]? = some (.row a ks n tail S)) (hz : (β b).z = false) {cur' : Array Value} {m : Nat}
    (hlen : tail'.length = m * ks.length) (hn : (β b).n = (n.den E).toNat + m) (hsz : cur'.size = (β b).c * ks.length) (hm : (β b).n ≤ (β b).c ∧ (β b).c ≤ maxLen) (hc : cur'.toList.take ((β b).n * ks.length) = rowCells E β (β b).q a' ks (n.den E).toNat tail') :
    HOk E β (h.set b (.row a' ks n tail' S)) (wset w (β b).a (.cells cur' S (0, 0))) ∧ Ext E h β w E (h.set b (.row a' ks n tail' S)) β (wset w (β b).a (.cells cur' S (0, 0))) := by
  refine HOk.put (s1 := .row a' ks n tail' S) hw hb hz (fun x hx => hx) (by simp [wset]) (fun x hx => wset_other fun hh => hx ⟨hz, hh⟩) rfl rfl rfl ?_
  refine ⟨(hw.ok b _ hb).1, m, hlen, ?_⟩
  rw [← hn, ← hc]
  have hv : (β b).v = .slice (some ⟨(β b).a, 0, none⟩) (β b).n (β b).c := by simp [Bk.v, hz, show (β b).o = 0 from (hw.ok b _ hb).1]
  refine ⟨?_, .inr ⟨(β b).a, (β b).c, cur', hv, Nat.zero_le _, wset_same (hw.lta hb hz rfl), hm.1, hm.2, hsz, rfl⟩⟩
  rw [hc, rowCells_length, hn, hlen, Nat.add_mul]
theorem setRow_wset {g : Nat} {cur cs : Array Value} {S : TypeId} (h : w.heap[g]? = some (.cells cur S (0, 0))) : w.setRow g cs = wset w g (.cells cs S (0, 0)) := by
  have hlt : g < w.heap.size := (Array.getElem?_eq_some_iff.1 h).1
  unfold World.setRow wset
  congr 1
  apply Array.ext_getElem?
  intro i
  rw [Array.getElem?_modify, Array.getElem?_setIfInBounds]
  by_cases hi : g = i
  · subst hi
    have hb := (Array.getElem?_eq_some_iff.1 h).2
    simp [hlt, hb]
  · simp [hi]
def sStore2 (P : Program) (F : Fx) (h : List SBlk) (T : TypeId) (x v : SV) : Option (List SBlk) :=
  match x with
  | .ptr b o =>
    match h[b]?, sizeT P T, v.cells with
    | some (.row a ks n tail S), some sz, some vs =>
      match tailIx F n o.row with
      | some t => if o.stride = ks.length ∧ ks.length ≠ 0 ∧ o.col + sz ≤ ks.length ∧ (t + 1) * ks.length ≤ tail.length ∧ vs.length = sz ∧ vs.all SV.isCell = true then
          some (h.set b (.row a ks n (putAll (t * ks.length + o.col) tail 0 vs) S)) else none
      | none => none
    | _, _, _ => none
  | _ => none
theorem sStore2_ok {F : Fx} (hF : Facts E F) {h h' : List SBlk} (hw : HOk E β h w) {T : TypeId} {x v : SV} (hr : sStore2 P F h T x v = some h') :
    ∃ w', (Instr.storeAt T (x.den E β) (v.den E β)).run P w = .ok () w' ∧ HOk E β h' w' ∧ Ext E h β w E h' β w' := by
  unfold sStore2 at hr
  split at hr
  · rename_i b o
    split at hr
    · rename_i a ks n tail S sz vs hb hsz hvs
      split at hr
      · rename_i t ht
        split at hr
        · rename_i hc
          cases hr
          obtain ⟨c1, c2, c3, c4, c5, c6⟩ := hc
          have hrow := tailIx_ok hF ht
          have hK := Nat.pos_of_ne_zero c2
          have hblk := hw.ok b _ hb
          have hbo : (β b).o = 0 := hblk.1
          obtain ⟨m, hm, hrest⟩ := row_v hblk
          have htm : t < m := by
            rcases Nat.lt_or_ge t m with h | h
            · exact h
            · have := Nat.mul_le_mul_right ks.length (show m + 1 ≤ t + 1 by omega)
              rw [Nat.add_mul] at this; omega
          rcases hrest with ⟨_, _, h5⟩ | ⟨hz, h4, h5, h6, cur, h7, h8, h9⟩
          · omega
          · have c4' : t * ks.length + ks.length ≤ tail.length := by rw [Nat.add_mul] at c4; omega
            have hoff : o.den E = (n.den E).toNat * ks.length + (t * ks.length + o.col) := by simp only [Off.den, hrow, c1, Nat.add_mul]; omega
            have hle : (β b).n * ks.length ≤ cur.size := by rw [h8]; exact Nat.mul_le_mul_right _ h5
            have hnn : (β b).n * ks.length = (n.den E).toNat * ks.length + tail.length := by rw [h4, hm, Nat.add_mul]
            have hvl : (SV.denL E β vs).length = sz := by rw [denL_length, c5]
            have hfit : o.den E + 0 + (SV.denL E β vs).length ≤ cur.size := by rw [hoff, hvl]; omega
            have hst := run_storeCells_at P (β b).a (o.den E) S (SV.denL E β vs) 0 cur w h7 hfit (fun u hu => by
              rw [SV.denL_map] at hu
              obtain ⟨s, hs, rfl⟩ := List.mem_map.1 hu
              exact isCell_ok (List.all_eq_true.1 c6 s hs))
            rw [setRow_wset h7] at hst
            simp only [Nat.add_zero] at hst
            have hput := putAll_eq (t * ks.length + o.col) vs tail 0 (by omega)
            simp only [Nat.add_zero] at hput
            obtain ⟨k1, k2⟩ := HOk.setRow (tail' := putAll (t * ks.length + o.col) tail 0 vs) (a' := a) (m := m) hw hb hz (cur' := (cur.toList.take (o.den E) ++ SV.denL E β vs ++ cur.toList.drop (o.den E + (SV.denL E β vs).length)).toArray)
              (by rw [putAll_length, hm]) h4 (by simp; omega) ⟨h5, h6⟩ (by
                have e1 : cur.toList = rowCells E β (β b).q a ks (n.den E).toNat tail ++ cur.toList.drop ((β b).n * ks.length) := by rw [← h9, List.take_append_drop]
                have hrl := rowCells_length (E := E) (β := β) (β b).q a ks (n.den E).toNat tail
                have hA : ((List.range ((n.den E).toNat * ks.length)).map (fun j => (ks.getD (j % ks.length) default).val (a.den E j) ((β b).q j))).length = (n.den E).toNat * ks.length := by simp
                apply List.ext_getElem?
                intro j
                simp only [List.toList_toArray]
                by_cases hj : j < (β b).n * ks.length
                · rw [List.getElem?_take_of_lt hj, hput]
                  have hcj : ∀ j, j < (β b).n * ks.length → cur.toList[j]? = (rowCells E β (β b).q a ks (n.den E).toNat tail)[j]? := fun j hj => by rw [← h9, List.getElem?_take_of_lt hj]
                  unfold rowCells at hcj ⊢
                  by_cases h1 : j < o.den E
                  · rw [List.append_assoc, List.getElem?_append_left (by simp; omega), List.getElem?_take_of_lt h1, hcj j hj]
                    by_cases h2 : j < (n.den E).toNat * ks.length
                    · rw [List.getElem?_append_left (by rw [hA]; exact h2), List.getElem?_append_left (by rw [hA]; exact h2)]
                    · rw [List.getElem?_append_right (by rw [hA]; omega), List.getElem?_append_right (by rw [hA]; omega), hA, SV.denL_map, SV.denL_map, List.append_assoc, List.map_append,
                        List.getElem?_append_left (by simp; omega), List.getElem?_map, List.getElem?_map, List.getElem?_take_of_lt (by omega)]
                  · conv => rhs; rw [List.getElem?_append_right (by rw [hA]; omega), hA, SV.denL_map, List.map_append, List.map_append]
                    have htl : (List.map (SV.den E β) (tail.take (t * ks.length + o.col))).length = t * ks.length + o.col := by simp; omega
                    have htk : (cur.toList.take (o.den E)).length = o.den E := by simp; omega
                    have hvl2 : (List.map (SV.den E β) vs).length = sz := by simp [c5]
                    by_cases h3 : j < o.den E + sz
                    · conv => rhs; rw [List.append_assoc, List.getElem?_append_right (by rw [htl]; omega), List.getElem?_append_left (by rw [htl, hvl2]; omega), htl]
                      rw [List.append_assoc, List.getElem?_append_right (by rw [htk]; omega), List.getElem?_append_left (by rw [hvl, htk]; omega), SV.denL_map, htk]
                      congr 1
                      omega
                    · conv => rhs; rw [List.getElem?_append_right (by rw [List.length_append, htl, hvl2]; omega), List.length_append, htl, hvl2, List.getElem?_map, List.getElem?_drop, c5]
                      rw [List.getElem?_append_right (by rw [List.length_append, htk, hvl]; omega), List.length_append, htk, hvl, List.getElem?_drop]
                      rw [show o.den E + sz + (j - (o.den E + sz)) = j by omega]
                      rw [hcj j hj, List.getElem?_append_right (by rw [hA]; omega), hA, SV.denL_map, List.getElem?_map]
                      congr 2
                      omega
                · rw [List.getElem?_eq_none (by simp; omega), List.getElem?_eq_none (by rw [rowCells_length, putAll_length]; omega)])
            refine ⟨_, ?_, k1, k2⟩
            have hszz : (v.den E β).cells.size = sz := by rw [cells_ok hvs]; simp [denL_length, c5]
            simp only [Instr.storeAt, SV.den, Instr.sureAddr, Sem.run_bind, Sem.run_pure, Result.andThen_ok, storeVar, sizeT_ok hsz, hszz, hbo, Nat.zero_add]
            simp only [ne_eq, not_true_eq_false, if_false]
            rw [cells_ok hvs]
            simpa using hst
        · cases hr
      · cases hr
    · cases hr
  · cases hr
def stUps (ks : List SK) (base : SE) : Nat → List SV → AE → Option AE
  | _, [], a => some a
  | col, v :: r, a => match ks.getD col default, v with
    | .int k, .int j e => if k = j then stUps ks base (col + 1) r (.up a (.mkAdd base (.c col)) e) else none
    | .bool, .bool b => stUps ks base (col + 1) r (.up a (.mkAdd base (.c col)) (.mkIte b (.c 1) (.c 0)))
    | _, _ => none
theorem stUps_ok {ks : List SK} {base : SE} {m : Nat} (hb : base.den E = (m : Int)) : ∀ {vs : List SV} {col : Nat} {a a' : AE}, stUps ks base col vs a = some a' →
    (∀ j, (j < m + col ∨ m + col + vs.length ≤ j) → a'.den E j = a.den E j) ∧ ∀ i q, i < vs.length → (ks.getD (col + i) default).val (a'.den E (m + (col + i))) q = ((vs.getD i (.tup [])).den E β)
  | [], col, a, a', h => by cases h; exact ⟨fun _ _ => rfl, fun i q hi => by simp at hi⟩
  | v :: r, col, a, a', h => by
    have hix : ((SE.mkAdd base (.c (col : Int))).den E).toNat = m + col := by simp only [SE.den_mkAdd, SE.den, hb]; omega
    have step : ∀ (x : SE), stUps ks base (col + 1) r (.up a (.mkAdd base (.c col)) x) = some a' → (∀ q, (ks.getD col default).val (x.den E) q = v.den E β) →
        (∀ j, (j < m + col ∨ m + col + (v :: r).length ≤ j) → a'.den E j = a.den E j) ∧ ∀ i q, i < (v :: r).length → (ks.getD (col + i) default).val (a'.den E (m + (col + i))) q = (((v :: r).getD i (.tup [])).den E β) := fun x hx hv => by
      obtain ⟨h1, h2⟩ := stUps_ok hb hx
      refine ⟨fun j hj => ?_, fun i q hi => ?_⟩
      · simp only [List.length_cons] at hj
        rw [h1 j (by omega)]
        simp only [AE.den, hix]
        rw [if_neg (by omega)]
      · cases i with
        | zero =>
          rw [Nat.add_zero, h1 (m + col) (by omega)]
          simp only [AE.den, hix, if_true, List.getD_cons_zero]
          exact hv q
        | succ i =>
          have := h2 i q (by simpa using hi)
          rw [show col + 1 + i = col + (i + 1) by omega] at this
          simpa only [List.getD_cons_succ] using this
    simp only [stUps] at h
    split at h
    · rename_i k j e hk
      split at h
      · rename_i hkj
        subst hkj
        exact step _ h fun q => by rw [hk]; rfl
      · cases h
    · rename_i b hk
      exact step _ h fun q => by rw [hk]; simp only [SK.val, SV.den, SE.den_mkIte, SE.den]; cases b.den E <;> rfl
    · cases h
def sStore3 (P : Program) (F : Fx) (h : List SBlk) (T : TypeId) (x v : SV) : Option (List SBlk) :=
  match x with
  | .ptr b o =>
    match h[b]?, sizeT P T, v.cells with
    | some (.row a ks n tail S), some sz, some vs =>
      if o.stride = ks.length ∧ ks.length ≠ 0 ∧ o.col + sz ≤ ks.length ∧ vs.length = sz ∧ vs.all SV.isCell = true ∧ dec F (.le (.c 0) o.row) = some true ∧ dec F (.lt o.row n) = some true then
        match stUps ks (.mkMul o.row (.c ks.length)) o.col vs a with
        | some a' => some (h.set b (.row a' ks n tail S))
        | none => none
      else none
    | _, _, _ => none
  | _ => none
theorem sStore3_ok {F : Fx} (hF : Facts E F) {h h' : List SBlk} (hw : HOk E β h w) {T : TypeId} {x v : SV} (hr : sStore3 P F h T x v = some h') :
    ∃ w', (Instr.storeAt T (x.den E β) (v.den E β)).run P w = .ok () w' ∧ HOk E β h' w' ∧ Ext E h β w E h' β w' := by
  unfold sStore3 at hr
  split at hr
  · rename_i b o
    split at hr
    · rename_i a ks n tail S sz vs hb hsz hvs
      split at hr
      · rename_i hc
        obtain ⟨c1, c2, c3, c5, c6, c7, c8⟩ := hc
        split at hr
        · rename_i a' ha'
          cases hr
          have hK := Nat.pos_of_ne_zero c2
          have hblk := hw.ok b _ hb
          have hbo : (β b).o = 0 := hblk.1
          have r0 : 0 ≤ o.row.den E := by exact of_decide_eq_true (dec_ok (E := E) hF c7)
          have r1 : o.row.den E < n.den E := by exact of_decide_eq_true (dec_ok (E := E) hF c8)
          obtain ⟨r, hr⟩ := Int.eq_ofNat_of_zero_le r0
          have hrn : r < (n.den E).toNat := by omega
          have hbase : (SE.mkMul o.row (.c (ks.length : Int))).den E = ((r * ks.length : Nat) : Int) := by rw [SE.den_mkMul, hr]; simp [SE.den]
          obtain ⟨u1, u2⟩ := stUps_ok (E := E) (β := β) hbase ha'
          have hoff : o.den E = r * ks.length + o.col := by simp only [Off.den, hr, c1, Int.toNat_natCast]
          have hle1 : (r + 1) * ks.length ≤ (n.den E).toNat * ks.length := Nat.mul_le_mul_right _ (by omega)
          rw [Nat.add_mul, Nat.one_mul] at hle1
          obtain ⟨m, hm, hrest⟩ := row_v hblk
          rcases hrest with ⟨_, h4, h5⟩ | ⟨hz, h4, h5, h6, cur, h7, h8, h9⟩
          · omega
          · have hle : (β b).n * ks.length ≤ cur.size := by rw [h8]; exact Nat.mul_le_mul_right _ h5
            have hnn : (β b).n * ks.length = (n.den E).toNat * ks.length + tail.length := by rw [h4, hm, Nat.add_mul]
            have hvl : (SV.denL E β vs).length = sz := by rw [denL_length, c5]
            have hfit : o.den E + 0 + (SV.denL E β vs).length ≤ cur.size := by rw [hoff, hvl]; omega
            have hst := run_storeCells_at P (β b).a (o.den E) S (SV.denL E β vs) 0 cur w h7 hfit (fun u hu => by
              rw [SV.denL_map] at hu
              obtain ⟨s, hs, rfl⟩ := List.mem_map.1 hu
              exact isCell_ok (List.all_eq_true.1 c6 s hs))
            rw [setRow_wset h7] at hst
            simp only [Nat.add_zero] at hst
            obtain ⟨k1, k2⟩ := HOk.setRow (tail' := tail) (a' := a') (m := m) hw hb hz (cur' := (cur.toList.take (o.den E) ++ SV.denL E β vs ++ cur.toList.drop (o.den E + (SV.denL E β vs).length)).toArray)
              hm h4 (by simp; omega) ⟨h5, h6⟩ (by
                have hcj : ∀ j, j < (β b).n * ks.length → cur.toList[j]? = (rowCells E β (β b).q a ks (n.den E).toNat tail)[j]? := fun j hj => by rw [← h9, List.getElem?_take_of_lt hj]
                have htk : (cur.toList.take (o.den E)).length = o.den E := by simp; omega
                apply List.ext_getElem?
                intro j
                simp only [List.toList_toArray]
                by_cases hj : j < (β b).n * ks.length
                · rw [List.getElem?_take_of_lt hj]
                  by_cases hlo : j < (n.den E).toNat * ks.length
                  · rw [rowCells_lo hlo]
                    by_cases g1 : j < o.den E
                    · rw [List.append_assoc, List.getElem?_append_left (by rw [htk]; exact g1), List.getElem?_take_of_lt g1, hcj j hj, rowCells_lo hlo, u1 j (by rw [hoff] at g1; omega)]
                    · by_cases g2 : j < o.den E + sz
                      · rw [List.append_assoc, List.getElem?_append_right (by rw [htk]; omega), List.getElem?_append_left (by rw [hvl, htk]; omega), htk]
                        obtain ⟨i, hi⟩ : ∃ i, j = r * ks.length + (o.col + i) := ⟨j - o.den E, by omega⟩
                        have hi2 : i < sz := by omega
                        have := u2 i ((β b).q j) (by omega)
                        rw [hi, show r * ks.length + (o.col + i) - o.den E = i by omega]
                        have hmod : (r * ks.length + (o.col + i)) % ks.length = o.col + i := by rw [Nat.add_comm, Nat.add_mul_mod_self_right, Nat.mod_eq_of_lt (by omega)]
                        rw [hmod, ← hi, show j = r * ks.length + (o.col + i) from hi, u2 i _ (by omega), SV.denL_map, List.getElem?_map]
                        rw [List.getD_eq_getElem?_getD]
                        have hsome : ∃ s, vs[i]? = some s := ⟨vs[i], List.getElem?_eq_getElem (by omega)⟩
                        obtain ⟨s, hs⟩ := hsome
                        rw [hs]; rfl
                      · rw [List.getElem?_append_right (by rw [List.length_append, htk, hvl]; omega), List.length_append, htk, hvl, List.getElem?_drop, show o.den E + sz + (j - (o.den E + sz)) = j by omega, hcj j hj, rowCells_lo hlo, u1 j (by rw [c5]; omega)]
                  · rw [List.getElem?_append_right (by rw [List.length_append, htk, hvl]; omega), List.length_append, htk, hvl, List.getElem?_drop, show o.den E + sz + (j - (o.den E + sz)) = j by omega, hcj j hj]
                    obtain ⟨i, hi⟩ : ∃ i, j = (n.den E).toNat * ks.length + i := ⟨j - (n.den E).toNat * ks.length, by omega⟩
                    rw [hi, rowCells_hi, rowCells_hi]
                · rw [List.getElem?_eq_none (by simp; omega), List.getElem?_eq_none (by rw [rowCells_length]; omega)])
            refine ⟨_, ?_, k1, k2⟩
            have hszz : (v.den E β).cells.size = sz := by rw [cells_ok hvs]; simp [denL_length, c5]
            simp only [Instr.storeAt, SV.den, Instr.sureAddr, Sem.run_bind, Sem.run_pure, Result.andThen_ok, storeVar, sizeT_ok hsz, hszz, hbo, Nat.zero_add]
            simp only [ne_eq, not_true_eq_false, if_false]
            rw [cells_ok hvs]
            simpa using hst
        · cases hr
      · cases hr
    · cases hr
  · cases hr
def sCopy (P : Program) (gm : Gm) (F : Fx) (h : List SBlk) (tmps : Tm) (op : Op) : AR :=
  match op with
  | .call c => match c.callee, c.argTypes.toList, evL gm tmps c.args.toList with
    | .builtin .copy, [t, t'], some [.slice b o (.c n1) _, .slice b2 o2 (.c n2) _] => match P.underlying t with
      | some (.slice e) => if sizeT P e = some 1 then
          (let n := Nat.min n2.toNat n1.toNat
          if n = 0 then .ok h (.int .i64 (.c 0)) else
          match h[b]?, constRow o, h[b2]?, constRow o2 with
          | some (.cells l S), some p, some (.cells l2 _), some p2 =>
            if p + n ≤ l.length ∧ p2 + n ≤ l2.length ∧ ((l2.drop p2).take n).all SV.isCell = true ∧ (n : Int) ≤ 1000000 then .ok (h.set b (.cells (putAll p l 0 ((l2.drop p2).take n)) S)) (.int .i64 (.c (n : Int))) else .no
          | _, _, _, _ => .no)
        else .no
      | _ => .no
    | _, _, _ => .no
  | _ => .no
theorem sCopy_ok {gm : Gm} (hg : gm.ok β) {F : Fx} (hF : Facts E F) {h h' : List SBlk} (hw : HOk E β h w) {tmps : Tm} {ds : List Deferred} {o : Oper} {v : SV}
    (hr : sCopy P gm F h tmps o.op = .ok h' v) : ∃ w', (execOp (actD E β tmps ds).eval o).run P w = .ok (.value (v.den E β)) w' ∧ HOk E β h' w' ∧ Ext E h β w E h' β w' := by
  unfold execOp
  cases ho : o.op <;> simp only [ho, sCopy] at hr <;> try (first | (cases hr; done))
  rename_i c
  split at hr
  · rename_i t t' b o1 n1 cc1 b2 o2 n2 cc2 hc hts hl
    split at hr
    · rename_i e hd
      split at hr
      · rename_i hsz
        have hsz1 : (P.info? e).map (·.size) = some 1 := hsz
        have hat : c.argTypes = #[t, t'] := by
          obtain ⟨l, he⟩ : ∃ l, c.argTypes = l := ⟨_, rfl⟩
          rw [he] at hts ⊢
          obtain ⟨l⟩ := l
          simp only at hts
          rw [hts]
        simp only [resolve, hc, Sem.run_bind, Sem.run_pure, Result.andThen_ok, invoke, evL_arr (E := E) (ds := ds) hg hl, hat]
        have hargs : (SV.denL E β [SV.slice b o1 (.c n1) cc1, SV.slice b2 o2 (.c n2) cc2]).toArray = #[(SV.slice b o1 (.c n1) cc1).den E β, (SV.slice b2 o2 (.c n2) cc2).den E β] := rfl
        rw [hargs]
        show ∃ w', ((do pure (Next.value (← Builtin.copy_ #[t, t'] o.type #[(SV.slice b o1 (.c n1) cc1).den E β, (SV.slice b2 o2 (.c n2) cc2).den E β]))) : Sem Next).run P w = _ ∧ _
        split at hr
        · rename_i hn0
          cases hr
          have := run_copy_none (P := P) w t t' o.type e (some ⟨(β b).a, (β b).o + o1.den E, none⟩) (some ⟨(β b2).a, (β b2).o + o2.den E, none⟩) ((SE.c n1).den E).toNat (cc1.den E).toNat ((SE.c n2).den E).toNat (cc2.den E).toNat hd hsz1 (by simpa [SE.den] using hn0)
          exact ⟨w, val_run (by simpa [SV.den, goInt, SE.den] using this), hw, Ext.refl _ _ _ _⟩
        · rename_i hn0
          split at hr
          · rename_i l S p l2 S2 p2 hb hp hb2 hp2
            split at hr
            · rename_i hcc
              cases hr
              obtain ⟨c1, c2, c3, c4⟩ := hcc
              obtain ⟨k1, k2⟩ := HOk.set (l' := putAll p l 0 ((l2.drop p2).take (Nat.min n2.toNat n1.toNat))) hw hb
              have hblk := hw.ok b _ hb
              have hblk2 := hw.ok b2 _ hb2
              simp only [SBlk.ok] at hblk hblk2
              have hvl : (SV.denL E β ((l2.drop p2).take (Nat.min n2.toNat n1.toNat))).length = Nat.min n2.toNat n1.toNat := by rw [denL_length, List.length_take, List.length_drop]; omega
              have := run_copy_row (P := P) w t t' o.type e (β b).a p ((SE.c n1).den E).toNat (cc1.den E).toNat ⟨(β b2).a, p2, none⟩ ((SE.c n2).den E).toNat (cc2.den E).toNat (SV.denL E β l).toArray S (SV.denL E β ((l2.drop p2).take (Nat.min n2.toNat n1.toNat))) hd hsz1 hblk.2 (by rw [hvl]; rfl) (fun j u hj => by
                have hjn : j < Nat.min n2.toNat n1.toNat := by
                  have := (List.getElem?_eq_some_iff.1 hj).1
                  rwa [hvl] at this
                have h1 := cell_cells hw hb2 (p2 + j)
                rw [hblk2.1, Nat.zero_add] at h1
                rw [addr_add, h1]
                rw [SV.denL_map, List.getElem?_map] at hj
                rw [← hj, List.getElem?_take_of_lt hjn, List.getElem?_drop]) (by rw [hvl]; simpa [denL_length] using c1) (fun u hu => by
                rw [SV.denL_map] at hu
                obtain ⟨s, hs, rfl⟩ := List.mem_map.1 hu
                exact isCell_ok (List.all_eq_true.1 c3 s hs))
              rw [setRow_wset hblk.2] at this
              have hput := putAll_eq p ((l2.drop p2).take (Nat.min n2.toNat n1.toNat)) l 0 (by rw [denL_length] at hvl; omega)
              simp only [Nat.add_zero] at hput
              have hcells : ((SV.denL E β l).toArray.toList.take p ++ SV.denL E β ((l2.drop p2).take (Nat.min n2.toNat n1.toNat)) ++ (SV.denL E β l).toArray.toList.drop (p + (SV.denL E β ((l2.drop p2).take (Nat.min n2.toNat n1.toNat))).length)).toArray = (SV.denL E β (putAll p l 0 ((l2.drop p2).take (Nat.min n2.toNat n1.toNat)))).toArray := by
                rw [hput, denL_append, denL_append, denL_length]
                simp only [SV.denL_map, List.map_take, List.map_drop]
              rw [hcells] at this
              refine ⟨_, ?_, k1, k2⟩
              have e1 : (SV.slice b o1 (.c n1) cc1).den E β = .slice (some ⟨(β b).a, p, none⟩) ((SE.c n1).den E).toNat (cc1.den E).toNat := by simp [SV.den, constRow_ok hp, hblk.1]
              have e2 : (SV.slice b2 o2 (.c n2) cc2).den E β = .slice (some ⟨(β b2).a, p2, none⟩) ((SE.c n2).den E).toNat (cc2.den E).toNat := by simp [SV.den, constRow_ok hp2, hblk2.1]
              rw [e1, e2, Sem.run_bind, this, hvl]
              simp [SV.den, goInt, SE.den]
            · cases hr
          · cases hr
      · cases hr
    · cases hr
  · cases hr
end Go.Sy
