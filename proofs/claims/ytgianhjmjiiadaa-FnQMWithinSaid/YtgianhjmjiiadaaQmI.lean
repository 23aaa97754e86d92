/- slices.Insert of one range, slices.Delete of some: by hand. -/
import Derived.Test.YtgianhjmjiiadaaChecked
import Derived.Test.YtgianhjmjiiadaaRows
import Derived.KernelRfl
import Derived.WalkKit
import Derived.Lib.Walk
import Derived.Lib.SliceRun
import Derived.Lib.JoinLaws
import Derived.Lib.AppendZeros
import Derived.Lib.AppendZerosOnto
import Derived.Lib.Overlaps
import Derived.Laws.Externs
import Derived.Laws.IdiomCopy
import Derived.Deep.RegionLaw
import Derived.Shelf.RegionOpenPlain
import Derived.Test.YtgianhjmjiiadaaQmN
import Derived.Test.YtgianhjmjiiadaaSyQu
set_option autoImplicit true
set_option relaxedAutoImplicit true
set_option linter.unusedVariables false
set_option linter.unusedSimpArgs false
namespace Go.Proofs.Ytgianhjmjiiadaa
open Go Go.Sy Go.RowKit Go.Lib
variable {P : Program}
theorem run_copy_cellsN (w : World) (dT sT ty elem : TypeId) (S b o dLen dCap : Nat) (a : Addr) (sLen sCap : Nat) (cs : List Value)
    (hu : P.underlying dT = some (.slice elem)) (hs : (P.info? elem).map (·.size) = some S) (hn : cs.length = Nat.min sLen dLen * S)
    (hsrc : ∀ j v, cs[j]? = some v → w.cell? (a.add j) = some v) (hc : ∀ j, j < cs.length → (w.cell? ⟨b, o + j, none⟩).isSome = true) (hf : ∀ j, j < cs.length → w.frozen? ⟨b, o + j, none⟩ = false) (h1 : ∀ v ∈ cs, v.oneCell' = true) :
    (Builtin.copy_ #[dT, sT] ty #[.slice (some ⟨b, o, none⟩) dLen dCap, .slice (some a) sLen sCap]).run P w = .ok (goInt (Nat.min sLen dLen)) (w.setCells b o cs) := by
  have hl := run_loadCells_list (P := P) w a cs hsrc
  have hst := run_storeCells_cells (P := P) b o cs 0 w (by simpa using hc) (by simpa using hf) h1
  cases hq : P.info? elem with
  | none => simp [hq] at hs
  | some i =>
    have hi : i.size = S := by simpa [hq] using hs
    simp [Builtin.copy_, run_underlying hu, Builtin.lenOf, Builtin.firstCells, sizeOf, typeInfo, hq, hi, ← hn, hl, hst]
theorem wp_copy_runI (w : World) {o : Oper} {a : Act} {K : Act → World → Prop} {Q : Exit → Act → World → Prop} (d s : Operand) (t t' : TypeId)
    (ho : o.op = .call { callee := .builtin .copy, args := #[d, s], argTypes := #[t, t'] }) (v u : Value) (hd : a.eval d = v) (hs : a.eval s = u) {v' : Value} {w' : World}
    (hr : (Builtin.copy_ #[t, t'] o.type #[v, u]).run P w = .ok v' w') (h : K (a.put o.dst v') w') : o.wp P a w K Q := by
  unfold Oper.wp execOp
  simp only [ho, resolve, invoke, builtin, Sem.run_bind, Sem.run_pure, Result.andThen_ok, List.map_toArray, List.map_cons, List.map_nil, hd, hs, hr]
  exact h
theorem wpList_copy_runI (w : World) {ops : Array Oper} {rest : List Oper} {o : Oper} {a : Act} {Q : Exit → Act → World → Prop} (hgd : o.guard = none) (d s : Operand) (t t' : TypeId)
    (ho : o.op = .call { callee := .builtin .copy, args := #[d, s], argTypes := #[t, t'] }) (v u : Value) (hd : a.eval d = v) (hs : a.eval s = u) {v' : Value} {w' : World}
    (hr : (Builtin.copy_ #[t, t'] o.type #[v, u]).run P w = .ok v' w') (h : wpList P ops Q rest (a.put o.dst v') w') : wpList P ops Q (o :: rest) a w :=
  wpList_plain hgd fun _ hK => wp_copy_runI w d s t t' ho v u hd hs hr (hK _ _ h)
theorem step_copy_runI {ops : Array Oper} {o : Oper} {a : Act} {w : World} {K : Act → World → Prop} {Q : Exit → Act → World → Prop} {E : Prop}
    (hg : o.guard = none) (d x : Operand) (dT sT : TypeId) (hop : o.op = Op.call { callee := Callee.builtin Builtin.copy, args := #[d, x], argTypes := #[dT, sT] })
    (v u : Value) (hd : a.eval d = v) (hx : a.eval x = u) {v' : Value} {w' : World} (hr : (Builtin.copy_ #[dT, sT] o.type #[v, u]).run P w = .ok v' w') (hK : K (a.put o.dst v') w') :
    if Region.wanted o (yielded ops a.tmps) = true then Oper.wp P o a w K Q else E := by
  have hw : Region.wanted o (yielded ops a.tmps) = true := by simp [Region.wanted, hg]
  rw [if_pos hw]
  unfold Oper.wp
  simp [execOp, hop, resolve, invoke, builtin, hd, hx, hr, Result.andThen]
  exact hK
theorem t78 : Try.prog.underlying 78 = some (.slice 106) := by kernel_rfl
theorem t3 : Try.prog.underlying 3 = some (.int .i64) := by kernel_rfl
theorem t4 : Try.prog.underlying 4 = some .bool := by kernel_rfl
theorem z106 : (Try.prog.info? 106).map (·.size) = some 2 := by kernel_rfl
theorem z106' (w : World) : (Go.sizeOf 106).run Try.prog w = .ok 2 w := sizeT_ok z106
set_option maxHeartbeats 4000000 in
set_option maxRecDepth 100000 in
theorem ins_shift (b off n c i vb cv : Nat) (cs vs : List Value) (w : World) (hi : i < n) (hroom : n + 1 ≤ c) (hc63 : c ≤ 9223372036854775807) (hvb : vb ≠ b)
    (hcl : cs.length = n * 2) (hvl : vs.length = 2)
    (hcs : ∀ j v, cs[j]? = some v → w.cell? ⟨b, off + j, none⟩ = some v) (hsp : ∀ j, j < (n + 1) * 2 → (w.cell? ⟨b, off + j, none⟩).isSome = true) (hfz : ∀ j, j < (n + 1) * 2 → w.frozen? ⟨b, off + j, none⟩ = false)
    (hvs : ∀ j v, vs[j]? = some v → w.cell? ⟨vb, 0 + j, none⟩ = some v) (h1c : ∀ v ∈ cs, v.oneCell' = true) (h1v : ∀ v ∈ vs, v.oneCell' = true)
    (tA tB : TypeId) (kA kB : Nat) (hsa : w.shape? vb = some (tA, kA)) (hsb : w.shape? b = some (tB, kB)) (hkB : kB ≠ 0) (hfa : w.frozen? ⟨vb, 0, none⟩ = false) (hfe : w.frozen? ⟨vb, kA, none⟩ = false) :
    Calls Try.prog 57 #[.slice (some ⟨b, off, none⟩) n c, .int .i64 i, .slice (some ⟨vb, 0, none⟩) 1 cv] w fun e w' =>
      e = .returned (.slice (some ⟨b, off, none⟩) (n + 1) c) ∧ w' = (w.drew.setCells b (off + (i + 1) * 2) (cs.drop (i * 2))).setCells b (off + i * 2) vs := by
  have t78 := t78; have t3 := t3; have t4 := t4; have z106 := z106'
  have u78 := run_underlying t78; have u3 := run_underlying t3; have u4 := run_underlying t4
  have hz2 : ¬ ((i : Int) = (n : Int)) := by omega
  have hov : ∀ lb cb, (callFunc 63 #[.slice (some ⟨vb, 0, none⟩) 1 cv, .slice (some ⟨b, off + (i + 1) * 2, none⟩) lb cb]).run Try.prog w = .ok (.value (.bool false)) w := fun lb cb => by
    rw [run_callFunc_extern Try.func63 (by kernel_rfl) (by kernel_rfl) (by kernel_rfl) (e := Extern.SlicesOverlaps.overlaps #[78, 78] #[4]) (by kernel_rfl),
      Lib.run_overlaps_apart w 78 4 106 t78 2 z106 ⟨vb, 0, none⟩ ⟨b, off + (i + 1) * 2, none⟩ 1 cv lb cb hvb tA tB kA kB hsa hsb hkB hfa hfe]
    rfl
  have hdl : (cs.drop (i * 2)).length = (n - i) * 2 := by rw [List.length_drop, hcl, Nat.sub_mul]
  have mixed : Try.prog.follows .mixedOrders = true := by kernel_rfl
  have hw1 : IntKind.i64.wrap ((i : Int) + 1) = (i : Int) + 1 := by rw [IntKind.wrap_i64]; omega
  have hw2 : IntKind.i64.wrap ((n : Int) + 1) = (n : Int) + 1 := by rw [IntKind.wrap_i64]; omega
  have hw3 : ¬ ((c : Int) < (n : Int) + 1) := by omega
  have hb1 : (0 : Int) ≤ (i : Int) + 1 := by omega
  have hb5 : (0 : Int) ≤ (n : Int) + 1 := by omega
  have hb6 : (n : Int) + 1 ≤ (c : Int) := by omega
  have hin : i ≤ n := by omega
  have htn : ((i : Int) + 1).toNat = i + 1 := by omega
  have htn2 : ((n : Int) + 1).toNat = n + 1 := by omega
  have hb2 : ¬ (c = i + 1) := by omega
  have hb3 : (i : Int) ≤ ((n + 1 : Nat) : Int) := by omega
  have hb7 : (i : Int) + 1 ≤ ((n + 1 : Nat) : Int) := by omega
  have hb4 : ¬ (c = i) := by omega
  have hb8 : (i : Int) ≤ (n : Int) + 1 := by omega
  have hb9 : (i : Int) + 1 ≤ (n : Int) + 1 := by omega
  have hmin : Nat.min (n + 1 - i) (n - i) = n - i := by simp only [Nat.min_def]; split <;> omega
  have hmin2 : Nat.min 1 (n + 1 - i) = 1 := by simp only [Nat.min_def]; split <;> omega
  have hcp1 : ∀ ty dc sc, (Builtin.copy_ #[78, 78] ty #[.slice (some ⟨b, off + (i + 1) * 2, none⟩) (n - i) dc, .slice (some ⟨b, off + i * 2, none⟩) (n + 1 - i) sc]).run Try.prog w.drew = .ok (goInt (Nat.min (n + 1 - i) (n - i))) (w.drew.setCells b (off + (i + 1) * 2) (cs.drop (i * 2))) := fun ty dc sc =>
    run_copy_cellsN w.drew _ _ ty 106 2 b (off + (i + 1) * 2) (n - i) dc ⟨b, off + i * 2, none⟩ (n + 1 - i) sc (cs.drop (i * 2)) t78 Go.Proofs.Ytgianhjmjiiadaa.z106 (by rw [hdl, hmin])
      (fun j v hj => by rw [Addr.add_lit, Nat.add_assoc]; exact hcs (i * 2 + j) v (by rwa [List.getElem?_drop] at hj))
      (fun j hj => by rw [Nat.add_assoc]; exact hsp _ (by omega)) (fun j hj => by rw [Nat.add_assoc]; exact hfz _ (by omega)) (fun v hv => h1c v (List.mem_of_mem_drop hv))
  obtain ⟨W1, hW1⟩ : ∃ W1, W1 = w.drew.setCells b (off + (i + 1) * 2) (cs.drop (i * 2)) := ⟨_, rfl⟩
  have hsp1 : ∀ k, k < (n + 1) * 2 → (W1.cell? ⟨b, off + k, none⟩).isSome = true := fun k hk => by
    rw [hW1]
    exact setCells_some b _ _ _ (fun j hj => by rw [Nat.add_assoc]; exact hsp _ (by omega)) _ (hsp k hk)
  have hcp2 : ∀ (W : World), (∀ x, W.cell? x = W1.cell? x) → (∀ x, W.frozen? x = W1.frozen? x) → ∀ ty dc, (Builtin.copy_ #[78, 78] ty #[.slice (some ⟨b, off + i * 2, none⟩) (n + 1 - i) dc, .slice (some ⟨vb, 0, none⟩) 1 cv]).run Try.prog W = .ok (goInt (Nat.min 1 (n + 1 - i))) (W.setCells b (off + i * 2) vs) := fun W hWc hWf ty dc =>
    run_copy_cellsN W _ _ ty 106 2 b (off + i * 2) (n + 1 - i) dc ⟨vb, 0, none⟩ 1 cv vs t78 Go.Proofs.Ytgianhjmjiiadaa.z106 (by rw [hvl, hmin2])
      (fun j v hj => by
        rw [Addr.add_lit, hWc, hW1, World.cell?_setCells_out b _ _ _ _ (fun h _ => absurd h hvb)]
        exact hvs j v hj)
      (fun j hj => by rw [hWc, Nat.add_assoc]; exact hsp1 _ (by omega)) (fun j hj => by rw [hWf, hW1, World.frozen?_setCells, Nat.add_assoc]; exact hfz _ (by omega)) h1v
  rw [← hW1] at hcp1
  clear hcs hsp hfz hvs h1c h1v hsp1
  go_enter Try.func57, Try.ntmps57
  go_wp2_with (simp only [hov])
  go_region_law_o (refine step_copy_runI rfl _ _ 78 78 rfl _ _ (by simp [Act.eval, Act.put]) (by simp [Act.eval, Act.put]) (hcp1 _ _ _) ?_)
  go_wp2_with (at_builtin; refine wpList_copy_runI _ rfl _ _ 78 78 rfl _ _ rfl rfl (hcp2 _ (fun _ => rfl) (fun _ => rfl) _ _) ?_)
  go_ret
  exact ⟨rfl, rfl⟩
theorem i106 : (Try.prog.info? 106).map (fun i => (i.zero.map (·.cells.size), i.size, i.bytes)) = some (some 2, 2, 16) := by kernel_rfl
set_option maxHeartbeats 4000000 in
set_option maxRecDepth 100000 in
theorem ins_grow (b off n c i vb cv : Nat) (cs vs : List Value) (w : World) (hi : i < n) (hnc : n ≤ c) (hroom : c < n + 1) (hbig : (n + 1) * 16 ≤ 140737488355328) (hbw : b < w.heap.size) (hvw : vb < w.heap.size)
    (hcl : cs.length = n * 2) (hvl : vs.length = 2)
    (hcs : ∀ j v, cs[j]? = some v → w.cell? ⟨b, off + j, none⟩ = some v)
    (hvs : ∀ j v, vs[j]? = some v → w.cell? ⟨vb, 0 + j, none⟩ = some v) (h1c : ∀ v ∈ cs, v.oneCell' = true) (h1v : ∀ v ∈ vs, v.oneCell' = true) :
    ∃ (G : Nat) (ROW : Array Value), n + 1 ≤ G ∧ G ≤ 9223372036854775807 ∧ ROW.size = G * 2 ∧ (∀ j, j < i * 2 → ROW[j]? = cs[j]?) ∧
    Calls Try.prog 57 #[.slice (some ⟨b, off, none⟩) n c, .int .i64 i, .slice (some ⟨vb, 0, none⟩) 1 cv] w fun e w' =>
      e = .returned (.slice (some ⟨w.heap.size, 0, none⟩) (n + 1) G) ∧ w' = (((w.alloc (.cells ROW 106)).drew.setCells w.heap.size (i * 2) vs).drew).setCells w.heap.size ((i + 1) * 2) (cs.drop (i * 2)) := by
  have t78 := t78; have t3 := t3; have t4 := t4; have z106 := z106'
  have u78 := run_underlying t78; have u3 := run_underlying t3; have u4 := run_underlying t4
  obtain ⟨i0, hi0, z, hz0, hzc, hzs, hzb⟩ : ∃ i0, Try.prog.info? 106 = some i0 ∧ ∃ z, i0.zero = some z ∧ z.cells.size = 2 ∧ i0.size = 2 ∧ i0.bytes = 16 := by
    have h := i106
    cases hq : Try.prog.info? 106 with
    | none => rw [hq] at h; cases h
    | some i0 =>
      rw [hq] at h
      simp only [Option.map_some, Option.some.injEq, Prod.mk.injEq] at h
      obtain ⟨h1, h2, h3⟩ := h
      cases hz : i0.zero with
      | none => rw [hz] at h1; cases h1
      | some z => rw [hz] at h1; exact ⟨i0, rfl, z, hz, by simpa using h1, h2, h3⟩
  have mixed : Try.prog.follows .mixedOrders = true := by kernel_rfl
  have hz2 : ¬ ((i : Int) = (n : Int)) := by omega
  have hz3 : (c : Int) < (n : Int) + 1 := by omega
  have hkk : (n : Int) + 1 - (i : Int) = ((n + 1 - i : Nat) : Int) := by omega
  have hik : i + (n + 1 - i) = n + 1 := by omega
  have hold : (Builtin.firstCells i0.size i (.slice (some ⟨b, off, none⟩) i c)).run Try.prog w.drew = .ok (cs.take (i * 2)).toArray w.drew := by
    rw [hzs]
    exact run_firstCells_some w.drew 2 i ⟨b, off, none⟩ i c (cs.take (i * 2)) (by rw [List.length_take, hcl]; omega) (fun j v hj => by
      rw [Addr.add_lit]
      rw [List.getElem?_take] at hj
      split at hj
      · exact hcs j v hj
      · cases hj)
  have hrz : ∀ ty, (Builtin.append_ #[78, 3] ty #[.slice (some ⟨b, off, none⟩) i c, .int .i64 ((n : Int) + 1 - (i : Int))]).run Try.prog w =
      .ok (.slice (some ⟨w.heap.size, 0, none⟩) (n + 1) (grownCap w (n + 1) c 106)) (w.drew.alloc (.cells ((cs.take (i * 2)).toArray ++ Builtin.zeroCells z.cells (n + 1 - i) ++ Builtin.zeroCells z.cells (grownCap w (n + 1) c 106 - (n + 1))) 106)) := fun ty => by
    have h := Lib.run_append_grow_zeros w 78 3 ty 106 i0 _ .i64 .i64 t78 t3 hi0 hz0 (some ⟨b, off, none⟩) i c (cs.take (i * 2)) hold (n + 1 - i) (by omega) (by omega) (by omega) (by omega) (by rw [hzb]; omega) (by rw [hzb, hik]; exact growslice_fits hroom hbig)
    rw [hik] at h
    rw [hkk]
    exact h
  obtain ⟨G, hG⟩ : ∃ G, G = grownCap w (n + 1) c 106 := ⟨_, rfl⟩
  obtain ⟨ROW, hROW⟩ : ∃ ROW : Array Value, ROW = (cs.take (i * 2)).toArray ++ Builtin.zeroCells z.cells (n + 1 - i) ++ Builtin.zeroCells z.cells (G - (n + 1)) := ⟨_, rfl⟩
  have hGn : n + 1 ≤ G := by rw [hG]; exact grownCap_ge w _ _ _
  have hG63 : G ≤ 9223372036854775807 := by
    have := grownCap_le_maxLen w (n + 1) c 106 (by unfold maxLen; omega)
    rw [← hG] at this
    unfold maxLen at this
    omega
  have hRs : ROW.size = G * 2 := by
    rw [hROW]
    simp only [Array.size_append, List.size_toArray, List.length_take, hcl, size_zeroCells, hzc]
    rw [Nat.min_eq_left (Nat.mul_le_mul_right _ (by omega)), ← Nat.add_mul, ← Nat.add_mul]
    congr 1; omega
  have hR0 : ∀ j, j < i * 2 → ROW[j]? = cs[j]? := fun j hj => by
    have hil : i * 2 ≤ n * 2 := Nat.mul_le_mul_right _ (by omega)
    rw [hROW, Array.append_assoc, Array.getElem?_append_left (by simp [hcl]; omega)]
    simp [List.getElem?_take, hj]
  refine ⟨G, ROW, hGn, hG63, hRs, hR0, ?_⟩
  rw [← hG, ← hROW] at hrz
  obtain ⟨W1, hW1⟩ : ∃ W1, W1 = w.drew.alloc (.cells ROW 106) := ⟨_, rfl⟩
  rw [← hW1] at hrz
  have hN : ∀ j, j < (n + 1) * 2 → (W1.cell? ⟨w.heap.size, j, none⟩).isSome = true := fun j hj => by
    have : (n + 1) * 2 ≤ G * 2 := Nat.mul_le_mul_right _ hGn
    rw [hW1, World.cell?_alloc_at (w := w.drew) ROW _ w.heap.size j rfl, Array.getElem?_eq_getElem (by omega)]; rfl
  have hNf : ∀ j, W1.frozen? ⟨w.heap.size, j, none⟩ = false := fun j => by rw [hW1]; exact World.frozen?_alloc_at (w := w.drew) ROW _ w.heap.size j rfl
  have hOb : ∀ j v, w.cell? ⟨b, j, none⟩ = some v → W1.cell? ⟨b, j, none⟩ = some v := fun j v h => by rw [hW1, World.cell?_alloc_past (w := w.drew) _ b j hbw]; exact h
  have hOv : ∀ j v, w.cell? ⟨vb, j, none⟩ = some v → W1.cell? ⟨vb, j, none⟩ = some v := fun j v h => by rw [hW1, World.cell?_alloc_past (w := w.drew) _ vb j hvw]; exact h
  have hmin2 : Nat.min 1 (n + 1 - i) = 1 := by simp only [Nat.min_def]; split <;> omega
  have hmin : Nat.min (n - i) (n - i) = n - i := Nat.min_self _
  have hcpA : ∀ (W : World), (∀ x, W.cell? x = W1.cell? x) → (∀ x, W.frozen? x = W1.frozen? x) → ∀ ty dc, (Builtin.copy_ #[78, 78] ty #[.slice (some ⟨w.heap.size, i * 2, none⟩) (n + 1 - i) dc, .slice (some ⟨vb, 0, none⟩) 1 cv]).run Try.prog W = .ok (goInt (Nat.min 1 (n + 1 - i))) (W.setCells w.heap.size (i * 2) vs) := fun W hWc hWf ty dc =>
    run_copy_cellsN W _ _ ty 106 2 w.heap.size (i * 2) (n + 1 - i) dc ⟨vb, 0, none⟩ 1 cv vs t78 Go.Proofs.Ytgianhjmjiiadaa.z106 (by rw [hvl, hmin2])
      (fun j v hj => by rw [Addr.add_lit, hWc]; exact hOv _ v (hvs j v hj))
      (fun j hj => by rw [hWc]; exact hN _ (by omega)) (fun j hj => by rw [hWf]; exact hNf _) h1v
  have hGi : ¬ (G = i) := by omega
  have hGim : ¬ (G = i + 1) := by omega
  have hci : ¬ (c = i) := by omega
  have hbN : b ≠ w.heap.size := by omega
  have hdl : (cs.drop (i * 2)).length = (n - i) * 2 := by rw [List.length_drop, hcl, Nat.sub_mul]
  have hcpB : ∀ (W : World), (∀ x, W.cell? x = (W1.setCells w.heap.size (i * 2) vs).cell? x) → (∀ x, W.frozen? x = (W1.setCells w.heap.size (i * 2) vs).frozen? x) → ∀ ty dc sc, (Builtin.copy_ #[78, 78] ty #[.slice (some ⟨w.heap.size, (i + 1) * 2, none⟩) (n - i) dc, .slice (some ⟨b, off + i * 2, none⟩) (n - i) sc]).run Try.prog W = .ok (goInt (Nat.min (n - i) (n - i))) (W.setCells w.heap.size ((i + 1) * 2) (cs.drop (i * 2))) := fun W hWc hWf ty dc sc =>
    run_copy_cellsN W _ _ ty 106 2 w.heap.size ((i + 1) * 2) (n - i) dc ⟨b, off + i * 2, none⟩ (n - i) sc (cs.drop (i * 2)) t78 Go.Proofs.Ytgianhjmjiiadaa.z106 (by rw [hdl, hmin])
      (fun j v hj => by
        rw [Addr.add_lit, hWc, World.cell?_setCells_out _ _ _ _ _ (fun h _ => absurd h hbN), Nat.add_assoc]
        exact hOb _ v (hcs (i * 2 + j) v (by rwa [List.getElem?_drop] at hj)))
      (fun j hj => by rw [hWc]; exact setCells_some _ _ _ _ (fun t ht => hN _ (by omega)) _ (hN _ (by omega)))
      (fun j hj => by rw [hWf, World.frozen?_setCells]; exact hNf _) (fun v hv => h1c v (List.mem_of_mem_drop hv))
  subst hW1
  have hE1 : ∀ x, ((w.alloc (.cells ROW 106)).drew).cell? x = (w.drew.alloc (.cells ROW 106)).cell? x := fun x => rfl
  have hE2 : ∀ x, ((w.alloc (.cells ROW 106)).drew).frozen? x = (w.drew.alloc (.cells ROW 106)).frozen? x := fun x => rfl
  have hF1 : ∀ x, (((w.alloc (.cells ROW 106)).drew.setCells w.heap.size (i * 2) vs).drew).cell? x = ((w.drew.alloc (.cells ROW 106)).setCells w.heap.size (i * 2) vs).cell? x := fun x => rfl
  have hF2 : ∀ x, (((w.alloc (.cells ROW 106)).drew.setCells w.heap.size (i * 2) vs).drew).frozen? x = ((w.drew.alloc (.cells ROW 106)).setCells w.heap.size (i * 2) vs).frozen? x := fun x => rfl
  have hw1 : IntKind.i64.wrap ((i : Int) + 1) = (i : Int) + 1 := by rw [IntKind.wrap_i64]; omega
  have hw2 : IntKind.i64.wrap ((n : Int) + 1) = (n : Int) + 1 := by rw [IntKind.wrap_i64]; omega
  have hw3 : IntKind.i64.wrap ((n : Int) + 1 - (i : Int)) = (n : Int) + 1 - (i : Int) := by rw [IntKind.wrap_i64]; omega
  have hb1 : (0 : Int) ≤ (i : Int) + 1 := by omega
  have hin : i ≤ n := by omega
  have htn : ((i : Int) + 1).toNat = i + 1 := by omega
  have hb3 : (i : Int) ≤ (n : Int) := by omega
  have hb8 : (i : Int) ≤ (n : Int) + 1 := by omega
  have hb9 : (i : Int) + 1 ≤ (n : Int) + 1 := by omega
  clear hkk hik hold hROW hG hRs hR0 hcs hvs h1c h1v hN hNf hOb hOv
  go_enter Try.func57, Try.ntmps57
  go_wp2_with (first
    | (at_builtin; refine Lib.wpList_append_run _ rfl _ _ _ _ rfl _ _ rfl rfl _ _ (hrz _) ?_)
    | (at_builtin; refine wpList_copy_runI _ rfl _ _ 78 78 rfl _ _ rfl rfl (hcpA _ hE1 hE2 _ _) ?_)
    | (at_builtin; refine wpList_copy_runI _ rfl _ _ 78 78 rfl _ _ rfl rfl (hcpB _ (fun _ => rfl) (fun _ => rfl) _ _ _) ?_))
  go_region_law_o (refine step_copy_runI rfl _ _ 78 78 rfl (.slice (some ⟨w.heap.size, (i + 1) * 2, none⟩) (n - i) (G - (i + 1))) (.slice (some ⟨b, off + i * 2, none⟩) (n - i) (c - i)) (by simp [Act.eval, Act.put]) (by simp [Act.eval, Act.put]) (hcpB _ hF1 hF2 3 (G - (i + 1)) (c - i)) ?_)
  go_wp2
  go_ret
  exact ⟨rfl, rfl⟩
theorem i106c : (Try.prog.info? 106).map (fun i => (i.zero.map (·.cells), i.size, i.bytes)) = some (some #[.int .i64 0, .int .i64 0], 2, 16) := by kernel_rfl
theorem i106' : ∃ i z, Try.prog.info? 106 = some i ∧ i.zero = some z ∧ z.cells = #[.int .i64 0, .int .i64 0] ∧ i.size = 2 ∧ i.bytes = 16 := by
  have h := i106c
  cases hq : Try.prog.info? 106 with
  | none => rw [hq] at h; cases h
  | some i0 =>
    rw [hq] at h
    simp only [Option.map_some, Option.some.injEq, Prod.mk.injEq] at h
    obtain ⟨h1, h2, h3⟩ := h
    cases hz : i0.zero with
    | none => rw [hz] at h1; cases h1
    | some z => rw [hz] at h1; exact ⟨i0, z, rfl, hz, by simpa using h1, h2, h3⟩
theorem run_clear_cells (w : World) (b o n c : Nat) (ty : TypeId) (hn : 0 < n) (hc : ∀ j, j < n * 2 → (w.cell? ⟨b, o + j, none⟩).isSome = true) (hf : ∀ j, j < n * 2 → w.frozen? ⟨b, o + j, none⟩ = false) :
    ∃ zs : List Value, zs.length = n * 2 ∧ (Builtin.clear_ #[78] ty #[.slice (some ⟨b, o, none⟩) n c]).run Try.prog w = .ok (.tuple #[]) (w.setCells b o zs) := by
  obtain ⟨i, z, hi, hz, hzc, hzs, hzb⟩ := i106'
  have hl : (Builtin.zeroCells z.cells n).toList.length = n * 2 := by rw [Array.length_toList, size_zeroCells, hzc]; rfl
  have h1 : ∀ v ∈ (Builtin.zeroCells z.cells n).toList, v.oneCell' = true := by
    intro v hv
    rw [hzc] at hv
    simp [Builtin.zeroCells] at hv
    obtain ⟨a, ha, h⟩ := hv
    rcases (by omega : a % 2 = 0 ∨ a % 2 = 1) with e | e <;> rw [e] at h <;> rw [← h] <;> rfl
  have hst := run_storeCells_cells (P := Try.prog) b o (Builtin.zeroCells z.cells n).toList 0 w (by rw [hl]; simpa using hc) (by rw [hl]; simpa using hf) h1
  refine ⟨_, hl, ?_⟩
  have hn' : n ≠ 0 := by omega
  obtain ⟨m, rfl⟩ : ∃ m, n = m + 1 := ⟨n - 1, by omega⟩
  simp [Builtin.clear_, run_underlying t78, zeroValue, typeInfo, hi, hz, hst]
theorem step_run2 {P : Program} {ops : Array Oper} {o : Oper} {a : Act} {w : World} {K : Act → World → Prop} {Q : Exit → Act → World → Prop} {E : Prop}
    (hg : o.guard = none) (d x : Operand) (dT sT : TypeId) (hop : o.op = Op.call { callee := Callee.builtin Builtin.append, args := #[d, x], argTypes := #[dT, sT] })
    (v u : Value) (hd : a.eval d = v) (hx : a.eval x = u) {v' : Value} {w' : World} (hr : (Builtin.append_ #[dT, sT] o.type #[v, u]).run P w = .ok v' w') (hK : K (a.put o.dst v') w') :
    if Region.wanted o (yielded ops a.tmps) = true then Oper.wp P o a w K Q else E := by
  have hw : Region.wanted o (yielded ops a.tmps) = true := by simp [Region.wanted, hg]
  rw [if_pos hw]
  unfold Oper.wp
  simp [execOp, hop, resolve, invoke, builtin, hd, hx, hr, Result.andThen]
  exact hK
set_option maxHeartbeats 4000000 in
set_option maxRecDepth 100000 in
theorem ins_end (b n c vb cv : Nat) (vs : List Value) (w : World) (h1 : 1 ≤ n) (hc63 : c ≤ 9223372036854775807) {R : Value} {W : World}
    (hr : ∀ ty, (Builtin.append_ #[78, 78] ty #[.slice (some ⟨b, 0, none⟩) n c, .slice (some ⟨vb, 0, none⟩) 1 cv]).run Try.prog w = .ok R W) (hnc : n ≤ c) :
    Calls Try.prog 57 #[.slice (some ⟨b, 0, none⟩) n c, .int .i64 n, .slice (some ⟨vb, 0, none⟩) 1 cv] w fun e w' => e = .returned R ∧ w' = W := by
  have t78 := t78; have t3 := t3; have t4 := t4
  have u78 := run_underlying t78; have u3 := run_underlying t3; have u4 := run_underlying t4
  have hb3 : (n : Int) ≤ (n : Int) := Int.le_refl _
  go_enter Try.func57, Try.ntmps57
  go_wp2_with (at_builtin; refine Lib.wpList_append_run _ rfl _ _ _ _ rfl _ _ rfl rfl _ _ (hr _) ?_)
  all_goals go_ret
  all_goals exact ⟨rfl, rfl⟩
set_option maxHeartbeats 4000000 in
set_option maxRecDepth 100000 in
theorem del_walk (b n c i j : Nat) (cs : List Value) (w : World) (hij : i < j) (hj : j ≤ n) (hnc : n ≤ c) (hc63 : c ≤ 9223372036854775807)
    (hcl : cs.length = n * 2) (hcs : ∀ j v, cs[j]? = some v → w.cell? ⟨b, j, none⟩ = some v) (hfz : ∀ j, w.frozen? ⟨b, j, none⟩ = false) (h1c : ∀ v ∈ cs, v.oneCell' = true) :
    ∃ zs : List Value, zs.length = (j - i) * 2 ∧ Calls Try.prog 51 #[.slice (some ⟨b, 0, none⟩) n c, .int .i64 i, .int .i64 j] w fun e w' =>
      e = .returned (.slice (some ⟨b, 0, none⟩) (i + (n - j)) c) ∧ w' = (w.drew.setCells b (i * 2) (cs.drop (j * 2))).setCells b ((i + (n - j)) * 2) zs := by
  have t78 := t78; have t3 := t3; have t4 := t4
  have u78 := run_underlying t78; have u3 := run_underlying t3; have u4 := run_underlying t4
  have z106 := z106'
  have mixed : Try.prog.follows .mixedOrders = true := by kernel_rfl
  obtain ⟨i0, z, hi0, hz0, hzc, hzs, hzb⟩ := i106'
  have hsm : ∀ k, k < n * 2 → (w.cell? ⟨b, k, none⟩).isSome = true := fun k hk => by
    obtain ⟨v, hv⟩ : ∃ v, cs[k]? = some v := ⟨_, List.getElem?_eq_getElem (by omega)⟩
    rw [hcs k v hv]; rfl
  have hdl : (cs.drop (j * 2)).length = (n - j) * 2 := by rw [List.length_drop, hcl]; omega
  obtain ⟨W1, hW1⟩ : ∃ W1, W1 = w.drew.setCells b (i * 2) (cs.drop (j * 2)) := ⟨_, rfl⟩
  have hra : ∀ ty (a : Addr), (n = j ∨ a = ⟨b, j * 2, none⟩) → (Builtin.append_ #[78, 78] ty #[.slice (some ⟨b, 0, none⟩) i c, .slice (some a) (n - j) (c - j)]).run Try.prog w.drew = .ok (.slice (some ⟨b, 0, none⟩) (i + (n - j)) c) W1 := fun ty a ha => by
    have h := run_append_room_cells (P := Try.prog) w.drew 78 ty 106 i0 t78 hi0 b 0 i c a (n - j) (c - j) (cs.drop (j * 2)) (by rw [hdl, hzs]) (fun t v ht => by
      rcases ha with ha | ha
      · have := (List.getElem?_eq_some_iff.1 ht).1
        rw [hdl] at this; omega
      · subst ha
        rw [Addr.add_lit]
        rw [List.getElem?_drop] at ht
        exact hcs _ _ ht) (fun v hv => h1c v (List.mem_of_mem_drop hv)) (by omega) (fun t ht => by
          rw [hdl] at ht
          rw [hzs, Nat.zero_add]; exact hsm _ (by omega)) (fun t ht => by exact hfz _)
    rw [h, hW1, hzs, Nat.zero_add]
  have hs1 : ∀ k, k < n * 2 → (W1.cell? ⟨b, k, none⟩).isSome = true := fun k hk => by
    rw [hW1]
    exact setCells_some b _ _ _ (fun t ht => by rw [hdl] at ht; exact hsm _ (by omega)) k (hsm k hk)
  have hf1 : ∀ k, W1.frozen? ⟨b, k, none⟩ = false := fun k => by rw [hW1, World.frozen?_setCells]; exact hfz k
  obtain ⟨zs, hzl, hclr⟩ := run_clear_cells W1 b ((i + (n - j)) * 2) (j - i) (c - (i + (n - j))) 0 (by omega) (fun t ht => hs1 _ (by omega)) (fun t _ => hf1 _)
  refine ⟨zs, hzl, ?_⟩
  rw [← hW1]
  have e1 : n - (i + (n - j)) = j - i := by omega
  have hb1 : (i : Int) ≤ (j : Int) := by omega
  have hb2 : (j : Int) ≤ (n : Int) := by omega
  have hb3 : ¬ ((i : Int) = (j : Int)) := by omega
  have hb4 : j ≤ c := by omega
  have hb5 : i ≤ c := by omega
  have hb6 : i ≤ n := by omega
  have hb7 : i + (n - j) ≤ n := by omega
  have hb8 : n ≤ c := hnc
  have hb9 : ¬ (c = i + (n - j)) := by omega
  have hb10 : i ≤ j := by omega
  clear hcs hfz h1c hsm hs1 hf1
  go_enter Try.func51, Try.ntmps51
  go_wp2
  subst hW1
  by_cases hcj : c = j
  · obtain rfl : n = j := by omega
    subst hcj
    simp only [Nat.sub_self, Nat.add_zero] at hra hclr hzl hb9 ⊢
    have hw0 : w.drew.setCells b (i * 2) (cs.drop (c * 2)) = w.drew := by rw [List.drop_eq_nil_of_le (by omega)]; rfl
    rw [hw0] at hra hclr
    go_region_law_o (first | refine step_run2 rfl _ _ 78 78 rfl _ _ (by simp [Act.eval, Act.put]) (by simp [Act.eval, Act.put]) (hra _ _ (.inl rfl)) ?_)
    all_goals go_wp2
    all_goals go_ret
    all_goals exact ⟨by simp, by rw [hw0]; simp⟩
  · go_region_law_o (first | refine step_run2 rfl _ _ 78 78 rfl _ _ (by simp [Act.eval, Act.put]) (by simp [Act.eval, Act.put]) (hra _ _ (.inr rfl)) ?_)
    all_goals go_wp2
    all_goals go_ret
    all_goals exact ⟨rfl, rfl⟩
end Go.Proofs.Ytgianhjmjiiadaa
