/- GetAckFrame where a frame is kept: it is laid anew. -/
import Derived.Test.YtgianhjmjiiadaaQmM
set_option autoImplicit true
set_option relaxedAutoImplicit true
set_option linter.unusedVariables false
set_option linter.unusedSimpArgs false
namespace Go.Proofs.Ytgianhjmjiiadaa
open Go Go.Sy Go.RowKit Go.Shelf
attribute [local go_sem] Oper.semAt_some
set_option maxRecDepth 100000 in
set_option maxHeartbeats 4000000 in
theorem getack_some (n : Nat) (hn : 3 ≤ n) (m o g cc k : Nat) (A : Nat → Int) (e0 e1 ec : Int) (hk : 1 ≤ k) (hk2 : k ≤ 1000) (K rb mm cr : Nat) (cur : Array Value) (B : Nat → Int) (x1 x2 x3 x4 : Int) (w : World) (hKm : K ≠ m) (hKg : K ≠ g) (hrK : rb ≠ K) (hrm : rb ≠ m) (hrg : rb ≠ g)
    (hKw0 : w.heap[K]? = some (.cells #[.slice (some ⟨rb, 0, none⟩) mm cr, .int .i64 x1, .int .u64 x2, .int .u64 x3, .int .u64 x4] 65 (0, 0))) (hrw0 : w.heap[rb]? = some (.cells cur 67 (0, 0))) (hm3 : mm ≤ 100000) (hmc : mm ≤ cr) (hcr : cr ≤ maxLen) (hcu : cur.size = cr * 2) (hB : ∀ j, j < mm * 2 → w.cell? ⟨rb, j, none⟩ = some (.int .i64 (B j)))
    (csM : Array Value) (TM : TypeId) (hm : w.heap[m]? = some (.cells csM TM (0, 0))) (hmw : m < w.heap.size) (hgw : g < w.heap.size) (fz : ∀ j, w.frozen? ⟨m, j, none⟩ = false)
    (c0 : w.cell? ⟨m, o, none⟩ = some (.int .u64 e0)) (c1 : w.cell? ⟨m, o + 1, none⟩ = some (.int .u64 e1)) (c2 : w.cell? ⟨m, o + 2, none⟩ = some (.int .u64 ec)) (c3 : w.cell? ⟨m, o + 3, none⟩ = some (.slice (some ⟨g, 0, none⟩) k cc))
    (c5 : w.cell? ⟨m, o + 5, none⟩ = some (.pointer (some ⟨K, 0, none⟩))) (c6 : w.cell? ⟨m, o + 6, none⟩ = some (.bool true)) (cg : ∀ j, j < k * 2 → w.cell? ⟨g, j, none⟩ = some (.int .i64 (A j))) :
    CallsIn Fence.wide n Try.prog 33 #[.pointer (some ⟨m, o, none⟩)] w fun e W' => ∃ v', e = .returned (.pointer (some ⟨K, 0, none⟩)) ∧ GaPost (K) m o k A e0 e1 ec (.slice (some ⟨rb, 0, none⟩) 0 cr) w csM TM v' W' := by
  have h1 : 1 ≤ n := by omega
  have q44 : Fence.wide.fn 44 := trivial
  have q45 : Fence.wide.fn 45 := trivial
  have q56 : Fence.wide.fn 56 := trivial
  refine callsIn_of_wp_marks Try.func33 rfl trivial ?_ rfl
  simp only [Try.ntmps33, List.size_toArray, List.length_cons, List.length_nil, Nat.reduceAdd, Nat.reduceSub, Array.replicate_succ, Array.replicate_zero, List.push_toArray, List.append_toArray, List.nil_append, List.cons_append]
  have hKlt : K < w.heap.size := (Array.getElem?_eq_some_iff.1 hKw0).1
  have hrlt : rb < w.heap.size := (Array.getElem?_eq_some_iff.1 hrw0).1
  have hKA : (w.alloc (.cells #[.pointer (some ⟨K, 0, none⟩)] 60)).heap[K]? = some (.cells #[.slice (some ⟨rb, 0, none⟩) mm cr, .int .i64 x1, .int .u64 x2, .int .u64 x3, .int .u64 x4] 65 (0, 0)) := (Below.heap_alloc _ _ _ hKlt).trans hKw0
  have hbA : (w.alloc (.cells #[.pointer (some ⟨K, 0, none⟩)] 60)).heap[w.heap.size]? = some (.cells #[.pointer (some ⟨K, 0, none⟩)] 60 (0, 0)) := World.alloc_heap_new w _
  have hmA : (w.alloc (.cells #[.pointer (some ⟨K, 0, none⟩)] 60)).heap[m]? = w.heap[m]? := Below.heap_alloc _ _ _ hmw
  have hBA : ∀ j, j < mm * 2 → (w.alloc (.cells #[.pointer (some ⟨K, 0, none⟩)] 60)).cell? ⟨rb, j, none⟩ = some (.int .i64 (B j)) := fun j hj => (World.cell?_of_block (a := ⟨rb, j, none⟩) (Below.heap_alloc _ _ _ hrlt)).trans (hB j hj)
  gi_wp2_with (first
    | (gi_at_call 45; refine (backward_in Fence.wide (n - 1) trivial rfl _ _).mono ?_; rintro e w' ⟨rfl, rfl⟩)
    | (gi_at_call 44; refine (reset_some Fence.wide (n - 1) trivial (w.heap.size + 1) rfl K rb mm cr B hrK (by omega) hm3 hmc x1 x2 x3 x4 _ (World.size_alloc _ _).symm hBA hKA).mono ?_; rintro e w' ⟨rfl, hT⟩; obtain ⟨p1, p2, p3, p4, p5, p6, p7, p8⟩ := post44 hT (by rw [World.size_alloc]; omega) hbA (by omega) (by omega) hmA hmw fz c0 c1 c2 c3; have y1 := (hT.cell 2).2; have y2 := (hT.cell 3).2; have y3 := (hT.cell 4).2; have z1 : w'.cell? ⟨K, 2, none⟩ = some (.int .u64 0) := (hT.cell 2).1; have z2 : w'.cell? ⟨K, 3, none⟩ = some (.int .u64 0) := (hT.cell 3).1; have z3 : w'.cell? ⟨K, 4, none⟩ = some (.int .u64 0) := (hT.cell 4).1))
  gi_region
  gi_wp2
  gi_region
  gi_wp2
  gi_region
  gi_wp2_with (gi_at_call 45; refine (backward_in Fence.wide (n - 1) trivial rfl _ _).mono ?_; rintro e w'' ⟨rfl, rfl⟩)
  obtain ⟨wB, hwB⟩ : ∃ x, x = ((((w'.setCell ⟨K, 2, none⟩ (.int .u64 e0)).setCell ⟨K, 3, none⟩ (.int .u64 e1)).setCell ⟨K, 4, none⟩ (.int .u64 ec)).alloc (.cells #[.pointer (some ⟨m, o + 3, none⟩)] 95)).drew.drew.drew := ⟨_, rfl⟩
  rw [← hwB]
  have hsw : w.heap.size + 1 ≤ w'.heap.size := by have := hT.size; rw [World.size_alloc] at this; omega
  obtain ⟨B1, B2, B3, B4, B5, B6, B7⟩ := postB hT (by omega) hwB
  have hgA : w'.heap[g]? = w.heap[g]? := (hT.same g (by rw [World.size_alloc]; omega) (by omega)).trans (Below.heap_alloc _ _ _ hgw)
  have hmB : wB.heap[m]? = w.heap[m]? := (B2 m (by omega) (by omega)).trans p7
  have hgB : wB.heap[g]? = w.heap[g]? := (B2 g (by omega) (by omega)).trans hgA
  have hbB : wB.heap[w.heap.size]? = some (.cells #[.pointer (some ⟨K, 0, none⟩)] 60 (0, 0)) := (B2 _ (by omega) (by omega)).trans p8
  have hrB : wB.heap[rb]? = some (.cells cur 67 (0, 0)) := (B2 rb (by omega) hrK).trans (((hT.same rb (by rw [World.size_alloc]; omega) hrK).trans (Below.heap_alloc _ _ _ hrlt)).trans hrw0)
  have hBk : BkAt wB w'.heap.size m (o + 3) g cc k A := ⟨by simp [World.cell?, B3], (World.cell?_of_block (a := ⟨m, o + 3, none⟩) hmB).trans c3, fun j hj => (World.cell?_of_block (a := ⟨g, j, none⟩) hgB).trans (cg j hj)⟩
  have hlts : w'.heap.size < wB.heap.size ∧ m < wB.heap.size ∧ g < wB.heap.size := ⟨by omega, by omega, by omega⟩
  refine wpIn_rangeFunc_ownH rfl h1 (gf := 56) (lb := #[.pointer (some ⟨w'.heap.size, 0, none⟩)]) rfl trivial (enters_of Try.func56 (by kernel_rfl) rfl)
    (back_stops Fence.wide (n - 1) trivial rfl (by omega) w'.heap.size m (o + 3) g cc k A hk (by omega) wB hBk hlts) KpR.trans (kpr_b hlts) (Below.refl _ _) (fun _ => rfl)
    (fun pre W => ∃ v, GW K e0 e1 ec (.slice (some ⟨rb, 0, none⟩) 0 cr) wB v pre W) (fun _ _ _ => False) ginv_from (fun _ _ _ _ _ hs _ _ => hs)
    ⟨_, B1, fun _ _ _ _ => rfl, Nat.le_refl _, rfl, rfl, rfl, ⟨rfl, .inr ⟨rb, cr, cur, rfl, Nat.zero_le _, hrB, Nat.zero_le _, hcr, hcu, by simp [flatR]⟩⟩, fun r hr => .inl hr⟩ (AxB w.heap.size wB) ax_from ?assign ?body ?done ?stop
  case assign =>
    rintro l pre x W KK ⟨v, hG⟩ hK
    simp only [encR]
    gi_wp2
    have hKb : ∀ j, j < wB.heap.size → (W.alloc (Obj.cells #[Value.int IntKind.i64 x.fst, Value.int IntKind.i64 x.snd] 106)).heap[j]? = W.heap[j]? := fun j hj => Below.heap_alloc _ _ _ (Nat.lt_of_lt_of_le hj hG.size)
    exact hK _ _ ((KeepsOthers.alloc W _).from _) ⟨hKb _ hlts.1, hKb _ hlts.2.1, hKb _ hlts.2.2⟩ (ginv_from.alloc _ ⟨v, hG⟩) ⟨W.heap.size, hG.size, World.alloc_heap_new W _, rfl, rfl, rfl⟩
  case body =>
    rintro l pre x a' W hl hrec ⟨v, hG⟩ ⟨b, hb, hbb, hsz, ht3, ht4⟩ hlt
    obtain ⟨v', w1, hrun, hG', hK1, hKeep, hsame, g', cap', hv'⟩ := ga_step hG (by omega) x (by omega) 62
    refine wpIn_block ?_
    refine region_inv (by kernel_rfl) (S12 w.heap.size (K) b v v' x W w1) (by kernel_rfl) ⟨hsz, ht3, ht4, fun j hj hL => by simp [Array.getD] at hL, rfl⟩ ?_ ?_
    · intro i op hop L a w2 hLs hcl hS hLi hdeps
      have hi : i < 15 := (Array.getElem?_eq_some_iff.1 hop).1
      have c14 : L.getD 14 false = true → L.getD 13 false = true ∧ L.getD 11 false = true := fun h => ⟨hcl 14 _ rfl h ⟨13, .data⟩ (by simp) rfl, hcl 14 _ rfl h ⟨11, .data⟩ (by simp) rfl⟩
      have c13 : L.getD 13 false = true → L.getD 12 false = true := fun h => hcl 13 _ rfl h ⟨12, .data⟩ (by simp) rfl
      have c12 : L.getD 12 false = true → L.getD 0 false = true := fun h => hcl 12 _ rfl h ⟨0, .data⟩ (by simp) rfl
      have c11 : L.getD 11 false = true → L.getD 4 false = true ∧ L.getD 10 false = true := fun h => ⟨hcl 11 _ rfl h ⟨4, .data⟩ (by simp) rfl, hcl 11 _ rfl h ⟨10, .data⟩ (by simp) rfl⟩
      have c10 : L.getD 10 false = true → L.getD 9 false = true := fun h => hcl 10 _ rfl h ⟨9, .data⟩ (by simp) rfl
      have c9 : L.getD 9 false = true → L.getD 6 false = true ∧ L.getD 8 false = true := fun h => ⟨hcl 9 _ rfl h ⟨6, .data⟩ (by simp) rfl, hcl 9 _ rfl h ⟨8, .data⟩ (by simp) rfl⟩
      have c4 : L.getD 4 false = true → L.getD 1 false = true := fun h => hcl 2 _ rfl (hcl 3 _ rfl (hcl 4 _ rfl h ⟨3, .data⟩ (by simp) rfl) ⟨2, .data⟩ (by simp) rfl) ⟨1, .data⟩ (by simp) rfl
      have hLf := get14 hLi
      have hWb0 : W.heap[w.heap.size]? = some (.cells #[.pointer (some ⟨K, 0, none⟩)] 60 (0, 0)) := (hG.same _ (by omega) (by omega) (by simp [Value.ownBlock]; omega)).trans hbB
      have hgsz := hG.size
      have rbx : L.getD 14 false = false → w2.cell? ⟨w.heap.size, 0, none⟩ = some (.pointer (some ⟨K, 0, none⟩)) := fun h => by
        have h1 := hS.w; rw [h] at h1
        have h2 := wOf_heap (K := K) (v' := v') (x := x) (W := W) (w1 := w1) (l10 := L.getD 10 false) (l11 := L.getD 11 false) (j := w.heap.size) (by omega) (fun _ => hsame _ (by omega) (by omega) (by simp [Value.ownBlock]; omega))
        rw [← h1] at h2
        simp [World.cell?, h2, hWb0]
      have rK : L.getD 14 false = false → w2.cell? ⟨K, 0, none⟩ = some v := fun h => by
        have h1 := hS.w; rw [h] at h1
        have h2 := wOf_heap (K := K) (v' := v') (x := x) (W := W) (w1 := w1) (l10 := L.getD 10 false) (l11 := L.getD 11 false) (j := K) (by omega) (fun _ => hK1.trans hG.k.symm)
        rw [← h1] at h2
        simp [World.cell?, h2, hG.k, frm]
      have rb : L.getD 9 false = false → w2 = W.drew := fun h => by
        have h10 : L.getD 10 false = false := by cases hh : L.getD 10 false with | false => rfl | true => rw [c10 hh] at h; cases h
        have h11 : L.getD 11 false = false := by cases hh : L.getD 11 false with | false => rfl | true => rw [(c11 hh).2] at h10; cases h10
        have h14 : L.getD 14 false = false := by cases hh : L.getD 14 false with | false => rfl | true => rw [(c14 hh).2] at h11; cases h11
        have h1 := hS.w; rw [h10, h11, h14] at h1; exact h1
      have n14 : ∀ j, L.getD j false = false → (L.getD 14 false = true → L.getD j false = true) → L.getD 14 false = false := fun j h h' => by
        cases hh : L.getD 14 false with | false => rfl | true => rw [h' hh] at h; cases h
      have wb0 : W.drew.cell? ⟨b, 0, none⟩ = some (.int .i64 x.1) := by show W.cell? _ = _; simp [World.cell?, hbb]
      have wb1 : W.drew.cell? ⟨b, 1, none⟩ = some (.int .i64 x.2) := by show W.cell? _ = _; simp [World.cell?, hbb]
      have evl : ∀ (j : Nat) (u : Value), a.eval (.tmp j) = u → a.tmps[j]?.getD undef = u := fun j u h => by simpa [Act.eval, Array.getD_eq_getD_getElem?] using h
      rcases (by omega : i = 0 ∨ i = 1 ∨ i = 2 ∨ i = 3 ∨ i = 4 ∨ i = 5 ∨ i = 6 ∨ i = 7 ∨ i = 8 ∨ i = 9 ∨ i = 10 ∨ i = 11 ∨ i = 12 ∨ i = 13 ∨ i = 14) with rfl | rfl | rfl | rfl | rfl | rfl | rfl | rfl | rfl | rfl | rfl | rfl | rfl | rfl | rfl
      all_goals cases hop
      · have hc := rbx (n14 0 hLf fun h => c12 (c13 (c14 h).1)); have ht := evl _ _ hS.t3
        refine wpOpIn_value (u := .pointer (some ⟨K, 0, none⟩)) rfl rfl (by intro c; simp) (by simp [Oper.about]) ?_ (hS.soft (i := 0) (by omega) (by omega) (by omega) rfl)
        go_simp
      · have hc := rbx (n14 1 hLf fun h => c4 (c11 (c14 h).2).1); have ht := evl _ _ hS.t3
        refine wpOpIn_value (u := .pointer (some ⟨K, 0, none⟩)) rfl rfl (by intro c; simp) (by simp [Oper.about]) ?_ (hS.soft (i := 1) (by omega) (by omega) (by omega) rfl)
        go_simp
      · have v1 := evl _ _ (hS.val 1 (by omega) (hdeps ⟨1, .data⟩ (by simp) rfl)); simp only [vals12, Nat.reduceAdd] at v1
        refine wpOpIn_value (u := .pointer (some ⟨K, 0, none⟩)) rfl rfl (by intro c; simp) (by simp [Oper.about]) ?_ (hS.soft (i := 2) (by omega) (by omega) (by omega) rfl)
        go_simp
      · have v2 := evl _ _ (hS.val 2 (by omega) (hdeps ⟨2, .data⟩ (by simp) rfl)); simp only [vals12, Nat.reduceAdd] at v2
        refine wpOpIn_value (u := .pointer (some ⟨K, 0, none⟩)) rfl rfl (by intro c; simp) (by simp [Oper.about]) ?_ (hS.soft (i := 3) (by omega) (by omega) (by omega) rfl)
        go_simp
      · have hc := rK (n14 4 hLf fun h => (c11 (c14 h).2).1); have v3 := evl _ _ (hS.val 3 (by omega) (hdeps ⟨3, .data⟩ (by simp) rfl)); simp only [vals12, Nat.reduceAdd] at v3
        refine wpOpIn_value (u := v) rfl rfl (by intro c; simp) (by simp [Oper.about]) ?_ (hS.soft (i := 4) (by omega) (by omega) (by omega) rfl)
        go_simp
      · have ht := evl _ _ hS.t4
        refine wpOpIn_value (u := .pointer (some ⟨b, 0, none⟩)) rfl rfl (by intro c; simp) (by simp [Oper.about]) ?_ (hS.soft (i := 5) (by omega) (by omega) (by omega) rfl)
        go_simp
      · have hc := rb (by cases hh : L.getD 9 false with | false => rfl | true => rw [(c9 hh).1] at hLf; cases hLf); have hc2 : w2.cell? ⟨b, 0, none⟩ = some (.int .i64 x.1) := by rw [hc]; exact wb0
        clear hc; have v5 := evl _ _ (hS.val 5 (by omega) (hdeps ⟨5, .data⟩ (by simp) rfl)); simp only [vals12, Nat.reduceAdd] at v5
        refine wpOpIn_value (u := .int .i64 x.1) rfl rfl (by intro c; simp) (by simp [Oper.about]) ?_ (hS.soft (i := 6) (by omega) (by omega) (by omega) rfl)
        go_simp
      · have ht := evl _ _ hS.t4
        refine wpOpIn_value (u := .pointer (some ⟨b, 1, none⟩)) rfl rfl (by intro c; simp) (by simp [Oper.about]) ?_ (hS.soft (i := 7) (by omega) (by omega) (by omega) rfl)
        go_simp
      · have hc := rb (by cases hh : L.getD 9 false with | false => rfl | true => rw [(c9 hh).2] at hLf; cases hLf); have hc2 : w2.cell? ⟨b, 1, none⟩ = some (.int .i64 x.2) := by rw [hc]; exact wb1
        clear hc; have v7 := evl _ _ (hS.val 7 (by omega) (hdeps ⟨7, .data⟩ (by simp) rfl)); simp only [vals12, Nat.reduceAdd] at v7
        refine wpOpIn_value (u := .int .i64 x.2) rfl rfl (by intro c; simp) (by simp [Oper.about]) ?_ (hS.soft (i := 8) (by omega) (by omega) (by omega) rfl)
        go_simp
      · have v6 := evl _ _ (hS.val 6 (by omega) (hdeps ⟨6, .data⟩ (by simp) rfl)); simp only [vals12, Nat.reduceAdd] at v6; have v8 := evl _ _ (hS.val 8 (by omega) (hdeps ⟨8, .data⟩ (by simp) rfl)); simp only [vals12, Nat.reduceAdd] at v8
        refine wpOpIn_value (u := .agg #[.int .i64 x.1, .int .i64 x.2]) rfl rfl (by intro c; simp) (by simp [Oper.about]) ?_ (hS.soft (i := 9) (by omega) (by omega) (by omega) rfl)
        go_simp
      · have h11 : L.getD 11 false = false := by cases hh : L.getD 11 false with | false => rfl | true => rw [(c11 hh).2] at hLf; cases hLf
        have h14 : L.getD 14 false = false := by cases hh : L.getD 14 false with | false => rfl | true => rw [(c14 hh).2] at h11; cases h11
        have hw2 := hS.w; rw [hLf, h11, h14] at hw2
        replace hw2 : w2 = W.drew := hw2
        have v9 := evl _ _ (hS.val 9 (by omega) (hdeps ⟨9, .data⟩ (by simp) rfl)); simp only [vals12, Nat.reduceAdd] at v9
        have u62 := run_underlying t62
        refine wpOpIn_value (u := .slice (some ⟨W.heap.size, 0, none⟩) 1 1) (w' := W.drew.alloc (.cells #[.int .i64 x.1, .int .i64 x.2] 67)) rfl rfl (by intro c; simp) (by simp [Oper.about]) ?_ (hS.put (i := 10) (by omega) rfl (by rw [getD_set_same (by rw [hLs]; decide), getD_set_ne false (by omega), getD_set_ne false (by omega), h11, h14]; rfl))
        rw [hw2]
        go_simp
      · have h14 : L.getD 14 false = false := by cases hh : L.getD 14 false with | false => rfl | true => rw [(c14 hh).2] at hLf; cases hLf
        have h10 : L.getD 10 false = true := hdeps ⟨10, .data⟩ (by simp) rfl
        have hw2 := hS.w; rw [h10, hLf, h14] at hw2
        have v4 := hS.val 4 (by omega) (hdeps ⟨4, .data⟩ (by simp) rfl); simp only [vals12, Nat.reduceAdd] at v4
        have v10 := hS.val 10 (by omega) h10; simp only [vals12, Nat.reduceAdd] at v10
        refine wpOpIn_value (u := v') (w' := w1) rfl rfl (by intro c; simp) (by simp [Oper.about, resolve, Target.leads, Sem.run_pure]) ?_ (hS.put (i := 11) (by omega) rfl (by rw [getD_set_same (by rw [hLs]; decide), getD_set_ne false (by omega), getD_set_ne false (by omega), h10, h14]; rfl))
        rw [hw2]
        show (execOp a.eval _).run Try.prog (W.drew.alloc (.cells #[.int .i64 x.1, .int .i64 x.2] 67)) = _
        simp [execOp, resolve, invoke, builtin, v4, v10, hrun, Result.andThen]
      · have v0 := evl _ _ (hS.val 0 (by omega) (hdeps ⟨0, .data⟩ (by simp) rfl)); simp only [vals12, Nat.reduceAdd] at v0
        refine wpOpIn_value (u := .pointer (some ⟨K, 0, none⟩)) rfl rfl (by intro c; simp) (by simp [Oper.about]) ?_ (hS.soft (i := 12) (by omega) (by omega) (by omega) rfl)
        go_simp
      · have v12 := evl _ _ (hS.val 12 (by omega) (hdeps ⟨12, .data⟩ (by simp) rfl)); simp only [vals12, Nat.reduceAdd] at v12
        refine wpOpIn_value (u := .pointer (some ⟨K, 0, none⟩)) rfl rfl (by intro c; simp) (by simp [Oper.about]) ?_ (hS.soft (i := 13) (by omega) (by omega) (by omega) rfl)
        go_simp
      · have h11 : L.getD 11 false = true := hdeps ⟨11, .data⟩ (by simp) rfl
        have hw2 := hS.w; rw [(c11 h11).2, h11, hLf] at hw2
        replace hw2 : w2 = w1 := hw2
        have v13 := evl _ _ (hS.val 13 (by omega) (hdeps ⟨13, .data⟩ (by simp) rfl)); simp only [vals12, Nat.reduceAdd] at v13; have v11 := evl _ _ (hS.val 11 (by omega) (hdeps ⟨11, .data⟩ (by simp) rfl)); simp only [vals12, Nat.reduceAdd] at v11
        have hcK : w1.cell? ⟨K, 0, none⟩ = some v := by simp [World.cell?, hK1, frm]
        have hfK : w1.frozen? ⟨K, 0, none⟩ = false := by simp [World.frozen?, hK1]
        refine wpOpIn_skip (w' := w1.setCell ⟨K, 0, none⟩ v') rfl rfl (by intro c; simp) (by simp [Oper.about]) ?_ (hS.last (by rw [hLs]; decide))
        rw [hw2]
        subst hv'
        go_simp
    · intro L a w2 hall hS
      have hw := hS.w
      rw [hall 10 (by decide), hall 11 (by decide), hall 14 (by decide), wOf_t] at hw
      subst hw
      exact ⟨hKeep, ⟨(heap_setCell_ne (by omega)).trans (hsame _ (by omega) (by omega) (by simp [Value.ownBlock]; omega)), (heap_setCell_ne (by omega)).trans (hsame _ (by omega) (by omega) (by simp [Value.ownBlock]; omega)), (heap_setCell_ne (by omega)).trans (hsame _ (by omega) (by omega) (by simp [Value.ownBlock]; omega))⟩, v', hG'⟩
  case done =>
    rintro D xs W hD rfl ⟨v, hG⟩ hDd
    have hWm : W.heap[m]? = w.heap[m]? := (hG.same m (by omega) (by omega) (by simp [Value.ownBlock]; omega)).trans hmB
    have hWb : W.heap[w.heap.size]? = some (.cells #[.pointer (some ⟨K, 0, none⟩)] 60 (0, 0)) := (hG.same _ (by omega) (by omega) (by simp [Value.ownBlock]; omega)).trans hbB
    have d0 : W.cell? ⟨w.heap.size, 0, none⟩ = some (.pointer (some ⟨K, 0, none⟩)) := by simp [World.cell?, hWb]
    have d5 : W.cell? ⟨m, o + 5, none⟩ = some (.pointer (some ⟨K, 0, none⟩)) := (World.cell?_of_block (a := ⟨m, o + 5, none⟩) hWm).trans c5
    have d6 : W.cell? ⟨m, o + 6, none⟩ = some (.bool true) := (World.cell?_of_block (a := ⟨m, o + 6, none⟩) hWm).trans c6
    have f5 : W.frozen? ⟨m, o + 5, none⟩ = false := (World.frozen?_of_block (a := ⟨m, o + 5, none⟩) hWm).trans (fz _)
    have f6 : W.frozen? ⟨m, o + 6, none⟩ = false := (World.frozen?_of_block (a := ⟨m, o + 6, none⟩) hWm).trans (fz _)
    gi_wp2
    refine ⟨by simp, .inl ⟨_, _, rfl, run_takeDeferred (by first | assumption | (rw [heap_setCell_ne (by omega), heap_setCell_ne (by omega)]; exact hDd)), ?_⟩⟩
    refine ⟨_, results_tmp rfl _ _ _, v, rfl, ?_⟩
    refine ga_done hG (by omega) (by omega) (by omega) (by simp [Value.ownBlock]; omega) hD hDd (hWm.trans hm) (fun j hj hjK _ => ?_) (by omega) (B5.trans hT.os) (B6.trans hT.tape) (B7.trans hT.output)
    exact (B2 j (by omega) hjK).trans ((hT.same j (by rw [World.size_alloc]; omega) hjK).trans (Below.heap_alloc _ _ _ hj))
  case stop =>
    rintro D c pre W _ _ h _
    exact h.elim
end Go.Proofs.Ytgianhjmjiiadaa
