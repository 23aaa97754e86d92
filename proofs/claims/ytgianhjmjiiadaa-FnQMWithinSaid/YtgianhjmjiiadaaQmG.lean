/- GetAckFrame, by hand: the ranges from the greatest one on. -/
import Derived.RangeFuncBox
import Derived.RangeFuncLeaves
import Derived.Shelf.Abstract
import Derived.WalkKit
import Derived.OwnWalkIn
import Derived.TacticsInMore
import Derived.LoopNIn
import Derived.LoopIn
import Derived.Maps.AppendAt
import Derived.Shelf.RegionOpen
import Derived.Test.YtgianhjmjiiadaaChecked
import Derived.Test.YtgianhjmjiiadaaQmN
set_option autoImplicit true
set_option relaxedAutoImplicit true
set_option linter.unusedVariables false
set_option linter.unusedSimpArgs false
namespace Go.Proofs.Ytgianhjmjiiadaa
open Go Go.Sy Go.RowKit Go.Shelf
attribute [local go_sem] Oper.semAt_some
structure BkAt (W : World) (Bn m o3 g cc k : Nat) (A : Nat → Int) : Prop where
  b : W.cell? ⟨Bn, 0, none⟩ = some (.pointer (some ⟨m, o3, none⟩))
  s : W.cell? ⟨m, o3, none⟩ = some (.slice (some ⟨g, 0, none⟩) k cc)
  c : ∀ j, j < k * 2 → W.cell? ⟨g, j, none⟩ = some (.int .i64 (A j))
def KpR (Bn m g : Nat) (W W' : World) : Prop := W'.heap[Bn]? = W.heap[Bn]? ∧ W'.heap[m]? = W.heap[m]? ∧ W'.heap[g]? = W.heap[g]?
theorem BkAt.keep {W W' : World} {Bn m o3 g cc k : Nat} {A : Nat → Int} (h : BkAt W Bn m o3 g cc k A) (hk : KpR Bn m g W W') : BkAt W' Bn m o3 g cc k A :=
  ⟨(World.cell?_of_block (a := ⟨Bn, 0, none⟩) hk.1).trans h.b, (World.cell?_of_block (a := ⟨m, o3, none⟩) hk.2.1).trans h.s, fun j hj => (World.cell?_of_block (a := ⟨g, j, none⟩) hk.2.2).trans (h.c j hj)⟩
def pr2 (A : Nat → Int) (i : Nat) : Int × Int := (A (i * 2), A (i * 2 + 1))
def downL (A : Nat → Int) (k : Nat) : List (Int × Int) := (List.range k).reverse.map (pr2 A)
def downP (A : Nat → Int) (k r : Nat) : List (Int × Int) := (downL A k).take r
theorem downL_len (A : Nat → Int) (k : Nat) : (downL A k).length = k := by simp [downL]
theorem downP_succ (A : Nat → Int) {k r : Nat} (h : r < k) : downP A k (r + 1) = downP A k r ++ [pr2 A (k - 1 - r)] := by
  unfold downP
  rw [List.take_add_one]
  congr 1
  have : (downL A k)[r]? = some (pr2 A (k - 1 - r)) := by
    unfold downL
    rw [List.getElem?_map, List.getElem?_reverse (by simpa using h), List.length_range, List.getElem?_range (by omega)]; rfl
  rw [this]; rfl
def encR (x : Int × Int) : Array Value := #[.agg #[.int .i64 x.1, .int .i64 x.2]]
set_option maxRecDepth 100000 in
set_option maxHeartbeats 4000000 in
theorem back1_in (F : Fence) (n : Nat) (h56 : F.fn 56) (hro : F.round = none) (hn : 1 ≤ n) (l Bn m o3 g cc k : Nat) (A : Nat → Int) (hk : 1 ≤ k) (hk2 : k ≤ 100000) (J Jx : List (Int × Int) → World → Prop)
    (hY : ∀ pre x W, J pre W → pre.length < k → YieldAt F (n - 1) Try.prog l (encR x) W fun e W' =>
      (e = .returned (.bool true) ∧ J (pre ++ [x]) W' ∧ KpR Bn m g W W') ∨ (e = .returned (.bool false) ∧ Jx (pre ++ [x]) W'))
    (W : World) (hB : BkAt W Bn m o3 g cc k A) (h0 : J [] W) :
    CallsIn F n Try.prog 56 #[.func (.yield l) #[] #[], .pointer (some ⟨Bn, 0, none⟩)] W fun e W' => (∃ v, e = .returned v) ∧
      ((∃ ys, ys = downL A k ∧ J ys W') ∨ (∃ pre, pre <+: downL A k ∧ Jx pre W')) := by
  have hb := hB.b; have hs := hB.s
  refine callsIn_of_wp Try.func56 rfl h56 ?_ hro
  simp only [Try.ntmps56, List.size_toArray, List.length_cons, List.length_nil, Nat.reduceAdd, Nat.reduceSub, Array.replicate_succ, Array.replicate_zero, List.push_toArray, List.append_toArray, List.nil_append, List.cons_append]
  gi_wp2
  gi_loopw [3] (fun p wr => ∃ r : Nat, r ≤ k ∧ p = .int .i64 ((k : Int) - 1 - r) ∧ BkAt wr Bn m o3 g cc k A ∧ J (downP A k r) wr)
    (fun p wr => (RowKit.intOf p + 1).toNat)
  case atStart =>
    exact ⟨0, Nat.zero_le _, by simp, hB, h0⟩
  case round =>
    obtain ⟨r, hr, rfl, hBr, hJ⟩ := hrel
    have hb := hBr.b; have hs := hBr.s
    rcases Nat.lt_or_ge r k with hrk | hrk
    · obtain ⟨i, hi⟩ : ∃ i : Nat, k - 1 - r = i := ⟨_, rfl⟩
      have hi' : (k : Int) - 1 - (r : Int) = (i : Int) := by omega
      have hik : i < k := by omega
      have hiI : (i : Int) < (k : Int) := by omega
      have c0 := hBr.c (i * 2) (by omega)
      have c1 := hBr.c (i * 2 + 1) (by omega)
      have hlen : (downP A k r).length < k := by unfold downP; rw [List.length_take, downL_len]; omega
      obtain ⟨fn, tmps, assign, body, hy, hR⟩ := hY (downP A k r) (pr2 A i) wr hJ hlen
      simp only [encR, pr2] at hy
      simp only [hi']
      gi_wp2
      refine hR.mono ?_
      rintro e W3 (⟨rfl, hJ3, hk3⟩ | ⟨rfl, hJx3⟩)
      · have hB3 := hBr.keep hk3
        gi_wp2
        go_roundw
        case rel =>
          refine ⟨r + 1, hrk, by simp; omega, hB3, ?_⟩
          rw [downP_succ A hrk, hi]; exact hJ3
        case measure => simp [RowKit.intOf]
      · gi_wp2
        refine bodyPost_ret (results_none rfl _ _ _) rfl ?_
        refine ⟨⟨_, rfl⟩, .inr ⟨downP A k r ++ [pr2 A i], ?_, hJx3⟩⟩
        rw [← hi, ← downP_succ A hrk]
        exact List.take_prefix _ _
    · have hi' : (k : Int) - 1 - (r : Int) = -1 := by omega
      simp only [hi']
      gi_wp2
      go_end0
      refine ⟨⟨_, rfl⟩, .inl ⟨_, ?_, hJ⟩⟩
      unfold downP
      exact List.take_of_length_le (by rw [downL_len]; omega)
theorem KpR.trans {Bn m g : Nat} {A B C : World} (h : KpR Bn m g A B) (h' : KpR Bn m g B C) : KpR Bn m g A C := ⟨h'.1.trans h.1, h'.2.1.trans h.2.1, h'.2.2.trans h.2.2⟩
theorem back_stops (F : Fence) (n : Nat) (h56 : F.fn 56) (hro : F.round = none) (hn : 1 ≤ n) (Bn m o3 g cc k : Nat) (A : Nat → Int) (hk : 1 ≤ k) (hk2 : k ≤ 100000) (w : World) (hB : BkAt w Bn m o3 g cc k A) (hlt : Bn < w.heap.size ∧ m < w.heap.size ∧ g < w.heap.size) :
    SeqStopsK F n Try.prog 56 #[.pointer (some ⟨Bn, 0, none⟩)] encR (KpR Bn m g) (fun ys => ys = downL A k) (fun pre => pre <+: downL A k) k w := fun l J Jx W hW _ _ hY h0 =>
  back1_in F n h56 hro hn l Bn m o3 g cc k A hk hk2 J Jx hY W
    ⟨(hW.cell (p := ⟨Bn, 0, none⟩) hlt.1).trans hB.b, (hW.cell (p := ⟨m, o3, none⟩) hlt.2.1).trans hB.s, fun j hj => (hW.cell (p := ⟨g, j, none⟩) hlt.2.2).trans (hB.c j hj)⟩ h0
set_option maxHeartbeats 1000000 in
theorem backward_in (F : Fence) (n : Nat) (h45 : F.fn 45) (hro : F.round = none) (p0 : Option Addr) (w : World) :
    CallsIn F n Try.prog 45 #[.pointer p0] w fun e w' => e = .returned (.func (.func 56) #[] #[.pointer (some ⟨w.heap.size, 0, none⟩)]) ∧ w' = w.alloc (.cells #[.pointer p0] 95) := by
  refine callsIn_of_wp Try.func45 rfl h45 ?_ hro
  simp only [Try.ntmps45, List.size_toArray, List.length_cons, List.length_nil, Nat.reduceAdd, Nat.reduceSub, Array.replicate_succ, Array.replicate_zero, List.push_toArray, List.append_toArray, List.nil_append, List.cons_append]
  gi_wp2
  go_ret
  exact ⟨rfl, rfl⟩
structure Turned (K : Nat) (cs : Array Value) (T : TypeId) (w W : World) : Prop where
  k : W.heap[K]? = some (.cells cs T (0, 0))
  same : ∀ j, j < w.heap.size → j ≠ K → W.heap[j]? = w.heap[j]?
  size : w.heap.size ≤ W.heap.size
  os : W.os = w.os
  tape : W.tape = w.tape
  output : W.output = w.output
theorem Turned.alloc {K : Nat} {cs : Array Value} {T : TypeId} {w W : World} (h : Turned K cs T w W) (hK : K < w.heap.size) (o : Obj) : Turned K cs T w (W.alloc o) where
  k := by
    have := h.size
    simp only [World.alloc]; rw [Array.getElem?_push_lt (by omega), ← Array.getElem?_eq_getElem]; exact h.k
  same j hj hn := by
    have := h.size
    simp only [World.alloc]; rw [Array.getElem?_push_lt (by omega), ← Array.getElem?_eq_getElem]; exact h.same j hj hn
  size := by have := h.size; simp only [World.alloc, Array.size_push]; omega
  os := h.os
  tape := h.tape
  output := h.output
theorem heap_setCell_ne {w : World} {b o : Nat} {v : Value} {j : Nat} (h : j ≠ b) : (w.setCell ⟨b, o, none⟩ v).heap[j]? = w.heap[j]? := Below.heap_setCell _ _ _ j (fun e => h e)
theorem size_setCell (w : World) (a : Addr) (v : Value) : (w.setCell a v).heap.size = w.heap.size := by simp [World.setCell]
theorem Turned.far {K : Nat} {cs : Array Value} {T : TypeId} {w W : World} (h : Turned K cs T w W) (hK : K < w.heap.size) {b o : Nat} (hb : w.heap.size ≤ b) (v : Value) : Turned K cs T w (W.setCell ⟨b, o, none⟩ v) where
  k := by rw [heap_setCell_ne (by omega)]; exact h.k
  same j hj hn := by rw [heap_setCell_ne (by omega)]; exact h.same j hj hn
  size := by rw [size_setCell]; exact h.size
  os := h.os
  tape := h.tape
  output := h.output
theorem Turned.set {K : Nat} {cs : Array Value} {T : TypeId} {w W : World} (h : Turned K cs T w W) (o : Nat) (v : Value) : Turned K (cs.setIfInBounds o v) T w (W.setCell ⟨K, o, none⟩ v) where
  k := by rw [setCell_wset h.k]; exact wset_same (Array.getElem?_eq_some_iff.1 h.k).1
  same j hj hn := by rw [heap_setCell_ne hn]; exact h.same j hj hn
  size := by rw [size_setCell]; exact h.size
  os := h.os
  tape := h.tape
  output := h.output
theorem Turned.drew {K : Nat} {cs : Array Value} {T : TypeId} {w W : World} (h : Turned K cs T w W) : Turned K cs T w W.drew := ⟨h.k, h.same, h.size, h.os, h.tape, h.output⟩
theorem Turned.of {K : Nat} {cs : Array Value} {T : TypeId} {w : World} (h : w.heap[K]? = some (.cells cs T (0, 0))) : Turned K cs T w w := ⟨h, fun _ _ _ => rfl, Nat.le_refl _, rfl, rfl, rfl⟩
theorem Turned.cell {K : Nat} {cs : Array Value} {T : TypeId} {w W : World} (h : Turned K cs T w W) (j : Nat) : W.cell? ⟨K, j, none⟩ = cs[j]? ∧ W.frozen? ⟨K, j, none⟩ = false := by
  simp [World.cell?, World.frozen?, h.k]
set_option maxRecDepth 100000 in
set_option maxHeartbeats 4000000 in
theorem reset_nil (F : Fence) (n : Nat) (h44 : F.fn 44) (hro : F.round = none) (K : Nat) (x1 x2 x3 x4 : Int) (w : World) (hK : w.heap[K]? = some (.cells #[.slice none 0 0, .int .i64 x1, .int .u64 x2, .int .u64 x3, .int .u64 x4] 65 (0, 0))) :
    CallsIn F n Try.prog 44 #[.pointer (some ⟨K, 0, none⟩)] w fun e W' => e = .returned (.tuple #[]) ∧ Turned K #[.slice none 0 0, .int .i64 0, .int .u64 0, .int .u64 0, .int .u64 0] 65 w W' := by
  have T0 := Turned.of hK
  have c0 := T0.cell 0; have c1 := T0.cell 1; have c2 := T0.cell 2; have c3 := T0.cell 3; have c4 := T0.cell 4
  obtain ⟨c0, f0⟩ := c0; obtain ⟨c1, f1⟩ := c1; obtain ⟨c2, f2⟩ := c2; obtain ⟨c3, f3⟩ := c3; obtain ⟨c4, f4⟩ := c4
  simp only [List.getElem?_toArray, List.getElem?_cons_zero, List.getElem?_cons_succ] at c0 c1 c2 c3 c4
  refine callsIn_of_wp Try.func44 rfl h44 ?_ hro
  simp only [Try.ntmps44, List.size_toArray, List.length_cons, List.length_nil, Nat.reduceAdd, Nat.reduceSub, Array.replicate_succ, Array.replicate_zero, List.push_toArray, List.append_toArray, List.nil_append, List.cons_append]
  gi_wp2
  gi_loopw [21] (fun i wr => i = .int .i64 0 ∧ Turned K #[.slice none 0 0, .int .i64 0, .int .u64 0, .int .u64 0, .int .u64 0] 65 w wr) (fun _ _ => 0)
  case atStart => exact ⟨rfl, (((T0.set 1 (.int .i64 0)).set 2 (.int .u64 0)).set 3 (.int .u64 0)).set 4 (.int .u64 0)⟩
  case round =>
    obtain ⟨rfl, hT⟩ := hrel
    obtain ⟨d0, g0⟩ := hT.cell 0
    simp only [List.getElem?_toArray, List.getElem?_cons_zero, List.getElem?_cons_succ] at d0
    gi_wp2
    go_end0
    exact ⟨rfl, hT.set 0 _⟩
set_option maxRecDepth 100000 in
set_option maxHeartbeats 4000000 in
theorem reset_some (F : Fence) (n : Nat) (h44 : F.fn 44) (w0 : Nat) (hro : F.round = none) (K rb mm cc : Nat) (B : Nat → Int) (hrK : rb ≠ K) (hrw : rb < w0) (hm : mm ≤ 100000) (hmc : mm ≤ cc) (x1 x2 x3 x4 : Int) (w : World) (hw0 : w0 = w.heap.size) (hB : ∀ j, j < mm * 2 → w.cell? ⟨rb, j, none⟩ = some (.int .i64 (B j))) (hK : w.heap[K]? = some (.cells #[.slice (some ⟨rb, 0, none⟩) mm cc, .int .i64 x1, .int .u64 x2, .int .u64 x3, .int .u64 x4] 65 (0, 0))) :
    CallsIn F n Try.prog 44 #[.pointer (some ⟨K, 0, none⟩)] w fun e W' => e = .returned (.tuple #[]) ∧ Turned K #[.slice (some ⟨rb, 0, none⟩) 0 cc, .int .i64 0, .int .u64 0, .int .u64 0, .int .u64 0] 65 w W' := by
  have T0 := Turned.of hK
  have c0 := T0.cell 0; have c1 := T0.cell 1; have c2 := T0.cell 2; have c3 := T0.cell 3; have c4 := T0.cell 4
  obtain ⟨c0, f0⟩ := c0; obtain ⟨c1, f1⟩ := c1; obtain ⟨c2, f2⟩ := c2; obtain ⟨c3, f3⟩ := c3; obtain ⟨c4, f4⟩ := c4
  simp only [List.getElem?_toArray, List.getElem?_cons_zero, List.getElem?_cons_succ] at c0 c1 c2 c3 c4
  refine callsIn_of_wp Try.func44 rfl h44 ?_ hro
  simp only [Try.ntmps44, List.size_toArray, List.length_cons, List.length_nil, Nat.reduceAdd, Nat.reduceSub, Array.replicate_succ, Array.replicate_zero, List.push_toArray, List.append_toArray, List.nil_append, List.cons_append]
  subst hw0
  have hKw : K < w.heap.size := (Array.getElem?_eq_some_iff.1 hK).1
  gi_wp2
  gi_loopw [21] (fun i wr => ∃ r : Nat, r ≤ mm ∧ i = .int .i64 (r : Int) ∧ Turned K #[.slice (some ⟨rb, 0, none⟩) mm cc, .int .i64 0, .int .u64 0, .int .u64 0, .int .u64 0] 65 w wr) (fun p _ => (mm - (RowKit.intOf p).toNat))
  case atStart => exact ⟨0, Nat.zero_le _, rfl, (((T0.set 1 (.int .i64 0)).set 2 (.int .u64 0)).set 3 (.int .u64 0)).set 4 (.int .u64 0)⟩
  case round =>
    obtain ⟨r, hr, rfl, hT⟩ := hrel
    obtain ⟨d0, g0⟩ := hT.cell 0
    simp only [List.getElem?_toArray, List.getElem?_cons_zero, List.getElem?_cons_succ] at d0
    rcases Nat.lt_or_ge r mm with hrm | hrm
    · have b0 : wr.cell? ⟨rb, r * 2, none⟩ = some (.int .i64 (B (r * 2))) := (World.cell?_of_block (a := ⟨rb, r * 2, none⟩) (hT.same rb hrw hrK)).trans (hB _ (by omega))
      have b1 : wr.cell? ⟨rb, r * 2 + 1, none⟩ = some (.int .i64 (B (r * 2 + 1))) := (World.cell?_of_block (a := ⟨rb, r * 2 + 1, none⟩) (hT.same rb hrw hrK)).trans (hB _ (by omega))
      have hrI : (r : Int) < (mm : Int) := by omega
      gi_wp2
      go_roundw
      case rel => exact ⟨r + 1, hrm, by simp, hT.alloc hKw _⟩
      case measure => simp [RowKit.intOf]; omega
    · have hrI : ¬ ((r : Int) < (mm : Int)) := by omega
      gi_wp2
      go_end0
      exact ⟨rfl, hT.set 0 _⟩
theorem post44 {w wl W : World} {K bx m o : Nat} {cs : Array Value} {e0 e1 ec : Int} {rs : Value} (hT : Turned K cs 65 wl W) (hs : w.heap.size ≤ wl.heap.size) (hbx : wl.heap[bx]? = some (.cells #[.pointer (some ⟨K, 0, none⟩)] 60 (0, 0))) (hne : bx ≠ K) (hmK : m ≠ K)
    (hold : wl.heap[m]? = w.heap[m]?) (hmw : m < w.heap.size) (fz : ∀ j, w.frozen? ⟨m, j, none⟩ = false)
    (c0 : w.cell? ⟨m, o, none⟩ = some (.int .u64 e0)) (c1 : w.cell? ⟨m, o + 1, none⟩ = some (.int .u64 e1)) (c2 : w.cell? ⟨m, o + 2, none⟩ = some (.int .u64 ec)) (c3 : w.cell? ⟨m, o + 3, none⟩ = some rs) :
    W.cell? ⟨bx, 0, none⟩ = some (.pointer (some ⟨K, 0, none⟩)) ∧ W.cell? ⟨m, o, none⟩ = some (.int .u64 e0) ∧ W.cell? ⟨m, o + 1, none⟩ = some (.int .u64 e1) ∧ W.cell? ⟨m, o + 2, none⟩ = some (.int .u64 ec) ∧ W.cell? ⟨m, o + 3, none⟩ = some rs ∧ (∀ j, W.frozen? ⟨m, j, none⟩ = false) ∧
      W.heap[m]? = w.heap[m]? ∧ W.heap[bx]? = some (.cells #[.pointer (some ⟨K, 0, none⟩)] 60 (0, 0)) := by
  have hm : W.heap[m]? = w.heap[m]? := (hT.same m (by omega) hmK).trans hold
  have hb : W.heap[bx]? = some (.cells #[.pointer (some ⟨K, 0, none⟩)] 60 (0, 0)) := (hT.same bx (Array.getElem?_eq_some_iff.1 hbx).1 hne).trans hbx
  refine ⟨by simp [World.cell?, hb], (World.cell?_of_block (a := ⟨m, o, none⟩) hm).trans c0, (World.cell?_of_block (a := ⟨m, o + 1, none⟩) hm).trans c1, (World.cell?_of_block (a := ⟨m, o + 2, none⟩) hm).trans c2, (World.cell?_of_block (a := ⟨m, o + 3, none⟩) hm).trans c3, fun j => (World.frozen?_of_block (a := ⟨m, j, none⟩) hm).trans (fz j), hm, hb⟩
end Go.Proofs.Ytgianhjmjiiadaa
