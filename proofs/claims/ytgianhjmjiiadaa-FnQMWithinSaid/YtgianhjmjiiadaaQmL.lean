/- GetAckFrame's loop: what each round keeps. -/
import Derived.RangeFuncNested
import Derived.Test.YtgianhjmjiiadaaQmG
import Derived.Test.YtgianhjmjiiadaaQmK
set_option autoImplicit true
set_option relaxedAutoImplicit true
set_option linter.unusedVariables false
set_option linter.unusedSimpArgs false
namespace Go.Proofs.Ytgianhjmjiiadaa
open Go Go.Sy Go.RowKit Go.Shelf
attribute [local go_sem] Oper.semAt_some
theorem t62 : Try.prog.underlying 62 = some (.slice 67) := by kernel_rfl
theorem i67c : (Try.prog.info? 67).map (fun i => (i.zero.map (·.cells), i.size, i.bytes)) = some (some #[.int .i64 0, .int .i64 0], 2, 16) := by kernel_rfl
theorem i67 : ∃ i z, Try.prog.info? 67 = some i ∧ i.zero = some z ∧ z.cells.size = 2 ∧ i.size = 2 ∧ i.bytes = 16 := by
  have h := i67c
  cases hq : Try.prog.info? 67 with
  | none => rw [hq] at h; cases h
  | some i0 =>
    rw [hq] at h
    simp only [Option.map_some, Option.some.injEq, Prod.mk.injEq] at h
    obtain ⟨h1, h2, h3⟩ := h
    cases hz : i0.zero with
    | none => rw [hz] at h1; cases h1
    | some z => rw [hz] at h1; simp only [Option.map_some, Option.some.injEq] at h1; exact ⟨i0, z, rfl, hz, by rw [h1]; rfl, h2, h3⟩
def flatR (l : List (Int × Int)) : List Value := l.flatMap fun x => [.int .i64 x.1, .int .i64 x.2]
theorem flatR_snoc (l : List (Int × Int)) (x : Int × Int) : flatR (l ++ [x]) = flatR l ++ [.int .i64 x.1, .int .i64 x.2] := by simp [flatR]
def frm (v : Value) (e0 e1 ec : Int) : Array Value := #[v, .int .i64 0, .int .u64 e0, .int .u64 e1, .int .u64 ec]
structure GW (K : Nat) (e0 e1 ec : Int) (S0 : Value) (wB : World) (v : Value) (pre : List (Int × Int)) (W : World) : Prop where
  k : W.heap[K]? = some (.cells (frm v e0 e1 ec) 65 (0, 0))
  same : ∀ j, j < wB.heap.size → j ≠ K → S0.ownBlock ≠ some j → W.heap[j]? = wB.heap[j]?
  size : wB.heap.size ≤ W.heap.size
  os : W.os = wB.os
  tape : W.tape = wB.tape
  output : W.output = wB.output
  row : W.ownsRow 0 67 2 v pre.length (flatR pre)
  at_ : ∀ r, v.ownBlock = some r → S0.ownBlock = some r ∨ wB.heap.size ≤ r
theorem own_cells {W : World} {base e size n : Nat} {v : Value} {xs : List Value} (h : W.ownsRow base e size v n xs) {j : Nat} (hj : v.ownBlock = some j) : ∃ cur, W.heap[j]? = some (.cells cur e (0, 0)) := by
  rcases h.2 with ⟨rfl, _⟩ | ⟨g, cap, cur, rfl, _, hg, _⟩
  · simp [Value.ownBlock] at hj
  · obtain rfl : g = j := by simpa [Value.ownBlock] using hj
    exact ⟨cur, hg⟩
theorem ga_step {K : Nat} {e0 e1 ec : Int} {S0 : Value} {wB : World} {v : Value} {pre : List (Int × Int)} {W : World} (h : GW K e0 e1 ec S0 wB v pre W) (hK : K < wB.heap.size) (x : Int × Int) (hlen : pre.length < 1000) (ty : TypeId) :
    ∃ v' w1, (Builtin.append_ #[62, 62] ty #[v, .slice (some ⟨W.heap.size, 0, none⟩) 1 1]).run Try.prog (W.drew.alloc (.cells #[.int .i64 x.1, .int .i64 x.2] 67)) = .ok v' w1 ∧ GW K e0 e1 ec S0 wB v' (pre ++ [x]) (w1.setCell ⟨K, 0, none⟩ v') ∧
      w1.heap[K]? = some (.cells (frm v e0 e1 ec) 65 (0, 0)) ∧ KeepsFrom wB.heap.size W (w1.setCell ⟨K, 0, none⟩ v') ∧ (∀ j, j < wB.heap.size → j ≠ K → S0.ownBlock ≠ some j → w1.heap[j]? = W.heap[j]?) ∧ (∃ g cap, v' = .slice (some ⟨g, 0, none⟩) (pre.length + 1) cap) := by
  obtain ⟨i, z, hi, hz, hzs, hs, hb⟩ := i67
  have hrow0 : (W.drew.alloc (.cells #[.int .i64 x.1, .int .i64 x.2] 67)).ownsRow 0 67 2 v pre.length (flatR pre) := World.ownsRow.alloc (show W.drew.ownsRow 0 67 2 v pre.length (flatR pre) from h.row) _
  have hnewb : (W.drew.alloc (.cells #[.int .i64 x.1, .int .i64 x.2] 67)).heap[W.heap.size]? = some (.cells #[.int .i64 x.1, .int .i64 x.2] 67 (0, 0)) := World.alloc_heap_new W.drew _
  have hold : ∀ j, j < W.heap.size → (W.drew.alloc (.cells #[.int .i64 x.1, .int .i64 x.2] 67)).heap[j]? = W.heap[j]? := fun j hj => Below.heap_alloc W.drew _ _ hj
  obtain ⟨v', w1, hrun, hown, hgr, hnil, hat⟩ := run_append_own_at (P := Try.prog) (W.drew.alloc (.cells #[.int .i64 x.1, .int .i64 x.2] 67)) 0 62 ty 67 i z 2 16 t62 hi hz hs hb hzs (by decide) v pre.length (flatR pre) hrow0 ⟨W.heap.size, 0, none⟩ 1 1 [.int .i64 x.1, .int .i64 x.2] rfl
    (by
      intro j u hj
      rw [addr_add, Nat.zero_add]
      simp only [World.cell?, hnewb]
      simpa using hj)
    (by intro u hu; simp at hu; rcases hu with rfl | rfl <;> rfl) (by simp only [maxLen]; omega) (by omega) (Nat.zero_le _)
  have hsz0 : (W.drew.alloc (.cells #[.int .i64 x.1, .int .i64 x.2] 67)).heap.size = W.heap.size + 1 := World.size_alloc _ _
  have hKW : K < W.heap.size := Nat.lt_of_lt_of_le hK h.size
  have hvK : some K ≠ v.ownBlock := fun e => by
    obtain ⟨cur, hc⟩ := own_cells h.row e.symm
    rw [h.k] at hc; simp at hc
  have hK1 : w1.heap[K]? = some (.cells (frm v e0 e1 ec) 65 (0, 0)) := (hgr.block K (by omega) hvK).trans ((hold K hKW).trans h.k)
  have hv'K : some K ≠ v'.ownBlock := fun e => by
    obtain ⟨cur, hc⟩ := own_cells hown e.symm
    rw [hK1] at hc; simp at hc
  have hfl : flatR (pre ++ [x]) = flatR pre ++ [.int .i64 x.1, .int .i64 x.2] := flatR_snoc pre x
  have hsame : ∀ j, j < wB.heap.size → j ≠ K → S0.ownBlock ≠ some j → w1.heap[j]? = W.heap[j]? := fun j hj hjK hjS => by
    have hjW : j < W.heap.size := Nat.lt_of_lt_of_le hj h.size
    refine (hgr.block j (by omega) fun e => ?_).trans (hold j hjW)
    rcases h.at_ j e.symm with h' | h'
    · exact hjS h'
    · omega
  have hk3 : (w1.setCell ⟨K, 0, none⟩ v').heap[K]? = some (.cells (frm v' e0 e1 ec) 65 (0, 0)) := by
    rw [setCell_wset hK1]
    exact wset_same (Array.getElem?_eq_some_iff.1 hK1).1
  have hne3 : ∀ j, j ≠ K → (w1.setCell ⟨K, 0, none⟩ v').heap[j]? = w1.heap[j]? := fun j hj => heap_setCell_ne hj
  refine ⟨v', w1, hrun, ⟨hk3, fun j hj hjK hjS => (hne3 j hjK).trans ((hsame j hj hjK hjS).trans (h.same j hj hjK hjS)), ?_, hgr.os.trans h.os, hgr.tape.trans h.tape, hgr.output.trans h.output, ?_, ?_⟩, hK1, ⟨?_, ?_⟩, hsame, ownsRow_succ hown⟩
  · have := hgr.size; have := h.size
    rw [size_setCell]; omega
  · rw [hfl, List.length_append]
    exact hown.kept (grownBy_setCell' w1 K v') (.inr fun e => hv'K e.symm)
  · intro r hr
    rcases hat with h' | h'
    · exact h.at_ r (h' ▸ hr)
    · rw [h'] at hr
      have : (W.drew.alloc (.cells #[.int .i64 x.1, .int .i64 x.2] 67)).heap.size = r := by simpa using hr
      have := h.size
      right; omega
  · have := hgr.size
    rw [size_setCell]; omega
  · intro j o hj ho hc
    have hjK : j ≠ K := by omega
    have hjW : j < W.heap.size := (Array.getElem?_eq_some_iff.1 ho).1
    refine (hne3 j hjK).trans ((hgr.block j (by omega) fun e => ?_).trans ((hold j hjW).trans ho))
    obtain ⟨cur, hcc⟩ := own_cells h.row e.symm
    rw [ho] at hcc; cases hcc; cases hc
end Go.Proofs.Ytgianhjmjiiadaa
