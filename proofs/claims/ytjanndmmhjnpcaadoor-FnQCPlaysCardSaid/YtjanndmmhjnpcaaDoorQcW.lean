/- The next id is taken: the walk of next. -/
import Derived.Test.YtjanndmmhjnpcaaDoorQcI
set_option autoImplicit true
set_option relaxedAutoImplicit true
set_option linter.unusedVariables false
set_option linter.unusedSimpArgs false
namespace Go.Proofs.YtjanndmmhjnpcaaDoor
open Go Go.Sy Go.RowKit Go.Lib
def NextPost (m g off n c : Nat) (act hi per x0 : Int) (w w' : World) : Prop :=
  ∃ (off' c' : Nat) (mx : Int) (X : World), mx = max hi act ∧ (c = 1 ∨ off' = off + 1) ∧ c' = c - 1 ∧ X = ((((w.setCell ⟨m, 0, none⟩ (.int .u64 x0)).setCell ⟨m, 1, none⟩ (.slice (some ⟨g, off', none⟩) (n - 1) c')).setCell ⟨m, 2, none⟩ (.int .u64 mx)).setCell ⟨m, 4, none⟩ (.int .u64 0)).setCell ⟨m, 5, none⟩ (.int .u64 per) ∧ w' = X.drew.drew
set_option maxHeartbeats 4000000 in
set_option maxRecDepth 100000 in
theorem next_walk (m g off n c : Nat) (act hi sent every per x0 : Int) (rdy : Bool) (w : World) (hn : 1 ≤ n) (hnc : n ≤ c) (hc : c ≤ maxLen) (hmg : m ≠ g)
    (fz : ∀ j, w.frozen? ⟨m, j, none⟩ = false) (c0 : w.cell? ⟨m, 0, none⟩ = some (.int .u64 act)) (c1 : w.cell? ⟨m, 1, none⟩ = some (.slice (some ⟨g, off, none⟩) n c)) (c2 : w.cell? ⟨m, 2, none⟩ = some (.int .u64 hi))
    (c4 : w.cell? ⟨m, 4, none⟩ = some (.int .u64 sent)) (c5 : w.cell? ⟨m, 5, none⟩ = some (.int .u64 every)) (c6 : w.cell? ⟨m, 6, none⟩ = some (.int .u64 per)) (hq : w.cell? ⟨g, off, none⟩ = some (.int .u64 x0)) :
    Calls Tryd.prog 29 #[.pointer (some ⟨m, 0, none⟩)] w fun e w' => e = .returned (.int .u64 act) ∧ NextPost m g off n c act hi per x0 w w' := by
  have t34 := (by kernel_rfl : Tryd.prog.underlying 34 = some (.slice 29)); have t3 := t3; have t4 := t4
  have u34 := run_underlying t34; have u3 := run_underlying t3; have u4 := run_underlying t4
  have mixed : Tryd.prog.follows .mixedOrders = true := by kernel_rfl
  have hc64 : c ≤ 9223372036854775807 := hc
  have h1n : (1 : Int) ≤ (n : Int) := by omega
  have h0n : (0 : Int) < (n : Int) := by omega
  have h0 : 0 < n := by omega
  have f0 := fz 0; have f1 := fz 1; have f2 := fz 2; have f4 := fz 4; have f5 := fz 5
  rcases Int.lt_trichotomy hi act with hlt | hheq | hgt
  · have hle2 : ¬ act < hi := by omega
    have hmx : max hi act = act := by omega
    go_enter Tryd.func29, Tryd.ntmps29
    go_wp2
    all_goals go_region_law_o (fail)
    all_goals go_wp2
    all_goals go_region_law_o (fail)
    all_goals go_wp2
    all_goals go_ret
    all_goals refine ⟨rfl, _, _, _, _, ?_, ?_, ?_, rfl, rfl⟩
    all_goals first | (show _ = _; omega) | exact Or.inr rfl | (refine Or.inl ?_; omega)
  · subst hheq
    go_enter Tryd.func29, Tryd.ntmps29
    go_wp2
    all_goals go_region_law_o (fail)
    all_goals go_wp2
    all_goals go_region_law_o (fail)
    all_goals go_wp2
    all_goals go_ret
    all_goals refine ⟨rfl, _, _, _, _, ?_, ?_, ?_, rfl, rfl⟩
    all_goals first | (show _ = _; omega) | exact Or.inr rfl | (refine Or.inl ?_; omega)
  · have hle2 : ¬ hi < act := by omega
    have hmx : max hi act = hi := by omega
    go_enter Tryd.func29, Tryd.ntmps29
    go_wp2
    all_goals go_region_law_o (fail)
    all_goals go_wp2
    all_goals go_region_law_o (fail)
    all_goals go_wp2
    all_goals go_ret
    all_goals refine ⟨rfl, _, _, _, _, ?_, ?_, ?_, rfl, rfl⟩
    all_goals first | (show _ = _; omega) | exact Or.inr rfl | (refine Or.inl ?_; omega)
end Go.Proofs.YtjanndmmhjnpcaaDoor
