/- The functions of the claim. -/
import Derived.Test.YtjanndmmhjnpcaaDoorQcD
set_option autoImplicit true
set_option relaxedAutoImplicit true
set_option linter.unusedVariables false
set_option maxRecDepth 100000
namespace Go.Proofs.YtjanndmmhjnpcaaDoor
open Go Go.Sy
theorem okf_call : ∀ f ∈ okf, ∀ args w, (callFunc f args).run Tryd.prog w = .ok (.enter f args) w := by
  intro f hf
  simp only [okf, List.mem_cons, List.not_mem_nil, or_false] at hf
  rcases hf with rfl | rfl | rfl | rfl | rfl | rfl | rfl | rfl | rfl | rfl | rfl | rfl | rfl | rfl | rfl | rfl | rfl | rfl | rfl | rfl | rfl | rfl | rfl | rfl | rfl | rfl | rfl | rfl | rfl | rfl | rfl | rfl | rfl | rfl | rfl | rfl | rfl | rfl | rfl | rfl | rfl
  · exact Tryd.call3
  · exact Tryd.call4
  · exact Tryd.call5
  · exact Tryd.call6
  · exact Tryd.call7
  · exact Tryd.call8
  · exact Tryd.call9
  · exact Tryd.call10
  · exact Tryd.call11
  · exact Tryd.call12
  · exact Tryd.call13
  · exact Tryd.call14
  · exact Tryd.call15
  · exact Tryd.call16
  · exact Tryd.call17
  · exact Tryd.call18
  · exact Tryd.call19
  · exact Tryd.call20
  · exact Tryd.call21
  · exact Tryd.call22
  · exact Tryd.call23
  · exact Tryd.call24
  · exact Tryd.call28
  · exact Tryd.call29
  · exact Tryd.call30
  · exact Tryd.call31
  · exact Tryd.call32
  · exact Tryd.call33
  · exact Tryd.call34
  · exact Tryd.call35
  · exact Tryd.call36
  · exact Tryd.call40
  · exact Tryd.call41
  · exact Tryd.call42
  · exact Tryd.call43
  · exact Tryd.call44
  · exact Tryd.call45
  · exact Tryd.call46
  · exact Tryd.call47
  · exact Tryd.call48
  · exact Tryd.call49
theorem okf_body : ∀ f ∈ okf, ∃ fn c, Tryd.prog.funcs[f]? = some fn ∧ fn.body = some c := by
  intro f hf
  simp only [okf, List.mem_cons, List.not_mem_nil, or_false] at hf
  rcases hf with rfl | rfl | rfl | rfl | rfl | rfl | rfl | rfl | rfl | rfl | rfl | rfl | rfl | rfl | rfl | rfl | rfl | rfl | rfl | rfl | rfl | rfl | rfl | rfl | rfl | rfl | rfl | rfl | rfl | rfl | rfl | rfl | rfl | rfl | rfl | rfl | rfl | rfl | rfl | rfl | rfl
  · exact ⟨_, _, Tryd.func3, rfl⟩
  · exact ⟨_, _, Tryd.func4, rfl⟩
  · exact ⟨_, _, Tryd.func5, rfl⟩
  · exact ⟨_, _, Tryd.func6, rfl⟩
  · exact ⟨_, _, Tryd.func7, rfl⟩
  · exact ⟨_, _, Tryd.func8, rfl⟩
  · exact ⟨_, _, Tryd.func9, rfl⟩
  · exact ⟨_, _, Tryd.func10, rfl⟩
  · exact ⟨_, _, Tryd.func11, rfl⟩
  · exact ⟨_, _, Tryd.func12, rfl⟩
  · exact ⟨_, _, Tryd.func13, rfl⟩
  · exact ⟨_, _, Tryd.func14, rfl⟩
  · exact ⟨_, _, Tryd.func15, rfl⟩
  · exact ⟨_, _, Tryd.func16, rfl⟩
  · exact ⟨_, _, Tryd.func17, rfl⟩
  · exact ⟨_, _, Tryd.func18, rfl⟩
  · exact ⟨_, _, Tryd.func19, rfl⟩
  · exact ⟨_, _, Tryd.func20, rfl⟩
  · exact ⟨_, _, Tryd.func21, rfl⟩
  · exact ⟨_, _, Tryd.func22, rfl⟩
  · exact ⟨_, _, Tryd.func23, rfl⟩
  · exact ⟨_, _, Tryd.func24, rfl⟩
  · exact ⟨_, _, Tryd.func28, rfl⟩
  · exact ⟨_, _, Tryd.func29, rfl⟩
  · exact ⟨_, _, Tryd.func30, rfl⟩
  · exact ⟨_, _, Tryd.func31, rfl⟩
  · exact ⟨_, _, Tryd.func32, rfl⟩
  · exact ⟨_, _, Tryd.func33, rfl⟩
  · exact ⟨_, _, Tryd.func34, rfl⟩
  · exact ⟨_, _, Tryd.func35, rfl⟩
  · exact ⟨_, _, Tryd.func36, rfl⟩
  · exact ⟨_, _, Tryd.func40, rfl⟩
  · exact ⟨_, _, Tryd.func41, rfl⟩
  · exact ⟨_, _, Tryd.func42, rfl⟩
  · exact ⟨_, _, Tryd.func43, rfl⟩
  · exact ⟨_, _, Tryd.func44, rfl⟩
  · exact ⟨_, _, Tryd.func45, rfl⟩
  · exact ⟨_, _, Tryd.func46, rfl⟩
  · exact ⟨_, _, Tryd.func47, rfl⟩
  · exact ⟨_, _, Tryd.func48, rfl⟩
  · exact ⟨_, _, Tryd.func49, rfl⟩
theorem i29 : (Tryd.prog.info? 29).map (fun i => (i.zero.map (·.cells.size), i.size, i.bytes)) = some (some 1, 1, 8) := by kernel_rfl
theorem info_of {T : TypeId} {c S b : Nat} (h : (Tryd.prog.info? T).map (fun i => (i.zero.map (·.cells.size), i.size, i.bytes)) = some (some c, S, b)) : ∃ i z, Tryd.prog.info? T = some i ∧ i.zero = some z ∧ z.cells.size = c ∧ i.size = S ∧ i.bytes = b := by
  cases hq : Tryd.prog.info? T with
  | none => rw [hq] at h; cases h
  | some i0 =>
    rw [hq] at h
    simp only [Option.map_some, Option.some.injEq, Prod.mk.injEq] at h
    obtain ⟨h1, h2, h3⟩ := h
    cases hz : i0.zero with
    | none => rw [hz] at h1; cases h1
    | some z => rw [hz] at h1; exact ⟨i0, z, rfl, hz, by simpa using h1, h2, h3⟩
theorem t34 : Tryd.prog.underlying 34 = some (.slice 29) := by kernel_rfl
theorem btQ_ok : ∀ b ∈ btQ Tryd.prog, BtOk Tryd.prog fns b := by
  intro b hb
  obtain ⟨i, z, hi, hz, hzc, his, hib⟩ := info_of i113
  simp only [btQ, List.mem_cons, List.not_mem_nil, or_false] at hb
  rcases hb with rfl | rfl | rfl | rfl | rfl | rfl | rfl
  · exact btQuLen_ok qok t88
  · exact btQuIx_ok qok t88 z113
  · exact btQuLd_ok qok (.inr ⟨by kernel_rfl, z113, fun E β => rfl⟩)
  · exact btQuLd_ok qok (.inl ⟨by kernel_rfl, fun E β => rfl⟩)
  · exact btQuApp_ok qok t88 hi hz (by rw [hzc, his]) his (by omega) (by decide) (by decide)
  · exact btQuTail_ok qok t88 z113
  · exact btQuMake_ok qok t88 hi hz his (by omega)
end Go.Proofs.YtjanndmmhjnpcaaDoor
