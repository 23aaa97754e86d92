/- The functions that are called. -/
import Derived.Test.YtiadjdnipheghaaChecked
import Derived.Test.YtiadjdnipheghaaRmC
import Derived.KernelRfl
set_option linter.unusedVariables false
set_option linter.unusedSimpArgs false
namespace Go.Proofs.Ytiadjdnipheghaa
open Go Go.Sy
theorem okf_call : ∀ f ∈ okf, ∀ args w, (callFunc f args).run Try.prog w = .ok (.enter f args) w := by
  intro f hf
  simp only [okf, List.mem_cons, List.not_mem_nil, or_false] at hf
  rcases hf with rfl | rfl | rfl | rfl | rfl | rfl | rfl | rfl | rfl | rfl | rfl | rfl | rfl | rfl | rfl | rfl | rfl
  · exact Try.call3
  · exact Try.call4
  · exact Try.call5
  · exact Try.call6
  · exact Try.call7
  · exact Try.call8
  · exact Try.call9
  · exact Try.call10
  · exact Try.call11
  · exact Try.call12
  · exact Try.call13
  · exact Try.call14
  · exact Try.call15
  · exact Try.call16
  · exact Try.call17
  · exact Try.call18
  · exact Try.call19
theorem okf_body : ∀ f ∈ okf, ∃ fn c, Try.prog.funcs[f]? = some fn ∧ fn.body = some c := by
  intro f hf
  simp only [okf, List.mem_cons, List.not_mem_nil, or_false] at hf
  rcases hf with rfl | rfl | rfl | rfl | rfl | rfl | rfl | rfl | rfl | rfl | rfl | rfl | rfl | rfl | rfl | rfl | rfl
  · exact ⟨_, _, Try.func3, rfl⟩
  · exact ⟨_, _, Try.func4, rfl⟩
  · exact ⟨_, _, Try.func5, rfl⟩
  · exact ⟨_, _, Try.func6, rfl⟩
  · exact ⟨_, _, Try.func7, rfl⟩
  · exact ⟨_, _, Try.func8, rfl⟩
  · exact ⟨_, _, Try.func9, rfl⟩
  · exact ⟨_, _, Try.func10, rfl⟩
  · exact ⟨_, _, Try.func11, rfl⟩
  · exact ⟨_, _, Try.func12, rfl⟩
  · exact ⟨_, _, Try.func13, rfl⟩
  · exact ⟨_, _, Try.func14, rfl⟩
  · exact ⟨_, _, Try.func15, rfl⟩
  · exact ⟨_, _, Try.func16, rfl⟩
  · exact ⟨_, _, Try.func17, rfl⟩
  · exact ⟨_, _, Try.func18, rfl⟩
  · exact ⟨_, _, Try.func19, rfl⟩
end Go.Proofs.Ytiadjdnipheghaa
