/- The functions that are called. -/
import Derived.Test.YtpjifimjoinnnaaDoorChecked
import Derived.Test.YtpjifimjoinnnaaDoorFcC
import Derived.KernelRfl
set_option autoImplicit true
set_option relaxedAutoImplicit true
set_option linter.unusedVariables false
set_option linter.unusedSimpArgs false
namespace Go.Proofs.YtpjifimjoinnnaaDoor
open Go Go.Sy
theorem okf_call : ∀ f ∈ okf, ∀ args w, (callFunc f args).run Tryd.prog w = .ok (.enter f args) w := by
  intro f hf
  simp only [okf, List.mem_cons, List.not_mem_nil, or_false] at hf
  rcases hf with rfl | rfl | rfl | rfl | rfl | rfl | rfl | rfl | rfl | rfl | rfl | rfl | rfl | rfl | rfl | rfl | rfl | rfl | rfl | rfl | rfl | rfl | rfl | rfl | rfl | rfl | rfl | rfl | rfl | rfl | rfl | rfl | rfl | rfl | rfl | rfl | rfl | rfl | rfl | rfl | rfl | rfl | rfl | rfl | rfl | rfl | rfl | rfl | rfl | rfl | rfl | rfl | rfl | rfl | rfl | rfl | rfl | rfl | rfl | rfl | rfl | rfl
  · exact Tryd.call3
  · exact Tryd.call4
  · exact Tryd.call5
  · exact Tryd.call6
  · exact Tryd.call7
  · exact Tryd.call8
  · exact Tryd.call9
  · exact Tryd.call10
  · exact Tryd.call11
  · exact Tryd.call12
  · exact Tryd.call13
  · exact Tryd.call14
  · exact Tryd.call15
  · exact Tryd.call16
  · exact Tryd.call17
  · exact Tryd.call18
  · exact Tryd.call19
  · exact Tryd.call20
  · exact Tryd.call21
  · exact Tryd.call22
  · exact Tryd.call23
  · exact Tryd.call24
  · exact Tryd.call25
  · exact Tryd.call26
  · exact Tryd.call27
  · exact Tryd.call28
  · exact Tryd.call29
  · exact Tryd.call30
  · exact Tryd.call31
  · exact Tryd.call32
  · exact Tryd.call33
  · exact Tryd.call34
  · exact Tryd.call35
  · exact Tryd.call36
  · exact Tryd.call37
  · exact Tryd.call38
  · exact Tryd.call39
  · exact Tryd.call40
  · exact Tryd.call41
  · exact Tryd.call42
  · exact Tryd.call43
  · exact Tryd.call44
  · exact Tryd.call45
  · exact Tryd.call46
  · exact Tryd.call47
  · exact Tryd.call48
  · exact Tryd.call49
  · exact Tryd.call50
  · exact Tryd.call51
  · exact Tryd.call52
  · exact Tryd.call53
  · exact Tryd.call54
  · exact Tryd.call55
  · exact Tryd.call56
  · exact Tryd.call57
  · exact Tryd.call58
  · exact Tryd.call59
  · exact Tryd.call60
  · exact Tryd.call61
  · exact Tryd.call63
  · exact Tryd.call64
  · exact Tryd.call65
theorem okf_body : ∀ f ∈ okf, ∃ fn c, Tryd.prog.funcs[f]? = some fn ∧ fn.body = some c := by
  intro f hf
  simp only [okf, List.mem_cons, List.not_mem_nil, or_false] at hf
  rcases hf with rfl | rfl | rfl | rfl | rfl | rfl | rfl | rfl | rfl | rfl | rfl | rfl | rfl | rfl | rfl | rfl | rfl | rfl | rfl | rfl | rfl | rfl | rfl | rfl | rfl | rfl | rfl | rfl | rfl | rfl | rfl | rfl | rfl | rfl | rfl | rfl | rfl | rfl | rfl | rfl | rfl | rfl | rfl | rfl | rfl | rfl | rfl | rfl | rfl | rfl | rfl | rfl | rfl | rfl | rfl | rfl | rfl | rfl | rfl | rfl | rfl | rfl
  · exact ⟨_, _, Tryd.func3, rfl⟩
  · exact ⟨_, _, Tryd.func4, rfl⟩
  · exact ⟨_, _, Tryd.func5, rfl⟩
  · exact ⟨_, _, Tryd.func6, rfl⟩
  · exact ⟨_, _, Tryd.func7, rfl⟩
  · exact ⟨_, _, Tryd.func8, rfl⟩
  · exact ⟨_, _, Tryd.func9, rfl⟩
  · exact ⟨_, _, Tryd.func10, rfl⟩
  · exact ⟨_, _, Tryd.func11, rfl⟩
  · exact ⟨_, _, Tryd.func12, rfl⟩
  · exact ⟨_, _, Tryd.func13, rfl⟩
  · exact ⟨_, _, Tryd.func14, rfl⟩
  · exact ⟨_, _, Tryd.func15, rfl⟩
  · exact ⟨_, _, Tryd.func16, rfl⟩
  · exact ⟨_, _, Tryd.func17, rfl⟩
  · exact ⟨_, _, Tryd.func18, rfl⟩
  · exact ⟨_, _, Tryd.func19, rfl⟩
  · exact ⟨_, _, Tryd.func20, rfl⟩
  · exact ⟨_, _, Tryd.func21, rfl⟩
  · exact ⟨_, _, Tryd.func22, rfl⟩
  · exact ⟨_, _, Tryd.func23, rfl⟩
  · exact ⟨_, _, Tryd.func24, rfl⟩
  · exact ⟨_, _, Tryd.func25, rfl⟩
  · exact ⟨_, _, Tryd.func26, rfl⟩
  · exact ⟨_, _, Tryd.func27, rfl⟩
  · exact ⟨_, _, Tryd.func28, rfl⟩
  · exact ⟨_, _, Tryd.func29, rfl⟩
  · exact ⟨_, _, Tryd.func30, rfl⟩
  · exact ⟨_, _, Tryd.func31, rfl⟩
  · exact ⟨_, _, Tryd.func32, rfl⟩
  · exact ⟨_, _, Tryd.func33, rfl⟩
  · exact ⟨_, _, Tryd.func34, rfl⟩
  · exact ⟨_, _, Tryd.func35, rfl⟩
  · exact ⟨_, _, Tryd.func36, rfl⟩
  · exact ⟨_, _, Tryd.func37, rfl⟩
  · exact ⟨_, _, Tryd.func38, rfl⟩
  · exact ⟨_, _, Tryd.func39, rfl⟩
  · exact ⟨_, _, Tryd.func40, rfl⟩
  · exact ⟨_, _, Tryd.func41, rfl⟩
  · exact ⟨_, _, Tryd.func42, rfl⟩
  · exact ⟨_, _, Tryd.func43, rfl⟩
  · exact ⟨_, _, Tryd.func44, rfl⟩
  · exact ⟨_, _, Tryd.func45, rfl⟩
  · exact ⟨_, _, Tryd.func46, rfl⟩
  · exact ⟨_, _, Tryd.func47, rfl⟩
  · exact ⟨_, _, Tryd.func48, rfl⟩
  · exact ⟨_, _, Tryd.func49, rfl⟩
  · exact ⟨_, _, Tryd.func50, rfl⟩
  · exact ⟨_, _, Tryd.func51, rfl⟩
  · exact ⟨_, _, Tryd.func52, rfl⟩
  · exact ⟨_, _, Tryd.func53, rfl⟩
  · exact ⟨_, _, Tryd.func54, rfl⟩
  · exact ⟨_, _, Tryd.func55, rfl⟩
  · exact ⟨_, _, Tryd.func56, rfl⟩
  · exact ⟨_, _, Tryd.func57, rfl⟩
  · exact ⟨_, _, Tryd.func58, rfl⟩
  · exact ⟨_, _, Tryd.func59, rfl⟩
  · exact ⟨_, _, Tryd.func60, rfl⟩
  · exact ⟨_, _, Tryd.func61, rfl⟩
  · exact ⟨_, _, Tryd.func63, rfl⟩
  · exact ⟨_, _, Tryd.func64, rfl⟩
  · exact ⟨_, _, Tryd.func65, rfl⟩
end Go.Proofs.YtpjifimjoinnnaaDoor
