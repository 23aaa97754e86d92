/- The functions that are called. -/
import Derived.Test.YtlclcnkmdbmceaaChecked
import Derived.Test.YtlclcnkmdbmceaaCcC
import Derived.KernelRfl
import Derived.Tactics
import Derived.Defers
import Derived.Recover
set_option linter.unusedVariables false
set_option linter.unusedSimpArgs false
namespace Go.Proofs.Ytlclcnkmdbmceaa
open Go Go.Sy
theorem okf_call : ∀ f ∈ okf, ∀ args w, (callFunc f args).run Try.prog w = .ok (.enter f args) w := by
  intro f hf
  simp only [okf, List.mem_cons, List.not_mem_nil, or_false] at hf
  rcases hf with rfl | rfl | rfl | rfl | rfl | rfl | rfl | rfl | rfl | rfl | rfl | rfl | rfl | rfl | rfl | rfl | rfl | rfl | rfl | rfl | rfl | rfl | rfl | rfl | rfl | rfl | rfl | rfl | rfl | rfl | rfl | rfl | rfl | rfl | rfl | rfl | rfl | rfl | rfl | rfl | rfl | rfl | rfl | rfl | rfl | rfl | rfl | rfl | rfl | rfl | rfl | rfl | rfl | rfl | rfl | rfl | rfl | rfl | rfl | rfl | rfl | rfl | rfl | rfl | rfl
  · exact Try.call3
  · exact Try.call4
  · exact Try.call5
  · exact Try.call6
  · exact Try.call7
  · exact Try.call8
  · exact Try.call9
  · exact Try.call10
  · exact Try.call11
  · exact Try.call12
  · exact Try.call13
  · exact Try.call14
  · exact Try.call15
  · exact Try.call16
  · exact Try.call17
  · exact Try.call18
  · exact Try.call19
  · exact Try.call20
  · exact Try.call21
  · exact Try.call22
  · exact Try.call23
  · exact Try.call24
  · exact Try.call25
  · exact Try.call26
  · exact Try.call27
  · exact Try.call28
  · exact Try.call29
  · exact Try.call30
  · exact Try.call31
  · exact Try.call32
  · exact Try.call33
  · exact Try.call34
  · exact Try.call35
  · exact Try.call36
  · exact Try.call37
  · exact Try.call38
  · exact Try.call39
  · exact Try.call40
  · exact Try.call41
  · exact Try.call42
  · exact Try.call43
  · exact Try.call44
  · exact Try.call45
  · exact Try.call46
  · exact Try.call47
  · exact Try.call48
  · exact Try.call49
  · exact Try.call50
  · exact Try.call51
  · exact Try.call53
  · exact Try.call54
  · exact Try.call55
  · exact Try.call56
  · exact Try.call57
  · exact Try.call58
  · exact Try.call60
  · exact Try.call61
  · exact Try.call62
  · exact Try.call63
  · exact Try.call64
  · exact Try.call65
  · exact Try.call66
  · exact Try.call67
  · exact Try.call68
  · exact Try.call69
theorem okf_body : ∀ f ∈ okf, ∃ fn c, Try.prog.funcs[f]? = some fn ∧ fn.body = some c := by
  intro f hf
  simp only [okf, List.mem_cons, List.not_mem_nil, or_false] at hf
  rcases hf with rfl | rfl | rfl | rfl | rfl | rfl | rfl | rfl | rfl | rfl | rfl | rfl | rfl | rfl | rfl | rfl | rfl | rfl | rfl | rfl | rfl | rfl | rfl | rfl | rfl | rfl | rfl | rfl | rfl | rfl | rfl | rfl | rfl | rfl | rfl | rfl | rfl | rfl | rfl | rfl | rfl | rfl | rfl | rfl | rfl | rfl | rfl | rfl | rfl | rfl | rfl | rfl | rfl | rfl | rfl | rfl | rfl | rfl | rfl | rfl | rfl | rfl | rfl | rfl | rfl
  · exact ⟨_, _, Try.func3, rfl⟩
  · exact ⟨_, _, Try.func4, rfl⟩
  · exact ⟨_, _, Try.func5, rfl⟩
  · exact ⟨_, _, Try.func6, rfl⟩
  · exact ⟨_, _, Try.func7, rfl⟩
  · exact ⟨_, _, Try.func8, rfl⟩
  · exact ⟨_, _, Try.func9, rfl⟩
  · exact ⟨_, _, Try.func10, rfl⟩
  · exact ⟨_, _, Try.func11, rfl⟩
  · exact ⟨_, _, Try.func12, rfl⟩
  · exact ⟨_, _, Try.func13, rfl⟩
  · exact ⟨_, _, Try.func14, rfl⟩
  · exact ⟨_, _, Try.func15, rfl⟩
  · exact ⟨_, _, Try.func16, rfl⟩
  · exact ⟨_, _, Try.func17, rfl⟩
  · exact ⟨_, _, Try.func18, rfl⟩
  · exact ⟨_, _, Try.func19, rfl⟩
  · exact ⟨_, _, Try.func20, rfl⟩
  · exact ⟨_, _, Try.func21, rfl⟩
  · exact ⟨_, _, Try.func22, rfl⟩
  · exact ⟨_, _, Try.func23, rfl⟩
  · exact ⟨_, _, Try.func24, rfl⟩
  · exact ⟨_, _, Try.func25, rfl⟩
  · exact ⟨_, _, Try.func26, rfl⟩
  · exact ⟨_, _, Try.func27, rfl⟩
  · exact ⟨_, _, Try.func28, rfl⟩
  · exact ⟨_, _, Try.func29, rfl⟩
  · exact ⟨_, _, Try.func30, rfl⟩
  · exact ⟨_, _, Try.func31, rfl⟩
  · exact ⟨_, _, Try.func32, rfl⟩
  · exact ⟨_, _, Try.func33, rfl⟩
  · exact ⟨_, _, Try.func34, rfl⟩
  · exact ⟨_, _, Try.func35, rfl⟩
  · exact ⟨_, _, Try.func36, rfl⟩
  · exact ⟨_, _, Try.func37, rfl⟩
  · exact ⟨_, _, Try.func38, rfl⟩
  · exact ⟨_, _, Try.func39, rfl⟩
  · exact ⟨_, _, Try.func40, rfl⟩
  · exact ⟨_, _, Try.func41, rfl⟩
  · exact ⟨_, _, Try.func42, rfl⟩
  · exact ⟨_, _, Try.func43, rfl⟩
  · exact ⟨_, _, Try.func44, rfl⟩
  · exact ⟨_, _, Try.func45, rfl⟩
  · exact ⟨_, _, Try.func46, rfl⟩
  · exact ⟨_, _, Try.func47, rfl⟩
  · exact ⟨_, _, Try.func48, rfl⟩
  · exact ⟨_, _, Try.func49, rfl⟩
  · exact ⟨_, _, Try.func50, rfl⟩
  · exact ⟨_, _, Try.func51, rfl⟩
  · exact ⟨_, _, Try.func53, rfl⟩
  · exact ⟨_, _, Try.func54, rfl⟩
  · exact ⟨_, _, Try.func55, rfl⟩
  · exact ⟨_, _, Try.func56, rfl⟩
  · exact ⟨_, _, Try.func57, rfl⟩
  · exact ⟨_, _, Try.func58, rfl⟩
  · exact ⟨_, _, Try.func60, rfl⟩
  · exact ⟨_, _, Try.func61, rfl⟩
  · exact ⟨_, _, Try.func62, rfl⟩
  · exact ⟨_, _, Try.func63, rfl⟩
  · exact ⟨_, _, Try.func64, rfl⟩
  · exact ⟨_, _, Try.func65, rfl⟩
  · exact ⟨_, _, Try.func66, rfl⟩
  · exact ⟨_, _, Try.func67, rfl⟩
  · exact ⟨_, _, Try.func68, rfl⟩
  · exact ⟨_, _, Try.func69, rfl⟩
theorem catch_idle (a : Value) (w : World) : CallsD Try.prog 8 #[a] .returning w fun e u w' => (∃ v, e = .returned v) ∧ u = .returning ∧ w' = w := by
  refine callsD_of_wpS Try.func8 rfl fun c₀ cs hu => ?_
  apply wpS_seq
  apply wpS_region
  simp [wpOpsS, go_sem, recoverD, hu, Try.ntmps8, Exit.thenS]
  refine wpS_cond (t := false) (by simp [Act.eval, Array.replicate]) ?_
  simp only [Bool.false_eq_true, if_false]
  refine wpS_of_wp (wp_skip ?_)
  cases c₀
  simp_all [bodyPostS, results, Try.results8]
end Go.Proofs.Ytlclcnkmdbmceaa
