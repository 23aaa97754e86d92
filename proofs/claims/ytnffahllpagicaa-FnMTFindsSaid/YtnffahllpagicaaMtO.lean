/- The functions that are called. -/
import Derived.Test.YtnffahllpagicaaChecked
import Derived.Test.YtnffahllpagicaaMtC
import Derived.KernelRfl
import Derived.Tactics
import Derived.Defers
import Derived.Recover
set_option linter.unusedVariables false
set_option linter.unusedSimpArgs false
namespace Go.Proofs.Ytnffahllpagicaa
open Go Go.Sy
theorem okf_call : ∀ f ∈ okf, ∀ args w, (callFunc f args).run Try.prog w = .ok (.enter f args) w := by
  intro f hf
  simp only [okf, List.mem_cons, List.not_mem_nil, or_false] at hf
  rcases hf with rfl | rfl | rfl | rfl | rfl | rfl | rfl | rfl | rfl | rfl | rfl | rfl | rfl | rfl | rfl | rfl | rfl | rfl | rfl | rfl | rfl | rfl | rfl | rfl | rfl | rfl | rfl | rfl | rfl | rfl | rfl | rfl | rfl | rfl
  · exact Try.call3
  · exact Try.call4
  · exact Try.call5
  · exact Try.call6
  · exact Try.call7
  · exact Try.call8
  · exact Try.call9
  · exact Try.call10
  · exact Try.call11
  · exact Try.call12
  · exact Try.call13
  · exact Try.call14
  · exact Try.call15
  · exact Try.call16
  · exact Try.call17
  · exact Try.call18
  · exact Try.call19
  · exact Try.call20
  · exact Try.call21
  · exact Try.call22
  · exact Try.call23
  · exact Try.call24
  · exact Try.call25
  · exact Try.call26
  · exact Try.call27
  · exact Try.call28
  · exact Try.call29
  · exact Try.call31
  · exact Try.call32
  · exact Try.call33
  · exact Try.call34
  · exact Try.call35
  · exact Try.call54
  · exact Try.call55
theorem okf_body : ∀ f ∈ okf, ∃ fn c, Try.prog.funcs[f]? = some fn ∧ fn.body = some c := by
  intro f hf
  simp only [okf, List.mem_cons, List.not_mem_nil, or_false] at hf
  rcases hf with rfl | rfl | rfl | rfl | rfl | rfl | rfl | rfl | rfl | rfl | rfl | rfl | rfl | rfl | rfl | rfl | rfl | rfl | rfl | rfl | rfl | rfl | rfl | rfl | rfl | rfl | rfl | rfl | rfl | rfl | rfl | rfl | rfl | rfl
  · exact ⟨_, _, Try.func3, rfl⟩
  · exact ⟨_, _, Try.func4, rfl⟩
  · exact ⟨_, _, Try.func5, rfl⟩
  · exact ⟨_, _, Try.func6, rfl⟩
  · exact ⟨_, _, Try.func7, rfl⟩
  · exact ⟨_, _, Try.func8, rfl⟩
  · exact ⟨_, _, Try.func9, rfl⟩
  · exact ⟨_, _, Try.func10, rfl⟩
  · exact ⟨_, _, Try.func11, rfl⟩
  · exact ⟨_, _, Try.func12, rfl⟩
  · exact ⟨_, _, Try.func13, rfl⟩
  · exact ⟨_, _, Try.func14, rfl⟩
  · exact ⟨_, _, Try.func15, rfl⟩
  · exact ⟨_, _, Try.func16, rfl⟩
  · exact ⟨_, _, Try.func17, rfl⟩
  · exact ⟨_, _, Try.func18, rfl⟩
  · exact ⟨_, _, Try.func19, rfl⟩
  · exact ⟨_, _, Try.func20, rfl⟩
  · exact ⟨_, _, Try.func21, rfl⟩
  · exact ⟨_, _, Try.func22, rfl⟩
  · exact ⟨_, _, Try.func23, rfl⟩
  · exact ⟨_, _, Try.func24, rfl⟩
  · exact ⟨_, _, Try.func25, rfl⟩
  · exact ⟨_, _, Try.func26, rfl⟩
  · exact ⟨_, _, Try.func27, rfl⟩
  · exact ⟨_, _, Try.func28, rfl⟩
  · exact ⟨_, _, Try.func29, rfl⟩
  · exact ⟨_, _, Try.func31, rfl⟩
  · exact ⟨_, _, Try.func32, rfl⟩
  · exact ⟨_, _, Try.func33, rfl⟩
  · exact ⟨_, _, Try.func34, rfl⟩
  · exact ⟨_, _, Try.func35, rfl⟩
  · exact ⟨_, _, Try.func54, rfl⟩
  · exact ⟨_, _, Try.func55, rfl⟩
theorem method_ptr {P : Program} {t f e : Nat} {name : String} {info : TypeInfo} {m : Method} (hi : P.info? t = some info) (hm : info.methods.find? (·.name == name) = some m) (hp : m.path = #[]) (hf : m.func = some (f, true)) (hu : P.underlying t = some (.pointer e)) (n : Nat) (a : Addr) (w : World) :
    (method (n + 1) t (.pointer (some a)) name).run P w = .ok (f, .pointer (some a)) w := by
  have h1 : (typeInfo t).run P w = .ok info w := by
    unfold typeInfo
    rw [Sem.run_bind]
    show (Sem.run P (match P.info? t with | some i => pure i | none => stuck "no such type") w) = _
    rw [hi]; rfl
  have h2 : (underlying t).run P w = .ok (.pointer e) w := by
    unfold underlying
    rw [Sem.run_bind]
    show (Sem.run P (match P.underlying t with | some i => pure i | none => stuck "no such type") w) = _
    rw [hu]; rfl
  have h3 : (receiverAt t (.val (.pointer (some a))) true none).run P w = .ok (.pointer (some a)) w := by
    unfold receiverAt
    rw [Sem.run_bind, h2]; rfl
  have h4 : (receiverAt t (.val (.pointer (some a))) true (some ((name.splitOn ".").getLastD name))).run P w = .ok (.pointer (some a)) w := by
    unfold receiverAt
    rw [Sem.run_bind, h2]; rfl
  unfold method
  rw [Sem.run_bind, h1]
  simp only [Result.andThen_ok, hm, hp]
  rw [Sem.run_bind]
  show (Result.andThen (.ok (t, Place.val (.pointer (some a))) w) _) = _
  simp only [Result.andThen_ok, hf]
  rw [Sem.run_bind]
  show (Result.andThen ((receiverAt t (.val (.pointer (some a))) true (some ((name.splitOn ".").getLastD name))).run P w) _) = _
  rw [h4]; rfl
def methodChk (P : Program) (t f : Nat) (name : String) : Bool := match P.info? t, P.underlying t with
  | some info, some (.pointer _) => (match info.methods.find? (·.name == name) with
    | some m => m.path.size == 0 && (match m.func with | some (g, b) => g == f && b | none => false)
    | none => false)
  | _, _ => false
theorem method_chk {P : Program} {t f : Nat} {name : String} (h : methodChk P t f name = true) (n : Nat) (a : Addr) (w : World) :
    (method (n + 1) t (.pointer (some a)) name).run P w = .ok (f, .pointer (some a)) w := by
  unfold methodChk at h
  split at h
  · rename_i info e hi hu
    split at h
    · rename_i m hm
      simp only [Bool.and_eq_true, beq_iff_eq] at h
      obtain ⟨h1, h2⟩ := h
      split at h2
      · rename_i g b hf
        simp only [Bool.and_eq_true, beq_iff_eq] at h2
        obtain ⟨rfl, rfl⟩ := h2
        exact method_ptr hi hm (Array.eq_empty_of_size_eq_zero h1) hf hu n a w
      · cases h2
    · cases h
  · cases h
theorem catch_idle (a : Value) (w : World) : CallsD Try.prog 6 #[a] .returning w fun e u w' => (∃ v, e = .returned v) ∧ u = .returning ∧ w' = w := by
  refine callsD_of_wpS Try.func6 rfl fun c₀ cs hu => ?_
  apply wpS_seq
  apply wpS_region
  simp [wpOpsS, go_sem, recoverD, hu, Try.ntmps6, Exit.thenS]
  refine wpS_cond (t := false) (by simp [Act.eval, Array.replicate]) ?_
  simp only [Bool.false_eq_true, if_false]
  refine wpS_of_wp (wp_skip ?_)
  cases c₀
  simp_all [bodyPostS, results, Try.results6]
end Go.Proofs.Ytnffahllpagicaa
