/- The functions of the claim. -/
import Derived.Test.YtgianhjmjiiadaaQmD
import Derived.Test.YtgianhjmjiiadaaQmC
set_option autoImplicit true
set_option relaxedAutoImplicit true
set_option linter.unusedVariables false
set_option maxRecDepth 100000
namespace Go.Proofs.Ytgianhjmjiiadaa
open Go Go.Sy
theorem okf_call : ∀ f ∈ okf, ∀ args w, (callFunc f args).run Try.prog w = .ok (.enter f args) w := by
  intro f hf
  simp only [okf, List.mem_cons, List.not_mem_nil, or_false] at hf
  rcases hf with rfl | rfl | rfl | rfl | rfl | rfl | rfl | rfl | rfl | rfl | rfl | rfl | rfl | rfl | rfl | rfl | rfl | rfl | rfl | rfl | rfl | rfl | rfl | rfl | rfl | rfl | rfl | rfl | rfl | rfl | rfl | rfl | rfl | rfl | rfl | rfl | rfl | rfl | rfl | rfl | rfl | rfl | rfl | rfl | rfl | rfl | rfl | rfl | rfl | rfl | rfl | rfl | rfl | rfl | rfl | rfl | rfl | rfl | rfl
  · exact Try.call3
  · exact Try.call4
  · exact Try.call5
  · exact Try.call6
  · exact Try.call7
  · exact Try.call8
  · exact Try.call9
  · exact Try.call10
  · exact Try.call11
  · exact Try.call12
  · exact Try.call13
  · exact Try.call14
  · exact Try.call15
  · exact Try.call16
  · exact Try.call17
  · exact Try.call18
  · exact Try.call19
  · exact Try.call20
  · exact Try.call21
  · exact Try.call22
  · exact Try.call23
  · exact Try.call24
  · exact Try.call25
  · exact Try.call26
  · exact Try.call27
  · exact Try.call28
  · exact Try.call29
  · exact Try.call30
  · exact Try.call31
  · exact Try.call32
  · exact Try.call33
  · exact Try.call34
  · exact Try.call35
  · exact Try.call36
  · exact Try.call37
  · exact Try.call38
  · exact Try.call39
  · exact Try.call40
  · exact Try.call41
  · exact Try.call42
  · exact Try.call43
  · exact Try.call44
  · exact Try.call45
  · exact Try.call46
  · exact Try.call47
  · exact Try.call48
  · exact Try.call49
  · exact Try.call50
  · exact Try.call51
  · exact Try.call52
  · exact Try.call53
  · exact Try.call54
  · exact Try.call55
  · exact Try.call56
  · exact Try.call57
  · exact Try.call58
  · exact Try.call59
  · exact Try.call60
  · exact Try.call61
theorem okf_body : ∀ f ∈ okf, ∃ fn c, Try.prog.funcs[f]? = some fn ∧ fn.body = some c := by
  intro f hf
  simp only [okf, List.mem_cons, List.not_mem_nil, or_false] at hf
  rcases hf with rfl | rfl | rfl | rfl | rfl | rfl | rfl | rfl | rfl | rfl | rfl | rfl | rfl | rfl | rfl | rfl | rfl | rfl | rfl | rfl | rfl | rfl | rfl | rfl | rfl | rfl | rfl | rfl | rfl | rfl | rfl | rfl | rfl | rfl | rfl | rfl | rfl | rfl | rfl | rfl | rfl | rfl | rfl | rfl | rfl | rfl | rfl | rfl | rfl | rfl | rfl | rfl | rfl | rfl | rfl | rfl | rfl | rfl | rfl
  · exact ⟨_, _, Try.func3, rfl⟩
  · exact ⟨_, _, Try.func4, rfl⟩
  · exact ⟨_, _, Try.func5, rfl⟩
  · exact ⟨_, _, Try.func6, rfl⟩
  · exact ⟨_, _, Try.func7, rfl⟩
  · exact ⟨_, _, Try.func8, rfl⟩
  · exact ⟨_, _, Try.func9, rfl⟩
  · exact ⟨_, _, Try.func10, rfl⟩
  · exact ⟨_, _, Try.func11, rfl⟩
  · exact ⟨_, _, Try.func12, rfl⟩
  · exact ⟨_, _, Try.func13, rfl⟩
  · exact ⟨_, _, Try.func14, rfl⟩
  · exact ⟨_, _, Try.func15, rfl⟩
  · exact ⟨_, _, Try.func16, rfl⟩
  · exact ⟨_, _, Try.func17, rfl⟩
  · exact ⟨_, _, Try.func18, rfl⟩
  · exact ⟨_, _, Try.func19, rfl⟩
  · exact ⟨_, _, Try.func20, rfl⟩
  · exact ⟨_, _, Try.func21, rfl⟩
  · exact ⟨_, _, Try.func22, rfl⟩
  · exact ⟨_, _, Try.func23, rfl⟩
  · exact ⟨_, _, Try.func24, rfl⟩
  · exact ⟨_, _, Try.func25, rfl⟩
  · exact ⟨_, _, Try.func26, rfl⟩
  · exact ⟨_, _, Try.func27, rfl⟩
  · exact ⟨_, _, Try.func28, rfl⟩
  · exact ⟨_, _, Try.func29, rfl⟩
  · exact ⟨_, _, Try.func30, rfl⟩
  · exact ⟨_, _, Try.func31, rfl⟩
  · exact ⟨_, _, Try.func32, rfl⟩
  · exact ⟨_, _, Try.func33, rfl⟩
  · exact ⟨_, _, Try.func34, rfl⟩
  · exact ⟨_, _, Try.func35, rfl⟩
  · exact ⟨_, _, Try.func36, rfl⟩
  · exact ⟨_, _, Try.func37, rfl⟩
  · exact ⟨_, _, Try.func38, rfl⟩
  · exact ⟨_, _, Try.func39, rfl⟩
  · exact ⟨_, _, Try.func40, rfl⟩
  · exact ⟨_, _, Try.func41, rfl⟩
  · exact ⟨_, _, Try.func42, rfl⟩
  · exact ⟨_, _, Try.func43, rfl⟩
  · exact ⟨_, _, Try.func44, rfl⟩
  · exact ⟨_, _, Try.func45, rfl⟩
  · exact ⟨_, _, Try.func46, rfl⟩
  · exact ⟨_, _, Try.func47, rfl⟩
  · exact ⟨_, _, Try.func48, rfl⟩
  · exact ⟨_, _, Try.func49, rfl⟩
  · exact ⟨_, _, Try.func50, rfl⟩
  · exact ⟨_, _, Try.func51, rfl⟩
  · exact ⟨_, _, Try.func52, rfl⟩
  · exact ⟨_, _, Try.func53, rfl⟩
  · exact ⟨_, _, Try.func54, rfl⟩
  · exact ⟨_, _, Try.func55, rfl⟩
  · exact ⟨_, _, Try.func56, rfl⟩
  · exact ⟨_, _, Try.func57, rfl⟩
  · exact ⟨_, _, Try.func58, rfl⟩
  · exact ⟨_, _, Try.func59, rfl⟩
  · exact ⟨_, _, Try.func60, rfl⟩
  · exact ⟨_, _, Try.func61, rfl⟩
theorem prm_ok {ct : List Ct} {sl : List (Nat × Nat)} {hint : List (Nat × Nat × Fx)} {bt : List Bt} (E : Env) (hE : E.fn = fns) (hc : ∀ c ∈ ct, CtOk Try.prog fns c) (hb : ∀ b ∈ bt, BtOk Try.prog fns b) : PrmOk E { P := Try.prog, gm := [], okf, mts := [], dfr := [], sl, ct, hint, bt } where
  bt := by intro b h; rw [hE]; exact hb b h
  ct := by intro c h; rw [hE]; exact hc c h
  mix := Checked.mixed Try.checked
  okf := okf_call
  body := okf_body
  mts := by intro x hx; cases hx
  dfr := by intro x hx; cases hx
  dfk := by intro x hx; cases hx
structure Sm (m : Nat) (E0 E : Env) : Prop where
  i : ∀ k, k ≠ m → E.i k = E0.i k
  b : E.b = E0.b
  a : E.a = E0.a
theorem Sm.put {m : Nat} {E0 E : Env} (h : Sm m E0 E) (x : SE) (o : Nat → Value) : Sm m E0 (E.put [(m, x)] [] [] o) where
  i k hk := by
    show (match fnd k [(m, x)] with | some e => e.den E | none => E.i k) = _
    simp only [fnd, if_neg (Ne.symm hk)]; exact h.i k hk
  b := h.b
  a := h.a
theorem Sm.refl (m : Nat) (E : Env) : Sm m E E := ⟨fun _ _ => rfl, rfl, rfl⟩
theorem rg_of {E : Env} (hE : E.fn = fns) (A : AE) (n : SE) (h : (rgF A n).1.den E = true) : Rg (A.den E) (n.den E).toNat := by
  have e' : E.fn.g 1 [.a (A.den E), .i (n.den E)] = true := h
  rw [hE] at e'
  have e2 : @decide (Rg (A.den E) (n.den E).toNat) (Classical.propDecidable _) = true := e'
  exact @of_decide_eq_true _ (Classical.propDecidable _) e2
theorem of_rg {E : Env} (hE : E.fn = fns) (A : AE) (n : SE) (h : Rg (A.den E) (n.den E).toNat) : (rgF A n).1.den E = true := by
  show E.fn.g 1 [.a (A.den E), .i (n.den E)] = true
  rw [hE]
  show @decide (Rg (A.den E) (n.den E).toNat) (Classical.propDecidable _) = true
  exact @decide_eq_true _ (Classical.propDecidable _) h
theorem add_den {E : Env} (hE : E.fn = fns) {n : Nat} (hn : E.i 0 = n) : (b3 3 (.v 0) (.v 0) (.v 1)).den E = addB (E.a 0) n (E.i 1) ∧ (f3 3 (.v 0) (.v 0) (.v 1)).den E = addN (E.a 0) n (E.i 1) ∧ (a3 3 (.v 0) (.v 0) (.v 1)).den E = addA (E.a 0) n (E.i 1) ∧ (f3 8 (.v 0) (.v 0) (.v 1)).den E = kR (E.a 0) (E.i 1) n := by
  refine ⟨?_, ?_, ?_, ?_⟩ <;> (simp only [b3, f3, a3, SB.den, SE.den, AE.den, SL.den, hE])
  · show addB (fun j => E.a 0 j) (E.i 0).toNat (E.i 1) = _; rw [hn]; rfl
  · show ((addN (fun j => E.a 0 j) (E.i 0).toNat (E.i 1) : Nat) : Int) = _; rw [hn]; rfl
  · show addA (fun j => E.a 0 j) (E.i 0).toNat (E.i 1) = _; rw [hn]; rfl
  · show ((kR (fun j => E.a 0 j) (E.i 1) (E.i 0).toNat : Nat) : Int) = _; rw [hn]; rfl
section
variable {A : Nat → Int} {n : Nat} {p : Int} {i : Nat}
theorem k_at (hr : Rg A n) (hi : i < n) (hk : kR A p n ≤ i + 1) (h : A (i * 2) ≤ p + 1) : kR A p n = i + 1 := by
  have := kR_eq (A := A) (p := p) (n := n) (k := i + 1) (by omega) (fun j h1 h2 => kR_gt A p n j (by omega) h2) (fun _ => by simpa using h)
  exact this
theorem k_dn (hk : kR A p n ≤ i + 1) (h : p + 1 < A (i * 2)) : kR A p n ≤ i := by
  rcases Nat.lt_or_ge (kR A p n) (i + 1) with h1 | h1
  · omega
  · have := kR_at A p n i (by omega); omega
theorem st_dup (hr : Rg A n) (hi : i < n) (hk : kR A p n ≤ i + 1) (h1 : A (i * 2) ≤ p) (h2 : p ≤ A (i * 2 + 1)) : addB A n p = false ∧ addN A n p = n ∧ addA A n p = A := by
  have e := k_at hr hi hk (by omega)
  have d : dupR A i p = true := by simp [dupR, h1, h2]
  simp only [addB, addN, addA, e, d, if_true, Bool.not_true, and_self]
theorem st_nd (hr : Rg A n) (hi : i < n) (hk : kR A p n ≤ i + 1) (h1 : A (i * 2) ≤ p + 1) (hd : ¬ (A (i * 2) ≤ p ∧ p ≤ A (i * 2 + 1))) : addB A n p = true ∧ addN A n p = (if A (i * 2 + 1) = p - 1 then n else if A (i * 2) = p + 1 then (if 0 < i ∧ A ((i - 1) * 2 + 1) + 1 = p then n - 1 else n) else n + 1) ∧
    addA A n p = (if A (i * 2 + 1) = p - 1 then upd A (i * 2 + 1) p else if A (i * 2) = p + 1 then (if 0 < i ∧ A ((i - 1) * 2 + 1) + 1 = p then del2 (upd A ((i - 1) * 2 + 1) (A (i * 2 + 1))) i 1 else upd A (i * 2) p) else ins2 A n (i + 1) p p) := by
  have e := k_at hr hi hk h1
  have d : dupR A i p = false := by simp only [dupR, decide_eq_false_iff_not]; exact hd
  refine ⟨?_, ?_, ?_⟩
  · simp only [addB, e, d, Bool.not_false]
  · simp only [addN, e, d, Bool.false_eq_true, if_false]
  · simp only [addA, e, d, Bool.false_eq_true, if_false]
theorem st_end (hr : Rg A n) (hi : i < n) (hk : kR A p n ≤ i + 1) (h : A (i * 2 + 1) = p - 1) : addB A n p = true ∧ addN A n p = n ∧ addA A n p = upd A (i * 2 + 1) p := by
  have hl := hr.le i hi
  obtain ⟨a, b, c⟩ := st_nd (p := p) hr hi hk (by omega) (by omega)
  exact ⟨a, by rw [b, if_pos h], by rw [c, if_pos h]⟩
theorem st_merge (hr : Rg A n) (hi : i < n) (hk : kR A p n ≤ i + 1) (h : A (i * 2) = p + 1) (h0 : 0 < i) (hm : A ((i - 1) * 2 + 1) + 1 = p) : addB A n p = true ∧ addN A n p = n - 1 ∧ ∀ j, addA A n p j = del2 (upd (upd A (i * 2) p) ((i - 1) * 2 + 1) (A (i * 2 + 1))) i 1 j := by
  have hl := hr.le i hi
  obtain ⟨a, b, c⟩ := st_nd (p := p) hr hi hk (by omega) (by omega)
  refine ⟨a, by rw [b, if_neg (by omega), if_pos h, if_pos ⟨h0, hm⟩], fun j => ?_⟩
  rw [c, if_neg (by omega), if_pos h, if_pos ⟨h0, hm⟩]
  unfold del2 upd
  by_cases c1 : j < i * 2
  · rw [if_pos c1, if_pos c1]
    by_cases c2 : j = (i - 1) * 2 + 1
    · rw [if_pos c2, if_pos c2]
    · rw [if_neg c2, if_neg c2, if_neg (by omega)]
  · rw [if_neg c1, if_neg c1, if_neg (by omega), if_neg (by omega), if_neg (by omega)]
theorem st_start (hr : Rg A n) (hi : i < n) (hk : kR A p n ≤ i + 1) (h : A (i * 2) = p + 1) (hm : ¬ (0 < i ∧ A ((i - 1) * 2 + 1) + 1 = p)) : addB A n p = true ∧ addN A n p = n ∧ addA A n p = upd A (i * 2) p := by
  have hl := hr.le i hi
  obtain ⟨a, b, c⟩ := st_nd (p := p) hr hi hk (by omega) (by omega)
  exact ⟨a, by rw [b, if_neg (by omega), if_pos h, if_neg hm], by rw [c, if_neg (by omega), if_pos h, if_neg hm]⟩
theorem st_ins (hr : Rg A n) (hi : i < n) (hk : kR A p n ≤ i + 1) (h1 : A (i * 2 + 1) < p) (h2 : ¬ A (i * 2 + 1) = p - 1) (h3 : ¬ A (i * 2) = p + 1) : addB A n p = true ∧ addN A n p = n + 1 ∧ addA A n p = ins2 A n (i + 1) p p := by
  have hl := hr.le i hi
  obtain ⟨a, b, c⟩ := st_nd (p := p) hr hi hk (by omega) (by omega)
  exact ⟨a, by rw [b, if_neg h2, if_neg h3], by rw [c, if_neg h2, if_neg h3]⟩
theorem st_zero (hk : kR A p n = 0) : addB A n p = true ∧ addN A n p = n + 1 ∧ addA A n p = ins2 A n 0 p p := by
  simp only [addB, addN, addA, hk, and_self]
end
end Go.Proofs.Ytgianhjmjiiadaa
