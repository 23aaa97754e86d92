/- make([]T, l) of a known length: known cells. -/
import Derived.Test.YtgianhjmjiiadaaSyQu
set_option autoImplicit true
set_option relaxedAutoImplicit true
set_option linter.unusedVariables false
set_option linter.unusedSimpArgs false
namespace Go.Sy
open Go
variable {P : Program}
structure AgP (n : Nat) (E E' : Env) : Prop where
  i : ∀ j, j < n → E'.i j = E.i j
  b : ∀ j, j < n → E'.b j = E.b j
  a : ∀ j, j < n → E'.a j = E.a j
  fn : E'.fn = E.fn
section
variable {n : Nat} {E E' : Env}
mutual
theorem SE.den_agP (H : AgP n E E') : ∀ (x : SE), x.vb n = true → x.den E' = x.den E
  | .c n, _ => rfl
  | .v i, h => by simp only [SE.vb, decide_eq_true_eq] at h; exact H.i i h
  | .add x y, h | .sub x y, h | .mul x y, h | .tdiv x y, h | .tmod x y, h | .mn x y, h | .mx x y, h | .ni x y, h | .bits _ _ x y, h | .shl _ x y, h | .shr _ x y, h => by
    simp only [SE.vb, Bool.and_eq_true] at h; simp only [SE.den, SE.den_agP H x h.1, SE.den_agP H y h.2]
  | .wrap _ x, h => by simp only [SE.vb] at h; simp only [SE.den, SE.den_agP H x h]
  | .rd a o, h => by simp only [SE.vb, Bool.and_eq_true] at h; simp only [SE.den, AE.den_agP H a h.1, SE.den_agP H o h.2]
  | .ite b x y, h => by simp only [SE.vb, Bool.and_eq_true] at h; simp only [SE.den, SB.den_agP H b h.1, SE.den_agP H x h.2.1, SE.den_agP H y h.2.2]
  | .ap _ l, h => by simp only [SE.vb] at h; simp only [SE.den, SL.den_agP H l h, H.fn]
theorem SB.den_agP (H : AgP n E E') : ∀ (x : SB), x.vb n = true → x.den E' = x.den E
  | .c b, _ => rfl
  | .v i, h => by simp only [SB.vb, decide_eq_true_eq] at h; exact H.b i h
  | .lt x y, h | .le x y, h | .eq x y, h => by simp only [SB.vb, Bool.and_eq_true] at h; simp only [SB.den, SE.den_agP H x h.1, SE.den_agP H y h.2]
  | .not x, h => by simp only [SB.vb] at h; simp only [SB.den, SB.den_agP H x h]
  | .beq x y, h | .and x y, h => by simp only [SB.vb, Bool.and_eq_true] at h; simp only [SB.den, SB.den_agP H x h.1, SB.den_agP H y h.2]
  | .ap _ l, h => by simp only [SB.vb] at h; simp only [SB.den, SL.den_agP H l h, H.fn]
theorem AE.den_agP (H : AgP n E E') : ∀ (x : AE), x.vb n = true → x.den E' = x.den E
  | .v i, h => by simp only [AE.vb, decide_eq_true_eq] at h; funext j; simp only [AE.den, H.a i h]
  | .ap _ l, h => by simp only [AE.vb] at h; funext j; simp only [AE.den, SL.den_agP H l h, H.fn]
  | .tl a m l, h => by simp only [AE.vb, Bool.and_eq_true] at h; funext j; simp only [AE.den, AE.den_agP H a h.1, SE.den_agP H m h.2.1, SL.nth_agP H l h.2.2]
  | .ct a m b, h => by simp only [AE.vb, Bool.and_eq_true] at h; funext j; simp only [AE.den, AE.den_agP H a h.1, SE.den_agP H m h.2.1, AE.den_agP H b h.2.2]
  | .up a i x, h => by simp only [AE.vb, Bool.and_eq_true] at h; funext j; simp only [AE.den, AE.den_agP H a h.1, SE.den_agP H i h.2.1, SE.den_agP H x h.2.2]
  | .dr a m, h => by simp only [AE.vb, Bool.and_eq_true] at h; funext j; simp only [AE.den, AE.den_agP H a h.1, SE.den_agP H m h.2]
theorem SL.den_agP (H : AgP n E E') : ∀ (x : SL), x.vb n = true → x.den E' = x.den E
  | .nil, _ => rfl
  | .i x r, h => by simp only [SL.vb, Bool.and_eq_true] at h; simp only [SL.den, SE.den_agP H x h.1, SL.den_agP H r h.2]
  | .b x r, h => by simp only [SL.vb, Bool.and_eq_true] at h; simp only [SL.den, SB.den_agP H x h.1, SL.den_agP H r h.2]
  | .a x r, h => by simp only [SL.vb, Bool.and_eq_true] at h; simp only [SL.den, AE.den_agP H x h.1, SL.den_agP H r h.2]
theorem SL.nth_agP (H : AgP n E E') : ∀ (x : SL), x.vb n = true → ∀ j, x.nth E' j = x.nth E j
  | .nil, _, _ => rfl
  | .i x r, h, j => by simp only [SL.vb, Bool.and_eq_true] at h; simp only [SL.nth, SE.den_agP H x h.1, SL.nth_agP H r h.2]
  | .b x r, h, j => by simp only [SL.vb, Bool.and_eq_true] at h; simp only [SL.nth, SB.den_agP H x h.1, SL.nth_agP H r h.2]
  | .a x r, h, j => by simp only [SL.vb, Bool.and_eq_true] at h; simp only [SL.nth, SL.nth_agP H r h.2]
end
end
theorem AgP.refl (n : Nat) (E : Env) : AgP n E E := ⟨fun _ _ => rfl, fun _ _ => rfl, fun _ _ => rfl, rfl⟩
theorem AgE.p {n : Nat} {E E' : Env} (h : AgE n E E') : AgP n E E' := ⟨h.i, h.b, h.a, h.fn⟩
theorem AgP.trans {m n : Nat} {E1 E2 E3 : Env} (h : m ≤ n) (x : AgP m E1 E2) (y : AgP n E2 E3) : AgP m E1 E3 :=
  ⟨fun j hj => (y.i j (by omega)).trans (x.i j hj), fun j hj => (y.b j (by omega)).trans (x.b j hj), fun j hj => (y.a j (by omega)).trans (x.a j hj), y.fn.trans x.fn⟩
theorem fnd_none {α : Type} {k : Nat} : ∀ {l : List (Nat × α)}, (∀ q ∈ l, q.1 ≠ k) → fnd k l = none
  | [], _ => rfl
  | q :: r, h => by
    unfold fnd
    rw [if_neg (h q (List.mem_cons_self ..))]
    exact fnd_none fun q' hq' => h q' (List.mem_cons_of_mem _ hq')
theorem AgP.put {n : Nat} {E0 E : Env} (h : AgP n E0 E) {si : List (Nat × SE)} {sb : List (Nat × SB)} {sa : List (Nat × AE)} (o : Nat → Value) (h1 : si.all (fun q => Nat.ble n q.1) = true := by rfl) (h2 : sb.all (fun q => Nat.ble n q.1) = true := by rfl) (h3 : sa.all (fun q => Nat.ble n q.1) = true := by rfl) : AgP n E0 (E.put si sb sa o) where
  i k hk := by
    show (match fnd k si with | some e => e.den E | none => E.i k) = _
    rw [fnd_none fun q hq he => by
      have := Nat.le_of_ble_eq_true (List.all_eq_true.1 h1 q hq)
      omega]
    exact h.i k hk
  b k hk := by
    show (match fnd k sb with | some e => e.den E | none => E.b k) = _
    rw [fnd_none fun q hq he => by
      have := Nat.le_of_ble_eq_true (List.all_eq_true.1 h2 q hq)
      omega]
    exact h.b k hk
  a k hk := by
    show (match fnd k sa with | some e => e.den E | none => E.a k) = _
    rw [fnd_none fun q hq he => by
      have := Nat.le_of_ble_eq_true (List.all_eq_true.1 h3 q hq)
      omega]
    exact h.a k hk
  fn := h.fn
theorem AgP.facts {n : Nat} {E E' : Env} (H : AgP n E E') {F : Fx} (hv : F.all (fun q => q.1.vb n) = true) (h : Facts E F) : Facts E' F := fun q hq => by
  rw [SB.den_agP H q.1 (List.all_eq_true.1 hv q hq)]; exact h q hq
theorem facts_append {E : Env} {F G : Fx} (h1 : Facts E F) (h2 : Facts E G) : Facts E (F ++ G) := fun q hq => by
  rcases List.mem_append.1 hq with h | h
  · exact h1 q h
  · exact h2 q h
theorem Eqn.i_ag {n : Nat} {E E0 : Env} (H : AgP n E0 E) (x : SE) (h : x.vb n = true) : (Eqn.i x x).ok E E0 := SE.den_agP H x h
theorem Eqn.a_ag {n : Nat} {E E0 : Env} (H : AgP n E0 E) (x : AE) (m : SE) (K : Nat) (h : x.vb n = true) : (Eqn.a x x m K).ok E E0 := fun j _ => by rw [AE.den_agP H x h]
theorem Eqn.p_ag {n : Nat} {E E0 : Env} (H : AgP n E0 E) (k : Nat) (x : SL) (h : x.vb n = true) : (Eqn.p k x x).ok E E0 := Eqn.p_of H.fn (SL.den_agP H x h)
theorem QuIs.congr {q : QuP} {n : Nat} {len : Int} {A A' : Nat → Int} {v : Value} {w : World} (h : QuIs q n len A v w) (hA : ∀ j, j < n → A j = A' j) : QuIs q n len A' v w := by
  rcases h with h | ⟨g, off, c, h1, h2, h3, h4, h5, h6⟩
  · exact .inl h
  · exact .inr ⟨g, off, c, h1, h2, h3, h4, h5, fun i j hi hj => by rw [← hA i hi]; exact h6 i j hi hj⟩
theorem RecIs.congr {r : RecP} {n : Nat} {A B L K C A' L' C' : Nat → Int} {v : Value} {w : World} (h : RecIs r n A B L K C v w) (hA : ∀ j, j < n * r.S → A j = A' j) (hL : ∀ k, k < n * r.m → L k = L' k)
    (hC : ∀ i f u, i < n → f < r.m → u < (L (i * r.m + f)).toNat * (r.nk f).length → C ((i * r.m + f) * r.W + u) = C' ((i * r.m + f) * r.W + u)) : RecIs r n A' B L' K C' v w := by
  obtain ⟨q, h1, h2⟩ := h
  refine ⟨q, ?_, fun i f hi hf => ?_⟩
  · have : (List.range (n * r.S)).map (fun j => (r.ks.getD (j % r.S) default).val (A j) (q j)) = (List.range (n * r.S)).map fun j => (r.ks.getD (j % r.S) default).val (A' j) (q j) := by
      apply List.map_congr_left
      intro j hj
      rw [hA j (List.mem_range.1 hj)]
    rw [this] at h1; exact h1
  · obtain ⟨a, b, c⟩ := h2 i f hi hf
    have hl := hL _ (mul_lt hi hf)
    refine ⟨by rw [← hl]; exact a, ?_, c⟩
    unfold NestOk at b ⊢
    rw [← hl]
    refine ⟨b.1, ?_⟩
    have b2 := b.2
    split
    · rename_i hB
      rw [if_pos hB] at b2
      obtain ⟨cs, T, fz, e1, e2⟩ := b2
      exact ⟨cs, T, fz, e1, fun j hj => by rw [e2 j hj, hC i f j hi hf hj]⟩
    · rename_i hB
      rw [if_neg hB] at b2; exact b2
theorem Eqn.recs {fns : Fns} {k kc : Nat} {r : RecP} (hR : RecOk fns k kc r) {E E0 : Env} (hE : E.fn = fns) (hE0 : E0.fn = fns) {n n' : SE} {A B L K C A' B' L' K' C' : AE} (hn : (n.den E).toNat = (n'.den E0).toNat) (hB : B.den E = B'.den E0) (hK : K.den E = K'.den E0)
    (hA : ∀ j, j < (n'.den E0).toNat * r.S → A.den E j = A'.den E0 j) (hL : ∀ k, k < (n'.den E0).toNat * r.m → L.den E k = L'.den E0 k)
    (hC : ∀ i f u, i < (n'.den E0).toNat → f < r.m → u < (L.den E (i * r.m + f)).toNat * (r.nk f).length → C.den E ((i * r.m + f) * r.W + u) = C'.den E0 ((i * r.m + f) * r.W + u)) :
    (Eqn.p k (.i n (.a A (.a B (.a L (.a K (.a C .nil)))))) (.i n' (.a A' (.a B' (.a L' (.a K' (.a C' .nil))))))).ok E E0 := fun a v w hp => by
  rw [hE] at hp ⊢
  rw [hE0]
  have h := (hR.p _ _ _ _ _ _ _ _ _).1 hp
  rw [hn, hB, hK] at h
  refine ⟨(hR.p _ _ _ _ _ _ _ _ _).2 (h.congr hA hL hC), fun x hx => ?_⟩
  refine (hR.ft _ _ _ _ _ _ _ _ _).2 ?_
  have := (hR.ft _ _ _ _ _ _ _ _ _).1 hx
  rw [hn, hB]; exact this
end Go.Sy
