/- Words for the ways of the play. -/
import Derived.Test.YtpjifimjoinnnaaDoorFcK
set_option autoImplicit true
set_option relaxedAutoImplicit true
set_option linter.unusedVariables false
set_option linter.unusedSimpArgs false
namespace Go.Proofs.YtpjifimjoinnnaaDoor
open Go Go.Sy Go.RowKit
variable {n k : Nat} {E0 E : Env} {s : Fs} {x : Stp1}
def inpE (E : Env) : Stp1 := ⟨E.a 0 (E.i 20 * 6).toNat, E.a 0 (E.i 20 * 6 + 1).toNat, E.a 0 (E.i 20 * 6 + 2).toNat, E.a 0 (E.i 20 * 6 + 3).toNat, E.a 0 (E.i 20 * 6 + 4).toNat, E.a 0 (E.i 20 * 6 + 5).toNat⟩
theorem inpE_eq (hI : I8 n E0 E k) : inp (E0.a 0) k = inpE E := by
  have hk := hI.h20
  unfold inp inpE
  rw [hI.ha, hk, show ((k : Int) * 6).toNat = 6 * k by omega, show ((k : Int) * 6 + 1).toNat = 6 * k + 1 by omega, show ((k : Int) * 6 + 2).toNat = 6 * k + 2 by omega, show ((k : Int) * 6 + 3).toNat = 6 * k + 3 by omega, show ((k : Int) * 6 + 4).toNat = 6 * k + 4 by omega, show ((k : Int) * 6 + 5).toNat = 6 * k + 5 by omega]
structure Cx (n : Nat) (E0 E : Env) (k : Nat) : Prop where
  hE0 : E0.fn = fns
  hE : E.fn = fns
  hI : I8 n E0 E k
  hsc : scrOk n (s0E E0) (E0.a 0) (E0.i 0).toNat
abbrev Gl (n : Nat) (E0 E : Env) (v : Vl) : Prop := VOk (pts8 n Tryd.prog) (ct8 n) (J8 n) mu8 (some (mu8 E0 0 E)) E0 E v
theorem Cx.in (c : Cx n E0 E k) (h : E.i 20 < E.i 0) : okIn n (fE E) (inpE E) ∧ (0 ≤ E.a 0 (E.i 20 * 6).toNat ∧ E.a 0 (E.i 20 * 6).toNat ≤ 11) ∧ (0 ≤ E.a 0 (E.i 20 * 6 + 1).toNat ∧ E.a 0 (E.i 20 * 6 + 1).toNat < n) := by
  have := (in8 c.hI c.hsc h).2
  rw [inpE_eq c.hI] at this
  exact ⟨this, this.1, this.2.1⟩
theorem sk8 {c : Nat} {kd : Int} (h1 : E.a 0 (E.i 20 * 6 + 1).toNat = c) (h0 : E.a 0 (E.i 20 * 6).toNat = kd) : (inpE E).S.toNat = c ∧ (inpE E).k = kd ∧ (fE E).p (inpE E).S.toNat = pE E c := by
  have e : (inpE E).S.toNat = c := by show (E.a 0 (E.i 20 * 6 + 1).toNat).toNat = c; omega
  exact ⟨e, h0, by rw [e]; rfl⟩
theorem aa0 (hpc : (fE E).p (inpE E).S.toNat = pE E 0) : (e6a ((fE E).p (inpE E).S.toNat) (inpE E) ↔ (E.b 2 = true ∧ E.a 0 (E.i 20 * 6 + 5).toNat ≠ 0 ∧ E.a 0 (E.i 20 * 6 + 3).toNat ≠ E.i 101) ∨ (E.b 2 = true ∧ E.i 101 < E.a 0 (E.i 20 * 6 + 3).toNat)) ∧
    (e6b ((fE E).p (inpE E).S.toNat) (inpE E) ↔ (E.a 0 (E.i 20 * 6 + 5).toNat ≠ 0 ∧ E.a 0 (E.i 20 * 6 + 3).toNat < E.i 101)) ∧ (e3a ((fE E).p (inpE E).S.toNat) (inpE E) ↔ (E.i 101 < E.a 0 (E.i 20 * 6 + 3).toNat ∧ E.i 103 < E.a 0 (E.i 20 * 6 + 3).toNat)) ∧
    (e3b (fE E).c ((fE E).p (inpE E).S.toNat) (inpE E) ↔ (E.i 101 < E.a 0 (E.i 20 * 6 + 3).toNat ∧ E.i 4 < E.i 2 + (E.a 0 (E.i 20 * 6 + 3).toNat - E.i 101))) := by
  rw [hpc]; exact ⟨by rw [e6a_iff]; simp only [pE, inpE, b2i_ne], Iff.rfl, Iff.rfl, Iff.rfl⟩
theorem aa1 (hpc : (fE E).p (inpE E).S.toNat = pE E 1) : (e6a ((fE E).p (inpE E).S.toNat) (inpE E) ↔ (E.b 3 = true ∧ E.a 0 (E.i 20 * 6 + 5).toNat ≠ 0 ∧ E.a 0 (E.i 20 * 6 + 3).toNat ≠ E.i 201) ∨ (E.b 3 = true ∧ E.i 201 < E.a 0 (E.i 20 * 6 + 3).toNat)) ∧
    (e6b ((fE E).p (inpE E).S.toNat) (inpE E) ↔ (E.a 0 (E.i 20 * 6 + 5).toNat ≠ 0 ∧ E.a 0 (E.i 20 * 6 + 3).toNat < E.i 201)) ∧ (e3a ((fE E).p (inpE E).S.toNat) (inpE E) ↔ (E.i 201 < E.a 0 (E.i 20 * 6 + 3).toNat ∧ E.i 203 < E.a 0 (E.i 20 * 6 + 3).toNat)) ∧
    (e3b (fE E).c ((fE E).p (inpE E).S.toNat) (inpE E) ↔ (E.i 201 < E.a 0 (E.i 20 * 6 + 3).toNat ∧ E.i 4 < E.i 2 + (E.a 0 (E.i 20 * 6 + 3).toNat - E.i 201))) := by
  rw [hpc]; exact ⟨by rw [e6a_iff]; simp only [pE, inpE, b2i_ne], Iff.rfl, Iff.rfl, Iff.rfl⟩
theorem aa2 (hpc : (fE E).p (inpE E).S.toNat = pE E 2) : (e6a ((fE E).p (inpE E).S.toNat) (inpE E) ↔ (E.b 4 = true ∧ E.a 0 (E.i 20 * 6 + 5).toNat ≠ 0 ∧ E.a 0 (E.i 20 * 6 + 3).toNat ≠ E.i 301) ∨ (E.b 4 = true ∧ E.i 301 < E.a 0 (E.i 20 * 6 + 3).toNat)) ∧
    (e6b ((fE E).p (inpE E).S.toNat) (inpE E) ↔ (E.a 0 (E.i 20 * 6 + 5).toNat ≠ 0 ∧ E.a 0 (E.i 20 * 6 + 3).toNat < E.i 301)) ∧ (e3a ((fE E).p (inpE E).S.toNat) (inpE E) ↔ (E.i 301 < E.a 0 (E.i 20 * 6 + 3).toNat ∧ E.i 303 < E.a 0 (E.i 20 * 6 + 3).toNat)) ∧
    (e3b (fE E).c ((fE E).p (inpE E).S.toNat) (inpE E) ↔ (E.i 301 < E.a 0 (E.i 20 * 6 + 3).toNat ∧ E.i 4 < E.i 2 + (E.a 0 (E.i 20 * 6 + 3).toNat - E.i 301))) := by
  rw [hpc]; exact ⟨by rw [e6a_iff]; simp only [pE, inpE, b2i_ne], Iff.rfl, Iff.rfl, Iff.rfl⟩
theorem go8 {P : Program} {si : List (Nat × SE)} {sb : List (Nat × SB)} {sa : List (Nat × AE)} {fo : Fo} {kk : List KF} (l : SL) (cx : Cx n E0 E k) (hlt : E.i 20 < E.i 0)
    (hfo : fo = .exit .normal ∧ kk = .loop (loopB P 8 12) :: loopK P 8 12) (h : ∀ o, ((E.put si sb sa o).i 0 = E.i 0 ∧ (E.put si sb sa o).i 20 = E.i 20 + 1) ∧ ((E.put si sb sa o).a 0 = E.a 0 ∧ (E.put si sb sa o).a 2 = E.a 2) ∧ (E.put si sb sa o).a 1 = (AE.tl (.v 1) (.mul (.v 20) (.c 8)) l).den E)
    (hs : ∀ o, Same n (fE (E.put si sb sa o)) (stp 1 (fE E) (inpE E))) (hc : ∀ c, c < 8 → l.nth E c = seenF 1 (fE E) (inpE E) c) :
    (∃ t, (pts8 n P)[0]? = some t ∧ ((fo = .code (.loop t.b) ∧ kk = t.K) ∨ (fo = .exit .normal ∧ kk = .loop t.b :: t.K))) ∧ ∀ o, J8 n E0 0 (E.put si sb sa o) ∧ ∀ b, some (mu8 E0 0 E) = some b → mu8 E0 0 (E.put si sb sa o) < b := by
  have hI := cx.hI
  obtain ⟨hlt, hin⟩ := in8 hI cx.hsc hlt
  have hx := inpE_eq hI
  rw [← hx] at hs hc
  have he : ((SE.mul (.v 20) (.c 8)).den E).toNat = k * 8 := by simp only [d_mul, d_v, d_c, hI.h20]; omega
  refine ⟨⟨_, rfl, .inr hfo⟩, fun o => ⟨⟨k + 1, fin8 hI hlt hin (h o).1.1 (h o).1.2 (h o).2.1.1 (h o).2.1.2 (hs o) he (h o).2.2 hc⟩, fun b hb => ?_⟩⟩
  obtain rfl := Option.some.inj hb
  show (E0.i 0 - (E.put si sb sa o).i 20).toNat < (E0.i 0 - E.i 20).toNat
  rw [(h o).1.2]; have := hI.h20; omega
theorem same8 {E' : Env} {c : Nat} {C y : P1} {S : Nat} {rtt smp : Int} (hS : S = c) (hc : cE E' = C) (hy : pE E' c = y) (ho : ∀ i, i < n → i ≠ c → pE E' i = pE E i) (hr : E'.i 40 = rtt) (hm : b2i (E'.b 1) = smp) : Same n (fE E') ⟨C, (fE E).set S y, rtt, smp⟩ :=
  ⟨hc, fun i hi => by
    subst hS
    show pE E' i = (fE E).set S y i
    by_cases h : i = S
    · subst h; rw [set_self]; exact hy
    · rw [set_ne _ h]; exact ho i hi h, hr, hm⟩
theorem same8n {E' : Env} {C : P1} {rtt smp : Int} (hc : cE E' = C) (ho : ∀ i, i < n → pE E' i = pE E i) (hr : E'.i 40 = rtt) (hm : b2i (E'.b 1) = smp) : Same n (fE E') ⟨C, (fE E).p, rtt, smp⟩ := ⟨hc, ho, hr, hm⟩
theorem ne1 {P : Nat → Prop} : ∀ i, i < 1 → i ≠ 0 → P i := fun i h1 h2 => by omega
theorem ne2a {P : Nat → Prop} (h : P 1) : ∀ i, i < 2 → i ≠ 0 → P i := fun i h1 h2 => (show i = 1 by omega) ▸ h
theorem ne2b {P : Nat → Prop} (h : P 0) : ∀ i, i < 2 → i ≠ 1 → P i := fun i h1 h2 => (show i = 0 by omega) ▸ h
theorem ne3a {P : Nat → Prop} (h : P 1) (h' : P 2) : ∀ i, i < 3 → i ≠ 0 → P i := fun i h1 h2 => by rcases (show i = 1 ∨ i = 2 by omega) with rfl | rfl <;> assumption
theorem ne3b {P : Nat → Prop} (h : P 0) (h' : P 2) : ∀ i, i < 3 → i ≠ 1 → P i := fun i h1 h2 => by rcases (show i = 0 ∨ i = 2 by omega) with rfl | rfl <;> assumption
theorem ne3c {P : Nat → Prop} (h : P 0) (h' : P 1) : ∀ i, i < 3 → i ≠ 2 → P i := fun i h1 h2 => by rcases (show i = 0 ∨ i = 1 by omega) with rfl | rfl <;> assumption
theorem al1 {P : Nat → Prop} (h : P 0) : ∀ i, i < 1 → P i := fun i h1 => (show i = 0 by omega) ▸ h
theorem al2 {P : Nat → Prop} (h : P 0) (h' : P 1) : ∀ i, i < 2 → P i := fun i h1 => by rcases (show i = 0 ∨ i = 1 by omega) with rfl | rfl <;> assumption
theorem al3 {P : Nat → Prop} (h : P 0) (h' : P 1) (h'' : P 2) : ∀ i, i < 3 → P i := fun i h1 => by rcases (show i = 0 ∨ i = 1 ∨ i = 2 by omega) with rfl | rfl | rfl <;> assumption
theorem row8 {l : SL} (h0 : l.nth E 0 = codeF s x) (h1 : l.nth E 1 = numF s x) (h2 : l.nth E 2 = if isF s x then 1 else 0) (h3 : l.nth E 3 = if alsoF s x then 1 else 0) (h4 : l.nth E 4 = ((stp 1 s x).p x.S.toNat).w) (h5 : l.nth E 5 = ((stp 1 s x).p x.S.toNat).z)
    (h6 : l.nth E 6 = (stp 1 s x).c.w) (h7 : l.nth E 7 = (stp 1 s x).c.z) : ∀ c, c < 8 → l.nth E c = seenF 1 s x c := fun c hc => by
  match c, hc with
  | 0, _ => exact h0 | 1, _ => exact h1 | 2, _ => exact h2 | 3, _ => exact h3 | 4, _ => exact h4 | 5, _ => exact h5 | 6, _ => exact h6 | 7, _ => exact h7
theorem num_c {kd : Int} (hK : x.k = kd) (h : kd ≠ 3 ∧ kd ≠ 4 ∧ kd ≠ 8 ∧ kd ≠ 10 := by decide) : 0 = numF s x := (num_n (by rw [hK]; exact h.1) (by rw [hK]; exact h.2.1) (by rw [hK]; exact h.2.2.1) (by rw [hK]; exact h.2.2.2)).symm
theorem is_c {kd : Int} (hK : x.k = kd) (h : kd ≠ 1 ∧ kd ≠ 5 ∧ kd ≠ 6 ∧ kd ≠ 7 ∧ kd ≠ 9 ∧ kd ≠ 10 := by decide) : (0 : Int) = if isF s x then 1 else 0 := by
  rw [if_neg (is_n (by rw [hK]; exact h.1) (by rw [hK]; exact h.2.1) (by rw [hK]; exact h.2.2.1) (by rw [hK]; exact h.2.2.2.1) (by rw [hK]; exact h.2.2.2.2.1) (by rw [hK]; exact h.2.2.2.2.2))]
theorem also_c {kd : Int} (hK : x.k = kd) (h : kd ≠ 1 := by decide) : (0 : Int) = if alsoF s x then 1 else 0 := by rw [if_neg (also_n (by rw [hK]; exact h))]
theorem code_c {kd : Int} (hK : x.k = kd) (h : kd ≠ 0 := by decide) : 0 = codeF s x := (code_n (by rw [hK]; exact h)).symm
theorem go8s {P : Program} {si : List (Nat × SE)} {sb : List (Nat × SB)} {sa : List (Nat × AE)} {fo : Fo} {kk : List KF} {c : Nat} {C y : P1} {rtt smp : Int} (l : SL) (cx : Cx n E0 E k) (hl : E.i 20 < E.i 0) (hst : stp 1 (fE E) (inpE E) = ⟨C, (fE E).set (inpE E).S.toNat y, rtt, smp⟩) (hS : (inpE E).S.toNat = c)
    (hc : ∀ o, cE (E.put si sb sa o) = C) (hy : ∀ o, pE (E.put si sb sa o) c = y) (ho : ∀ o i, i < n → i ≠ c → pE (E.put si sb sa o) i = pE E i)
    (h0 : l.nth E 0 = codeF (fE E) (inpE E)) (h1 : l.nth E 1 = numF (fE E) (inpE E)) (h2 : l.nth E 2 = if isF (fE E) (inpE E) then 1 else 0) (h3 : l.nth E 3 = if alsoF (fE E) (inpE E) then 1 else 0) (h4 : l.nth E 4 = y.w := by rfl) (h5 : l.nth E 5 = y.z := by rfl) (h6 : l.nth E 6 = C.w := by rfl) (h7 : l.nth E 7 = C.z := by rfl)
    (hfo : fo = .exit .normal ∧ kk = .loop (loopB P 8 12) :: loopK P 8 12 := by exact ⟨rfl, rfl⟩) (h : ∀ o, ((E.put si sb sa o).i 0 = E.i 0 ∧ (E.put si sb sa o).i 20 = E.i 20 + 1) ∧ ((E.put si sb sa o).a 0 = E.a 0 ∧ (E.put si sb sa o).a 2 = E.a 2) ∧ (E.put si sb sa o).a 1 = (AE.tl (.v 1) (.mul (.v 20) (.c 8)) l).den E := by exact fun _ => ⟨⟨rfl, rfl⟩, ⟨rfl, rfl⟩, rfl⟩)
    (hr : ∀ o, (E.put si sb sa o).i 40 = rtt ∧ b2i ((E.put si sb sa o).b 1) = smp := by exact fun _ => ⟨rfl, rfl⟩) :
    (∃ t, (pts8 n P)[0]? = some t ∧ ((fo = .code (.loop t.b) ∧ kk = t.K) ∨ (fo = .exit .normal ∧ kk = .loop t.b :: t.K))) ∧ ∀ o, J8 n E0 0 (E.put si sb sa o) ∧ ∀ b, some (mu8 E0 0 E) = some b → mu8 E0 0 (E.put si sb sa o) < b :=
  go8 l cx hl hfo h (fun o => by rw [hst]; exact same8 hS (hc o) (hy o) (ho o) (hr o).1 (hr o).2) (row8 h0 h1 h2 h3 (by rw [hst]; show _ = ((fE E).set _ y _).w; rw [set_self]; exact h4) (by rw [hst]; show _ = ((fE E).set _ y _).z; rw [set_self]; exact h5) (by rw [hst]; exact h6) (by rw [hst]; exact h7))
theorem go8n {P : Program} {si : List (Nat × SE)} {sb : List (Nat × SB)} {sa : List (Nat × AE)} {fo : Fo} {kk : List KF} {c : Nat} {C : P1} {rtt smp : Int} (l : SL) (cx : Cx n E0 E k) (hl : E.i 20 < E.i 0) (hst : stp 1 (fE E) (inpE E) = ⟨C, (fE E).p, rtt, smp⟩) (hS : (inpE E).S.toNat = c)
    (hc : ∀ o, cE (E.put si sb sa o) = C) (ho : ∀ o i, i < n → pE (E.put si sb sa o) i = pE E i)
    (h0 : l.nth E 0 = codeF (fE E) (inpE E)) (h1 : l.nth E 1 = numF (fE E) (inpE E)) (h2 : l.nth E 2 = if isF (fE E) (inpE E) then 1 else 0) (h3 : l.nth E 3 = if alsoF (fE E) (inpE E) then 1 else 0) (h4 : l.nth E 4 = (pE E c).w := by rfl) (h5 : l.nth E 5 = (pE E c).z := by rfl) (h6 : l.nth E 6 = C.w := by rfl) (h7 : l.nth E 7 = C.z := by rfl)
    (hfo : fo = .exit .normal ∧ kk = .loop (loopB P 8 12) :: loopK P 8 12 := by exact ⟨rfl, rfl⟩) (h : ∀ o, ((E.put si sb sa o).i 0 = E.i 0 ∧ (E.put si sb sa o).i 20 = E.i 20 + 1) ∧ ((E.put si sb sa o).a 0 = E.a 0 ∧ (E.put si sb sa o).a 2 = E.a 2) ∧ (E.put si sb sa o).a 1 = (AE.tl (.v 1) (.mul (.v 20) (.c 8)) l).den E := by exact fun _ => ⟨⟨rfl, rfl⟩, ⟨rfl, rfl⟩, rfl⟩)
    (hr : ∀ o, (E.put si sb sa o).i 40 = rtt ∧ b2i ((E.put si sb sa o).b 1) = smp := by exact fun _ => ⟨rfl, rfl⟩) :
    (∃ t, (pts8 n P)[0]? = some t ∧ ((fo = .code (.loop t.b) ∧ kk = t.K) ∨ (fo = .exit .normal ∧ kk = .loop t.b :: t.K))) ∧ ∀ o, J8 n E0 0 (E.put si sb sa o) ∧ ∀ b, some (mu8 E0 0 E) = some b → mu8 E0 0 (E.put si sb sa o) < b :=
  go8 l cx hl hfo h (fun o => by rw [hst]; exact same8n (hc o) (ho o) (hr o).1 (hr o).2) (row8 h0 h1 h2 h3 (by rw [hst]; show _ = ((fE E).p _).w; rw [hS]; exact h4) (by rw [hst]; show _ = ((fE E).p _).z; rw [hS]; exact h5) (by rw [hst]; exact h6) (by rw [hst]; exact h7))
theorem out8 (cx : Cx n E0 E k) (hn : E.i 0 ≤ E.i 20) : (∀ q ∈ ([.a (.v 2) (.v 2) (.c n) 3, .a (.v 0) (.v 0) (.v 0) 6, .i (.v 0) (.v 0), .a (.v 1) (.ap 0 (.i (.v 12) (.i (.v 13) (.i (.v 14) (.a (.v 2) (.a (.v 0) .nil)))))) (.v 0) 8, .i (.v 20) (.v 0)] : List Eqn), q.ok E E0) := by
  obtain ⟨hE0, hE, hI, _⟩ := cx
  have hk := hI.h20; have h0 := hI.h0; have hle := hI.le
  have hkk : E0.i 0 = k := by omega
  simp only [List.forall_mem_cons, List.not_mem_nil, false_imp_iff, implies_true, and_true, Eqn.ok]
  refine ⟨fun j _ => by rw [d_av, d_av, hI.ha2], fun j _ => by rw [d_av, d_av, hI.ha], h0, fun j hj => ?_, by rw [d_v, d_v]; omega⟩
  simp only [d_v, hkk] at hj
  rw [d_av, hI.row j (by omega)]
  show _ = E0.fn.a 0 [.i (E0.i 12), .i (E0.i 13), .i (E0.i 14), .a ((AE.v 2).den E0), .a ((AE.v 0).den E0)] j
  rw [hE0]; rfl
end Go.Proofs.YtpjifimjoinnnaaDoor
