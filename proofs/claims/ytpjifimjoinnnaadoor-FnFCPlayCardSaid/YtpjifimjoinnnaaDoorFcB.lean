/- The law of flow control, plain: the code's play says what the plain rule says, up to the first error. -/
import Derived.Test.YtpjifimjoinnnaaDoorFcK
import Derived.Test.YtpjifimjoinnnaaDoorFcF
set_option autoImplicit true
set_option relaxedAutoImplicit true
set_option linter.unusedVariables false
set_option linter.unusedSimpArgs false
set_option maxHeartbeats 2000000
namespace Go.Proofs.YtpjifimjoinnnaaDoor
open Go Go.Sy
variable {n k : Nat} {T : Int} {s s1 s0 : Fs} {x : Stp1}
def un (p : P1) : Int := if p.gone ≠ 0 then 0 else p.h - p.r
structure PInv (k : Nat) (T M : Int) (p : P1) : Prop where
  h : 0 ≤ p.h ∧ p.h ≤ 510 * k
  hw : p.h ≤ p.w
  r : 0 ≤ p.r ∧ p.r ≤ p.h
  w : p.w ≤ p.r + M
  z : 2 ≤ p.z ∧ p.z ≤ M
  m : 2 ≤ p.m ∧ p.m ≤ M
  t : 0 ≤ p.t ∧ p.t ≤ T
  f : 0 ≤ p.f ∧ p.f ≤ p.r
  s : 0 ≤ p.s ∧ p.s ≤ p.l
  l : p.l ≤ 1000000
  b : 0 ≤ p.b ∧ p.b ≤ 1000000
  fin : 0 ≤ p.fin ∧ p.fin ≤ 1
  gone : 0 ≤ p.gone ∧ p.gone ≤ 1
structure GInv (n k : Nat) (T : Int) (s : Fs) : Prop where
  c : PInv k T 8192 s.c
  p : ∀ i, i < n → PInv k T 4096 (s.p i)
  out : ∀ i, n ≤ i → un (s.p i) = 0
  sum : s.c.h = s.c.r + (un (s.p 0) + un (s.p 1) + un (s.p 2))
  rtt : 1000000 ≤ s.rtt ∧ s.rtt ≤ 260000000
structure Ok0 (n : Nat) (s : Fs) (x : Stp1) : Prop where
  k : 0 ≤ x.k ∧ x.k ≤ 11
  S : 0 ≤ x.S ∧ x.S < n
  n0 : 0 ≤ x.n ∧ x.n ≤ 260000000
  off : 0 ≤ x.off ∧ x.off ≤ (s.p x.S.toNat).h + 510
  gone : (s.p x.S.toNat).gone ≠ 0 → 3 < x.k
  r : x.k = 1 → (s.p x.S.toNat).r + x.n ≤ (s.p x.S.toNat).h
  sn : x.k = 7 → (s.p x.S.toNat).s + x.n ≤ (s.p x.S.toNat).l ∧ s.c.s + x.n ≤ s.c.l
  rt : x.k = 11 → 1000000 ≤ x.n ∧ s.smp = 0
  n1 : x.k < 11 → x.n ≤ 1000000
theorem PInv.mono {M : Int} {p : P1} {k' : Nat} {T' : Int} (h : PInv k T M p) (hk : k ≤ k') (hT : T ≤ T') : PInv k' T' M p :=
  { h with h := ⟨h.h.1, by have := h.h.2; omega⟩, t := ⟨h.t.1, by have := h.t.2; omega⟩ }
theorem un_nn {M : Int} {p : P1} (h : PInv k T M p) : 0 ≤ un p := by unfold un; have := h.r; split <;> omega
theorem un_all (hn : ∀ i, i < n → PInv k T 4096 (s.p i)) (ho : ∀ i, n ≤ i → un (s.p i) = 0) (i : Nat) : 0 ≤ un (s.p i) := by
  by_cases h : i < n
  · exact un_nn (hn i h)
  · rw [ho i (by omega)]; exact Int.le_refl _
theorem upZ_r {a rtt r w z m t f M : Int} (hz : 2 ≤ z ∧ z ≤ M) (hm : m ≤ M) : z ≤ upZ a rtt r w z m t f ∧ upZ a rtt r w z m t f ≤ M := by
  unfold upZ; split <;> omega
theorem pinv_up {M rtt at_ : Int} {p : P1} (h : PInv k T M p) (hT : T ≤ at_) : PInv k at_ M (upP p rtt at_) := by
  have hz := upZ_r (a := at_) (rtt := rtt) (r := p.r) (w := p.w) (t := p.t) (f := p.f) h.z h.m.2
  obtain ⟨⟨h0, h1⟩, hw, ⟨r0, r1⟩, w1, ⟨z0, z1⟩, m, ⟨t0, t1⟩, ⟨f0, f1⟩, s, l, b, fin, gone⟩ := h
  refine ⟨⟨h0, h1⟩, ?_, ⟨r0, r1⟩, ?_, ?_, m, ?_, ?_, s, l, b, fin, gone⟩
  · show p.h ≤ upW at_ rtt p.r p.w p.z p.m p.t p.f
    unfold upW; split
    · rename_i hd; unfold duE at hd; omega
    · omega
  · show upW at_ rtt p.r p.w p.z p.m p.t p.f ≤ p.r + M
    unfold upW; split <;> omega
  · show 2 ≤ upZ at_ rtt p.r p.w p.z p.m p.t p.f ∧ _
    exact ⟨by omega, hz.2⟩
  · show 0 ≤ upT at_ p.r p.w p.z p.t p.f ∧ upT at_ p.r p.w p.z p.t p.f ≤ at_
    unfold upT; split <;> omega
  · show 0 ≤ upF p.r p.w p.z p.f ∧ upF p.r p.w p.z p.f ≤ p.r
    unfold upF; split <;> omega
theorem pinv_en {rtt at_ : Int} {c p : P1} (h : PInv k T 8192 c) (hT : T ≤ at_) : PInv k at_ 8192 (enP c p rtt at_) := by
  obtain ⟨⟨h0, h1⟩, hw, ⟨r0, r1⟩, w1, ⟨z0, z1⟩, m, ⟨t0, t1⟩, ⟨f0, f1⟩, s, l, b, fin, gone⟩ := h
  refine ⟨⟨h0, h1⟩, hw, ⟨r0, r1⟩, w1, ?_, m, ?_, ?_, s, l, b, fin, gone⟩
  · show 2 ≤ enZ (upP p rtt at_).z p.z c.z c.m ∧ enZ (upP p rtt at_).z p.z c.z c.m ≤ 8192
    generalize (upP p rtt at_).z = z'
    unfold enZ; split <;> omega
  · show 0 ≤ enT (upP p rtt at_).z p.z c.z c.t at_ ∧ enT (upP p rtt at_).z p.z c.z c.t at_ ≤ at_
    generalize (upP p rtt at_).z = z'
    unfold enT; split <;> omega
  · show 0 ≤ enF (upP p rtt at_).z p.z c.z c.f c.r ∧ enF (upP p rtt at_).z p.z c.z c.f c.r ≤ c.r
    generalize (upP p rtt at_).z = z'
    unfold enF; split <;> omega
theorem un_gone {p : P1} (h : p.gone ≠ 0) : un p = 0 := by unfold un; rw [if_pos h]
theorem un_live {p : P1} (h : p.gone = 0) : un p = p.h - p.r := by unfold un; rw [if_neg (by omega)]
theorem sum_set {S : Nat} (hS : S < n) (hn : n ≤ 3) (y : P1) : un (s.set S y 0) + un (s.set S y 1) + un (s.set S y 2) = un (s.p 0) + un (s.p 1) + un (s.p 2) - un (s.p S) + un y := by
  have : S = 0 ∨ S = 1 ∨ S = 2 := by omega
  rcases this with rfl | rfl | rfl
  · rw [set_self, set_ne s (by decide : (1 : Nat) ≠ 0), set_ne s (by decide : (2 : Nat) ≠ 0)]; omega
  · rw [set_self, set_ne s (by decide : (0 : Nat) ≠ 1), set_ne s (by decide : (2 : Nat) ≠ 1)]; omega
  · rw [set_self, set_ne s (by decide : (0 : Nat) ≠ 2), set_ne s (by decide : (1 : Nat) ≠ 2)]; omega
theorem ginv_set {S : Nat} {at_ : Int} {c y : P1} (g : GInv n k T s) (hn : n ≤ 3) (hS : S < n) (hT : T ≤ at_) (hy : PInv (k + 1) at_ 4096 y) (hc : (0 ≤ c.r → c.r ≤ c.h → PInv (k + 1) at_ 8192 c)) (hcr : 0 ≤ c.r)
    (hsum : c.h - c.r = s.c.h - s.c.r - un (s.p S) + un y) {rtt smp : Int} (hr : 1000000 ≤ rtt ∧ rtt ≤ 260000000) : GInv n (k + 1) at_ ⟨c, s.set S y, rtt, smp⟩ := by
  have hp : ∀ i, i < n → PInv (k + 1) at_ 4096 (s.set S y i) := fun i hi => by
    by_cases h : i = S
    · subst h; rw [set_self]; exact hy
    · rw [set_ne s h]; exact (g.p i hi).mono (by omega) hT
  have ho : ∀ i, n ≤ i → un (s.set S y i) = 0 := fun i hi => by rw [set_ne s (by omega)]; exact g.out i hi
  have hs := sum_set (s := s) hS hn y
  have gs := g.sum
  have hsum' : c.h = c.r + (un (s.set S y 0) + un (s.set S y 1) + un (s.set S y 2)) := by omega
  have u : ∀ i, 0 ≤ un (s.set S y i) := fun i => un_all (s := ⟨c, s.set S y, rtt, smp⟩) hp ho i
  have u0 := u 0; have u1 := u 1; have u2 := u 2
  exact ⟨hc hcr (by omega), hp, ho, hsum', hr⟩
theorem ginv_c {at_ : Int} {c : P1} (g : GInv n k T s) (hT : T ≤ at_) (hc : PInv (k + 1) at_ 8192 c) (hh : c.h = s.c.h) (hr : c.r = s.c.r) : GInv n (k + 1) at_ { s with c := c } :=
  ⟨hc, fun i hi => (g.p i hi).mono (by omega) hT, g.out, by rw [hh, hr]; exact g.sum, g.rtt⟩
theorem ginv_mono {at_ : Int} (g : GInv n k T s) (hT : T ≤ at_) : GInv n (k + 1) at_ s :=
  ⟨g.c.mono (by omega) hT, fun i hi => (g.p i hi).mono (by omega) hT, g.out, g.sum, g.rtt⟩
theorem kind_cases (h : 0 ≤ x.k ∧ x.k ≤ 11) : x.k = 0 ∨ x.k = 1 ∨ x.k = 2 ∨ x.k = 3 ∨ x.k = 4 ∨ x.k = 5 ∨ x.k = 6 ∨ x.k = 7 ∨ x.k = 8 ∨ x.k = 9 ∨ x.k = 10 ∨ x.k = 11 := by omega
theorem fin01 {a b : Int} : 0 ≤ (if a ≠ 0 ∨ b ≠ 0 then (1 : Int) else 0) ∧ (if a ≠ 0 ∨ b ≠ 0 then (1 : Int) else 0) ≤ 1 := by split <;> omega
theorem coT_r {d h t a T : Int} (ht : 0 ≤ t ∧ t ≤ T) (ha : T ≤ a) : 0 ≤ coT d h t a ∧ coT d h t a ≤ a := by unfold coT; split <;> omega
theorem coF_r {d h f r : Int} (hf : 0 ≤ f ∧ f ≤ r) : 0 ≤ coF d h f r ∧ coF d h f r ≤ r := by unfold coF; split <;> omega
theorem up1 {a : Int} {k : Nat} (h : a ≤ 510 * k) : a ≤ 510 * ((k + 1 : Nat) : Int) := by omega
theorem ginv_step (hn : n ≤ 3) (g : GInv n k T s) (o : Ok0 n s x) (hT : T ≤ x.at_) (hc : codeF s x = 0) : GInv n (k + 1) x.at_ (stp 0 s x) := by
  have hS : x.S.toNat < n := by have := o.S; omega
  have gp := g.p _ hS
  have gc := g.c
  obtain ⟨⟨h0, h1⟩, hw, ⟨r0, r1⟩, w1, ⟨z0, z1⟩, m, ⟨t0, t1⟩, ⟨f0, f1⟩, ⟨s0, s1⟩, l, b, fin, gone⟩ := g.p _ hS
  obtain ⟨⟨ch0, ch1⟩, chw, ⟨cr0, cr1⟩, cw1, ⟨cz0, cz1⟩, cm, ⟨ct0, ct1⟩, ⟨cf0, cf1⟩, ⟨cs0, cs1⟩, cl, cb, cfin, cgone⟩ := g.c
  have hgo := o.gone
  rcases kind_cases o.k with hk | hk | hk | hk | hk | hk | hk | hk | hk | hk | hk | hk
  · have hg : (s.p x.S.toNat).gone = 0 := by have := hgo; omega
    by_cases h1' : e6a (s.p x.S.toNat) x
    · rw [code_6 hk (.inl h1')] at hc; omega
    by_cases h2' : e6b (s.p x.S.toNat) x
    · rw [code_6 hk (.inr h2')] at hc; omega
    by_cases h3' : e3a (s.p x.S.toNat) x
    · rw [code_3 hk h1' h2' (.inl h3')] at hc; omega
    by_cases h4' : e3b s.c (s.p x.S.toNat) x
    · rw [code_3 hk h1' h2' (.inr h4')] at hc; omega
    rw [stp0d hk h1' h2' h3']
    have off := o.off
    unfold e3a at h3'; unfold e3b at h4'
    have hun : un (comeP (s.p x.S.toNat) x) = max (s.p x.S.toNat).h x.off - (s.p x.S.toNat).r := un_live hg
    refine ginv_set (y := comeP (s.p x.S.toNat) x) (c := comeC s.c (s.p x.S.toNat) x) g hn hS hT ⟨?_, ?_, ?_, w1, ⟨z0, z1⟩, m, coT_r ⟨t0, t1⟩ hT, coF_r ⟨f0, f1⟩, ⟨s0, s1⟩, l, b, fin01, gone⟩ (fun _ hle => ⟨?_, ?_, ⟨cr0, hle⟩, cw1, ⟨cz0, cz1⟩, cm, coT_r ⟨ct0, ct1⟩ hT, coF_r ⟨cf0, cf1⟩, ⟨cs0, cs1⟩, cl, cb, cfin, cgone⟩) cr0 ?_ g.rtt
    · show 0 ≤ max (s.p x.S.toNat).h x.off ∧ max (s.p x.S.toNat).h x.off ≤ 510 * ((k + 1 : Nat) : Int); omega
    · show max (s.p x.S.toNat).h x.off ≤ (s.p x.S.toNat).w; omega
    · show 0 ≤ (s.p x.S.toNat).r ∧ (s.p x.S.toNat).r ≤ max (s.p x.S.toNat).h x.off; omega
    · show 0 ≤ s.c.h + max 0 (x.off - (s.p x.S.toNat).h) ∧ s.c.h + max 0 (x.off - (s.p x.S.toNat).h) ≤ 510 * ((k + 1 : Nat) : Int); omega
    · show s.c.h + max 0 (x.off - (s.p x.S.toNat).h) ≤ s.c.w; omega
    · rw [hun, un_live hg]
      show s.c.h + max 0 (x.off - (s.p x.S.toNat).h) - s.c.r = _
      omega
  · have hg : (s.p x.S.toNat).gone = 0 := by have := hgo; omega
    have hr := o.r hk
    have hn0 := o.n0
    rw [stp1 hk]
    refine ginv_set (y := { s.p x.S.toNat with r := (s.p x.S.toNat).r + x.n }) (c := { s.c with r := s.c.r + x.n }) g hn hS hT ⟨?_, hw, ?_, ?_, ⟨z0, z1⟩, m, ⟨t0, Int.le_trans t1 hT⟩, ?_, ⟨s0, s1⟩, l, b, fin, gone⟩ (fun _ hle => ⟨⟨ch0, up1 ch1⟩, chw, ⟨by assumption, hle⟩, ?_, ⟨cz0, cz1⟩, cm, ⟨ct0, Int.le_trans ct1 hT⟩, ?_, ⟨cs0, cs1⟩, cl, cb, cfin, cgone⟩) ?_ ?_ g.rtt
    · exact ⟨h0, up1 h1⟩
    · show 0 ≤ (s.p x.S.toNat).r + x.n ∧ (s.p x.S.toNat).r + x.n ≤ (s.p x.S.toNat).h; omega
    · show (s.p x.S.toNat).w ≤ (s.p x.S.toNat).r + x.n + 4096; omega
    · show 0 ≤ (s.p x.S.toNat).f ∧ (s.p x.S.toNat).f ≤ (s.p x.S.toNat).r + x.n; omega
    · show s.c.w ≤ s.c.r + x.n + 8192; omega
    · show 0 ≤ s.c.f ∧ s.c.f ≤ s.c.r + x.n; omega
    · show 0 ≤ s.c.r + x.n; omega
    · rw [un_live hg, un_live (p := { s.p x.S.toNat with r := (s.p x.S.toNat).r + x.n }) hg]
      show s.c.h - (s.c.r + x.n) = s.c.h - s.c.r - ((s.p x.S.toNat).h - (s.p x.S.toNat).r) + ((s.p x.S.toNat).h - ((s.p x.S.toNat).r + x.n))
      omega
  · have hg : (s.p x.S.toNat).gone = 0 := by have := hgo; omega
    rw [stp20 hk]
    refine ginv_set (y := { s.p x.S.toNat with gone := 1 }) (c := { s.c with r := s.c.r + ((s.p x.S.toNat).h - (s.p x.S.toNat).r) }) g hn hS hT ⟨⟨h0, up1 h1⟩, hw, ⟨r0, r1⟩, w1, ⟨z0, z1⟩, m, ⟨t0, Int.le_trans t1 hT⟩, ⟨f0, f1⟩, ⟨s0, s1⟩, l, b, fin, ⟨(show (0 : Int) ≤ 1 by decide), (show (1 : Int) ≤ 1 by decide)⟩⟩ (fun _ hle => ⟨⟨ch0, up1 ch1⟩, chw, ⟨by assumption, hle⟩, ?_, ⟨cz0, cz1⟩, cm, ⟨ct0, Int.le_trans ct1 hT⟩, ?_, ⟨cs0, cs1⟩, cl, cb, cfin, cgone⟩) ?_ ?_ g.rtt
    · show s.c.w ≤ s.c.r + ((s.p x.S.toNat).h - (s.p x.S.toNat).r) + 8192; omega
    · show 0 ≤ s.c.f ∧ s.c.f ≤ s.c.r + ((s.p x.S.toNat).h - (s.p x.S.toNat).r); omega
    · show 0 ≤ s.c.r + ((s.p x.S.toNat).h - (s.p x.S.toNat).r); omega
    · rw [un_live hg, un_gone (p := { s.p x.S.toNat with gone := 1 }) (show (1 : Int) ≠ 0 by decide)]
      show s.c.h - (s.c.r + ((s.p x.S.toNat).h - (s.p x.S.toNat).r)) = _
      omega
  · by_cases hf : (s.p x.S.toNat).fin = 0
    · rw [stp3b hk hf]
      have hg : (s.p x.S.toNat).gone = 0 := by have := hgo; omega
      refine ginv_set (y := upP (s.p x.S.toNat) s.rtt x.at_) (c := enP s.c (s.p x.S.toNat) s.rtt x.at_) g hn hS hT ((pinv_up gp hT).mono (by omega) (Int.le_refl _)) (fun _ _ => (pinv_en gc hT).mono (by omega) (Int.le_refl _)) cr0 ?_ g.rtt
      rw [un_live hg, un_live (p := upP (s.p x.S.toNat) s.rtt x.at_) hg]
      show s.c.h - s.c.r = s.c.h - s.c.r - ((s.p x.S.toNat).h - (s.p x.S.toNat).r) + ((s.p x.S.toNat).h - (s.p x.S.toNat).r)
      omega
    · rw [stp3a hk hf]; exact ginv_mono g hT
  · rw [stp4 hk]
    exact ginv_c g hT ((pinv_up gc hT).mono (by omega) (Int.le_refl _)) rfl rfl
  · rw [stp5 hk]
    have n1 := o.n1 (by omega)
    refine ginv_set (y := { s.p x.S.toNat with l := max (s.p x.S.toNat).l x.n }) (c := s.c) g hn hS hT ⟨⟨h0, up1 h1⟩, hw, ⟨r0, r1⟩, w1, ⟨z0, z1⟩, m, ⟨t0, Int.le_trans t1 hT⟩, ⟨f0, f1⟩, ?_, ?_, b, fin, gone⟩ (fun _ _ => gc.mono (by omega) hT) cr0 ?_ g.rtt
    · show 0 ≤ (s.p x.S.toNat).s ∧ (s.p x.S.toNat).s ≤ max (s.p x.S.toNat).l x.n; omega
    · show max (s.p x.S.toNat).l x.n ≤ 1000000; omega
    · have : un { s.p x.S.toNat with l := max (s.p x.S.toNat).l x.n } = un (s.p x.S.toNat) := rfl
      rw [this]; omega
  · rw [stp6 hk]
    have n1 := o.n1 (by omega)
    refine ginv_c (c := { s.c with l := max s.c.l x.n }) g hT ⟨⟨ch0, up1 ch1⟩, chw, ⟨cr0, cr1⟩, cw1, ⟨cz0, cz1⟩, cm, ⟨ct0, Int.le_trans ct1 hT⟩, ⟨cf0, cf1⟩, ?_, ?_, cb, cfin, cgone⟩ rfl rfl
    · show 0 ≤ s.c.s ∧ s.c.s ≤ max s.c.l x.n; omega
    · show max s.c.l x.n ≤ 1000000; omega
  · rw [stp7 hk]
    have hs := o.sn hk
    have hn0 := o.n0
    refine ginv_set (y := { s.p x.S.toNat with s := (s.p x.S.toNat).s + x.n }) (c := { s.c with s := s.c.s + x.n }) g hn hS hT ⟨⟨h0, up1 h1⟩, hw, ⟨r0, r1⟩, w1, ⟨z0, z1⟩, m, ⟨t0, Int.le_trans t1 hT⟩, ⟨f0, f1⟩, ?_, l, b, fin, gone⟩ (fun _ _ => ⟨⟨ch0, up1 ch1⟩, chw, ⟨cr0, cr1⟩, cw1, ⟨cz0, cz1⟩, cm, ⟨ct0, Int.le_trans ct1 hT⟩, ⟨cf0, cf1⟩, ?_, cl, cb, cfin, cgone⟩) cr0 ?_ g.rtt
    · show 0 ≤ (s.p x.S.toNat).s + x.n ∧ (s.p x.S.toNat).s + x.n ≤ (s.p x.S.toNat).l; omega
    · show 0 ≤ s.c.s + x.n ∧ s.c.s + x.n ≤ s.c.l; omega
    · have : un { s.p x.S.toNat with s := (s.p x.S.toNat).s + x.n } = un (s.p x.S.toNat) := rfl
      rw [this]
      show s.c.h - s.c.r = _
      omega
  · rw [stp8 hk]; exact ginv_mono g hT
  · rw [stp9 hk]
    refine ginv_set (y := blkP (s.p x.S.toNat)) (c := s.c) g hn hS hT ⟨⟨h0, up1 h1⟩, hw, ⟨r0, r1⟩, w1, ⟨z0, z1⟩, m, ⟨t0, Int.le_trans t1 hT⟩, ⟨f0, f1⟩, ⟨s0, s1⟩, l, ?_, fin, gone⟩ (fun _ _ => gc.mono (by omega) hT) cr0 ?_ g.rtt
    · show 0 ≤ (if (s.p x.S.toNat).s < (s.p x.S.toNat).l then (s.p x.S.toNat).b else (s.p x.S.toNat).l) ∧ (if (s.p x.S.toNat).s < (s.p x.S.toNat).l then (s.p x.S.toNat).b else (s.p x.S.toNat).l) ≤ 1000000
      split <;> omega
    · have : un (blkP (s.p x.S.toNat)) = un (s.p x.S.toNat) := rfl
      rw [this]; omega
  · rw [stp10 hk]
    refine ginv_c (c := blkP s.c) g hT ⟨⟨ch0, up1 ch1⟩, chw, ⟨cr0, cr1⟩, cw1, ⟨cz0, cz1⟩, cm, ⟨ct0, Int.le_trans ct1 hT⟩, ⟨cf0, cf1⟩, ⟨cs0, cs1⟩, cl, ?_, cfin, cgone⟩ rfl rfl
    show 0 ≤ (if s.c.s < s.c.l then s.c.b else s.c.l) ∧ (if s.c.s < s.c.l then s.c.b else s.c.l) ≤ 1000000
    split <;> omega
  · rw [stp11 hk]
    have hr := o.rt hk
    have := o.n0
    exact ⟨gc.mono (by omega) hT, fun i hi => (g.p i hi).mono (by omega) hT, g.out, g.sum, ⟨hr.1, this.2⟩⟩
def gm (p : P1) : P1 := if p.gone ≠ 0 then { p with r := p.h, gone := 0 } else p
structure Rel (s1 s0 : Fs) : Prop where
  c : s1.c = s0.c
  p : ∀ i, s1.p i = gm (s0.p i)
  rtt : s1.rtt = s0.rtt
  smp : s1.smp = s0.smp
theorem gm_live {p : P1} (h : p.gone = 0) : gm p = p := by unfold gm; rw [if_neg (by omega)]
theorem gm_up {p y : P1} {f : P1 → P1} (hg : ∀ q, (f q).gone = q.gone) (hh : ∀ q : P1, f { q with r := q.h, gone := 0 } = { f q with r := (f q).h, gone := 0 }) : f (gm p) = gm (f p) := by
  unfold gm
  rw [hg]
  split
  · exact hh p
  · rfl
theorem rel_set (R : Rel s1 s0) {S : Nat} {c y1 y0 : P1} (hy : y1 = gm y0) {rtt smp : Int} : Rel ⟨c, s1.set S y1, rtt, smp⟩ ⟨c, s0.set S y0, rtt, smp⟩ :=
  ⟨rfl, fun i => by
    show s1.set S y1 i = gm (s0.set S y0 i)
    by_cases h : i = S
    · subst h; rw [set_self, set_self, hy]
    · rw [set_ne _ h, set_ne _ h]; exact R.p i, rfl, rfl⟩
theorem rel_code (R : Rel s1 s0) (o : Ok0 n s0 x) : codeF s1 x = codeF s0 x := by
  by_cases hk : x.k = 0
  · have hg : (s0.p x.S.toNat).gone = 0 := by have := o.gone; omega
    unfold codeF
    rw [R.p, gm_live hg, R.c]
  · rw [code_n hk, code_n hk]
theorem rel_step (R : Rel s1 s0) (o : Ok0 n s0 x) (hc : codeF s0 x = 0) : Rel (stp 1 s1 x) (stp 0 s0 x) := by
  have hgo := o.gone
  have hp := R.p x.S.toNat
  have live : x.k ≤ 3 → s1.p x.S.toNat = s0.p x.S.toNat ∧ (s0.p x.S.toNat).gone = 0 := fun h => by
    have hg : (s0.p x.S.toNat).gone = 0 := by have := hgo; omega
    exact ⟨by rw [hp, gm_live hg], hg⟩
  obtain ⟨c1, p1, rtt1, smp1⟩ := s1
  obtain ⟨c0, p0, rtt0, smp0⟩ := s0
  obtain rfl : c1 = c0 := R.c
  obtain rfl : rtt1 = rtt0 := R.rtt
  obtain rfl : smp1 = smp0 := R.smp
  rcases kind_cases o.k with hk | hk | hk | hk | hk | hk | hk | hk | hk | hk | hk | hk
  · obtain ⟨he, hg⟩ := live (by omega)
    by_cases h1' : e6a (p0 x.S.toNat) x
    · rw [code_6 hk (.inl h1')] at hc; omega
    by_cases h2' : e6b (p0 x.S.toNat) x
    · rw [code_6 hk (.inr h2')] at hc; omega
    by_cases h3' : e3a (p0 x.S.toNat) x
    · rw [code_3 hk h1' h2' (.inl h3')] at hc; omega
    have he' : p1 x.S.toNat = p0 x.S.toNat := he
    rw [stp0d (s := ⟨c1, p0, rtt1, smp1⟩) hk h1' h2' h3', stp0d (s := ⟨c1, p1, rtt1, smp1⟩) hk (show ¬ e6a (p1 x.S.toNat) x by rw [he']; exact h1') (show ¬ e6b (p1 x.S.toNat) x by rw [he']; exact h2') (show ¬ e3a (p1 x.S.toNat) x by rw [he']; exact h3')]
    simp only [he']
    exact rel_set R (gm_live (p := comeP (p0 x.S.toNat) x) hg).symm
  · obtain ⟨he, hg⟩ := live (by omega)
    have he' : p1 x.S.toNat = p0 x.S.toNat := he
    rw [stp1 hk, stp1 hk]
    simp only [he']
    exact rel_set R (gm_live (p := { p0 x.S.toNat with r := (p0 x.S.toNat).r + x.n }) hg).symm
  · obtain ⟨he, hg⟩ := live (by omega)
    have he' : p1 x.S.toNat = p0 x.S.toNat := he
    have hg' : (p0 x.S.toNat).gone = 0 := hg
    rw [stp2 hk, stp20 hk]
    simp only [he']
    refine rel_set R ?_
    unfold gm
    rw [if_pos (by decide : (1 : Int) ≠ 0)]
    rw [← hg']
  · obtain ⟨he, hg⟩ := live (by omega)
    have he' : p1 x.S.toNat = p0 x.S.toNat := he
    by_cases hf : (p0 x.S.toNat).fin = 0
    · rw [stp3b (s := ⟨c1, p0, rtt1, smp1⟩) hk hf, stp3b (s := ⟨c1, p1, rtt1, smp1⟩) hk (show (p1 x.S.toNat).fin = 0 by rw [he']; exact hf)]
      simp only [he']
      exact rel_set R (gm_live (p := upP (p0 x.S.toNat) rtt1 x.at_) hg).symm
    · rw [stp3a (s := ⟨c1, p0, rtt1, smp1⟩) hk hf, stp3a (s := ⟨c1, p1, rtt1, smp1⟩) hk (show (p1 x.S.toNat).fin ≠ 0 by rw [he']; exact hf)]
      exact R
  · rw [stp4 hk, stp4 hk]; exact ⟨rfl, R.p, rfl, rfl⟩
  · rw [stp5 hk, stp5 hk]
    refine rel_set R ?_
    rw [hp]
    exact gm_up (y := p0 0) (f := fun q => { q with l := max q.l x.n }) (fun _ => rfl) (fun _ => rfl)
  · rw [stp6 hk, stp6 hk]; exact ⟨rfl, R.p, rfl, rfl⟩
  · rw [stp7 hk, stp7 hk]
    refine rel_set R ?_
    rw [hp]
    exact gm_up (y := p0 0) (f := fun q => { q with s := q.s + x.n }) (fun _ => rfl) (fun _ => rfl)
  · rw [stp8 hk, stp8 hk]; exact R
  · rw [stp9 hk, stp9 hk]
    refine rel_set R ?_
    rw [hp]
    exact gm_up (y := p0 0) (f := blkP) (fun _ => rfl) (fun _ => rfl)
  · rw [stp10 hk, stp10 hk]; exact ⟨rfl, R.p, rfl, rfl⟩
  · rw [stp11 hk, stp11 hk]; exact ⟨rfl, R.p, rfl, rfl⟩
theorem gm_w (p : P1) : (gm p).w = p.w := by unfold gm; split <;> rfl
theorem gm_z (p : P1) : (gm p).z = p.z := by unfold gm; split <;> rfl
theorem gm_s (p : P1) : (gm p).s = p.s := by unfold gm; split <;> rfl
theorem gm_l (p : P1) : (gm p).l = p.l := by unfold gm; split <;> rfl
theorem gm_b (p : P1) : (gm p).b = p.b := by unfold gm; split <;> rfl
theorem rel_seen (R : Rel s1 s0) (o : Ok0 n s0 x) (hc : codeF s0 x = 0) (j : Nat) : seenF 1 s1 x j = seenF 0 s0 x j := by
  have hgo := o.gone
  have hp := R.p x.S.toNat
  have R' := rel_step R o hc
  have live : x.k ≤ 3 → s1.p x.S.toNat = s0.p x.S.toNat := fun h => by rw [hp, gm_live (by have := hgo; omega)]
  unfold seenF
  split
  · exact rel_code R o
  · rcases kind_cases o.k with hk | hk | hk | hk | hk | hk | hk | hk | hk | hk | hk | hk
    case inr.inr.inr.inl => unfold numF; rw [live (by omega), R.rtt, R.c]
    all_goals
      unfold numF
      simp only [hk, R.c, R.rtt, hp, gm_l, gm_s]
      try rfl
  · have : isF s1 x ↔ isF s0 x := by
      unfold isF newB
      rcases kind_cases o.k with hk | hk | hk | hk | hk | hk | hk | hk | hk | hk | hk | hk
      case inr.inl => rw [live (by omega), R.c]
      all_goals simp only [hk, R.c, hp, gm_l, gm_s, gm_b]
      all_goals simp
    simp only [this]
  · have : alsoF s1 x ↔ alsoF s0 x := by unfold alsoF; rw [R.c]
    simp only [this]
  · rw [R'.p, gm_w]
  · rw [R'.p, gm_z]
  · rw [R'.c]
  · rw [R'.c]
theorem okP_of {M : Int} {p : P1} (h : PInv k T M p) (hk : k ≤ 61) (hM : M ≤ 8192) (hT : T ≤ 1000000000000000000) : okP p := by
  obtain ⟨⟨h0, h1⟩, hw, ⟨r0, r1⟩, w1, ⟨z0, z1⟩, ⟨m0, m1⟩, ⟨t0, t1⟩, ⟨f0, f1⟩, ⟨s0, s1⟩, l, ⟨b0, b1⟩, fin, gone⟩ := h
  refine ⟨⟨h0, ?_⟩, ⟨r0, ?_⟩, ⟨?_, ?_⟩, ⟨z0, ?_⟩, ⟨m0, ?_⟩, ⟨t0, ?_⟩, ⟨f0, ?_⟩, ⟨s0, ?_⟩, ⟨?_, l⟩, ⟨b0, b1⟩⟩ <;> omega
theorem okP_gm {p : P1} (h : okP p) : okP (gm p) := by
  unfold gm
  split
  · obtain ⟨h1, h2, h3⟩ := h; exact ⟨h1, h1, h3⟩
  · exact h
theorem good_of (g : GInv n k T s0) (R : Rel s1 s0) (hk : k ≤ 61) (hT : T ≤ 1000000000000000000) : Good n s1 :=
  ⟨by rw [R.c]; exact okP_of g.c hk (by decide) hT, fun i hi => by rw [R.p]; exact okP_gm (okP_of (g.p i hi) hk (by decide) hT), by rw [R.rtt]; exact g.rtt.1, by rw [R.rtt]; exact g.rtt.2⟩
theorem okIn_of (g : GInv n k T s0) (R : Rel s1 s0) (o : Ok0 n s0 x) (hk : k ≤ 61) (hat : 0 ≤ x.at_ ∧ x.at_ ≤ 1000000000000000000) : okIn n s1 x := by
  have hS : x.S.toNat < n := by have := o.S; omega
  have gp := g.p _ hS
  have hp := R.p x.S.toNat
  refine ⟨o.k, o.S, ⟨o.off.1, ?_⟩, hat, fun h => ⟨o.n0.1, o.n1 (by have := o.k; omega)⟩, fun h => ?_, fun h => ?_, fun h => ?_⟩
  · have := o.off.2; have := gp.h.2; omega
  · have hg : (s0.p x.S.toNat).gone = 0 := by have := o.gone; omega
    rw [hp, gm_live hg]; exact gp.r.2
  · rw [hp, gm_s, gm_l, R.c]; exact o.sn h
  · rw [R.smp]; exact ⟨(o.rt h).2, (o.rt h).1, o.n0.2⟩
theorem ok7_of (g : GInv n k T s0) (o : Ok0 n s0 x) (hk : k ≤ 61) (hT : T ≤ x.at_) (hat : 0 ≤ x.at_ ∧ x.at_ ≤ 1000000000000000000) : ok7 n s0 x := by
  have hS : x.S.toNat < n := by have := o.S; omega
  have gp := g.p _ hS
  refine ⟨okP_of g.c hk (by decide) (by omega), okP_of gp hk (by decide) (by omega), g.rtt, o.k, o.S, o.n0, ⟨o.off.1, ?_⟩, hat, gp.fin, ?_, ?_, gp.r.2, gp.s.2, g.c.s.2, o.sn⟩
  · have := o.off.2; have := gp.h.2; omega
  · have := g.c.t.2; omega
  · have := gp.t.2; omega
theorem good_err (g : GInv n k T s0) (R : Rel s1 s0) (o : Ok0 n s0 x) (hk : k ≤ 60) (hT : T ≤ x.at_) (hat : 0 ≤ x.at_ ∧ x.at_ ≤ 1000000000000000000) (hc : codeF s0 x ≠ 0) : Good n (stp 1 s1 x) := by
  have g1 := good_of g R (by omega) (by omega)
  have hS : x.S.toNat < n := by have := o.S; omega
  have hk0 : x.k = 0 := Decidable.byContradiction fun h => hc (code_n h)
  have hg : (s0.p x.S.toNat).gone = 0 := by have := o.gone; omega
  have he : s1.p x.S.toNat = s0.p x.S.toNat := by rw [R.p, gm_live hg]
  have gp := g.p _ hS
  have hset : ∀ y c, okP y → okP c → Good n { s1 with p := s1.set x.S.toNat y, c := c } := fun y c hy hcc =>
    ⟨hcc, fun i hi => by
      show okP (s1.set x.S.toNat y i)
      by_cases h : i = x.S.toNat
      · subst h; rw [set_self]; exact hy
      · rw [set_ne _ h]; exact g1.2.1 i hi, g1.2.2.1, g1.2.2.2⟩
  have off := o.off
  obtain ⟨⟨h0, h1⟩, hw, ⟨r0, r1⟩, w1, ⟨z0, z1⟩, ⟨m0, m1⟩, ⟨t0, t1⟩, ⟨f0, f1⟩, ⟨s0', s1'⟩, l, ⟨b0, b1⟩, fin, gone⟩ := gp
  obtain ⟨⟨ch0, ch1⟩, chw, ⟨cr0, cr1⟩, cw1, ⟨cz0, cz1⟩, ⟨cm0, cm1⟩, ⟨ct0, ct1⟩, ⟨cf0, cf1⟩, ⟨cs0, cs1⟩, cl, ⟨cb0, cb1⟩, cfin, cgone⟩ := g.c
  have come : okP (comeP (s0.p x.S.toNat) x) := by
    have e1 := coT_r (d := x.off - (s0.p x.S.toNat).h) (h := (s0.p x.S.toNat).h) (a := x.at_) ⟨t0, t1⟩ hT
    have e2 := coF_r (d := x.off - (s0.p x.S.toNat).h) (h := (s0.p x.S.toNat).h) ⟨f0, f1⟩
    refine ⟨?_, ⟨r0, ?_⟩, ⟨?_, ?_⟩, ⟨z0, ?_⟩, ⟨m0, ?_⟩, ⟨e1.1, ?_⟩, ⟨e2.1, ?_⟩, ⟨s0', ?_⟩, ⟨?_, l⟩, ⟨b0, b1⟩⟩
    · show 0 ≤ max (s0.p x.S.toNat).h x.off ∧ max (s0.p x.S.toNat).h x.off ≤ 1000000; omega
    · show (s0.p x.S.toNat).r ≤ 1000000; omega
    · show 0 ≤ (s0.p x.S.toNat).w; omega
    · show (s0.p x.S.toNat).w ≤ 1000000; omega
    · show (s0.p x.S.toNat).z ≤ 1000000; omega
    · show (s0.p x.S.toNat).m ≤ 1000000; omega
    · exact Int.le_trans e1.2 hat.2
    · have := e2.2; exact Int.le_trans e2.2 (by omega)
    · show (s0.p x.S.toNat).s ≤ 1000000; omega
    · show 0 ≤ (s0.p x.S.toNat).l; omega
  have comec : okP (comeC s0.c (s0.p x.S.toNat) x) := by
    have e1 := coT_r (d := x.off - (s0.p x.S.toNat).h) (h := s0.c.h) (a := x.at_) ⟨ct0, ct1⟩ hT
    have e2 := coF_r (d := x.off - (s0.p x.S.toNat).h) (h := s0.c.h) ⟨cf0, cf1⟩
    refine ⟨?_, ⟨cr0, ?_⟩, ⟨?_, ?_⟩, ⟨cz0, ?_⟩, ⟨cm0, ?_⟩, ⟨e1.1, ?_⟩, ⟨e2.1, ?_⟩, ⟨cs0, ?_⟩, ⟨?_, cl⟩, ⟨cb0, cb1⟩⟩
    · show 0 ≤ s0.c.h + max 0 (x.off - (s0.p x.S.toNat).h) ∧ s0.c.h + max 0 (x.off - (s0.p x.S.toNat).h) ≤ 1000000; omega
    · show s0.c.r ≤ 1000000; omega
    · show 0 ≤ s0.c.w; omega
    · show s0.c.w ≤ 1000000; omega
    · show s0.c.z ≤ 1000000; omega
    · show s0.c.m ≤ 1000000; omega
    · exact Int.le_trans e1.2 hat.2
    · exact Int.le_trans e2.2 (by omega)
    · show s0.c.s ≤ 1000000; omega
    · show 0 ≤ s0.c.l; omega
  by_cases h1' : e6a (s1.p x.S.toNat) x
  · rw [stp0a hk0 h1']; exact g1
  by_cases h2' : e6b (s1.p x.S.toNat) x
  · rw [stp0b hk0 h1' h2']
    have := g1.2.1 _ hS
    exact hset { s1.p x.S.toNat with fin := 1 } s1.c this g1.1
  by_cases h3' : e3a (s1.p x.S.toNat) x
  · rw [stp0c hk0 h1' h2' h3', he]; exact hset _ s1.c come g1.1
  · rw [stp0d hk0 h1' h2' h3', he, R.c]; exact hset _ _ come comec
def lastT (X : Nat → Int) : Nat → Int
  | 0 => 0
  | j + 1 => (inp X j).at_
structure Run (n : Nat) (s0 : Fs) (X : Nat → Int) (k : Nat) : Prop where
  n3 : n ≤ 3
  init : GInv n 0 0 s0
  live : ∀ i, (s0.p i).gone = 0
  ok : ∀ j, j < k → Ok0 n (runF 0 s0 X j) (inp X j)
  tm : ∀ j, j < k → lastT X j ≤ (inp X j).at_
  tb : ∀ j, j < k → 0 ≤ (inp X j).at_ ∧ (inp X j).at_ ≤ 1000000000000000000
  code : ∀ j, j < k → codeF (runF 0 s0 X j) (inp X j) = 0
variable {X : Nat → Int}
theorem Run.g (h : Run n s0 X k) : ∀ j, j ≤ k → GInv n j (lastT X j) (runF 0 s0 X j)
  | 0, _ => h.init
  | j + 1, hj => ginv_step h.n3 (h.g j (by omega)) (h.ok j hj) (h.tm j hj) (h.code j hj)
theorem Run.rel (h : Run n s0 X k) : ∀ j, j ≤ k → Rel (runF 1 s0 X j) (runF 0 s0 X j)
  | 0, _ => ⟨rfl, fun i => (gm_live (h.live i)).symm, rfl, rfl⟩
  | j + 1, hj => rel_step (h.rel j (by omega)) (h.ok j hj) (h.code j hj)
theorem Run.lt (h : Run n s0 X k) : ∀ j, j ≤ k → lastT X j ≤ 1000000000000000000
  | 0, _ => by show (0 : Int) ≤ _; decide
  | j + 1, hj => (h.tb j hj).2
theorem Run.scr (h : Run n s0 X k) (hk : k ≤ 60) : scrOk n s0 X k := fun j hj =>
  ⟨good_of (h.g j hj) (h.rel j hj) (by omega) (h.lt j hj), fun hl => okIn_of (h.g j hj) (h.rel j hj) (h.ok j hl) (by omega) (h.tb j hl)⟩
theorem Run.scr_err (h : Run n s0 X k) (hk : k < 60) (o : Ok0 n (runF 0 s0 X k) (inp X k)) (hT : lastT X k ≤ (inp X k).at_) (hat : 0 ≤ (inp X k).at_ ∧ (inp X k).at_ ≤ 1000000000000000000) (hc : codeF (runF 0 s0 X k) (inp X k) ≠ 0) : scrOk n s0 X (k + 1) := fun j hj => by
  by_cases hjk : j ≤ k
  · obtain ⟨a, b⟩ := h.scr (by omega) j hjk
    refine ⟨a, fun _ => ?_⟩
    by_cases hl : j < k
    · exact b hl
    · obtain rfl : j = k := by omega
      exact okIn_of (h.g j hjk) (h.rel j hjk) o (by omega) hat
  · obtain rfl : j = k + 1 := by omega
    exact ⟨good_err (h.g k (Nat.le_refl _)) (h.rel k (Nat.le_refl _)) o (by omega) hT hat hc, fun hl => by omega⟩
theorem Run.out (h : Run n s0 X k) {j : Nat} (hj : j < 8 * k) : outF 1 s0 X j = outF 0 s0 X j := by
  have : j / 8 < k := by omega
  exact rel_seen (h.rel _ (by omega)) (h.ok _ this) (h.code _ this) _
theorem Run.out_code (h : Run n s0 X k) (o : Ok0 n (runF 0 s0 X k) (inp X k)) : outF 1 s0 X (8 * k) = outF 0 s0 X (8 * k) := by
  unfold outF
  rw [show 8 * k / 8 = k by omega, show 8 * k % 8 = 0 by omega]
  exact rel_code (h.rel k (Nat.le_refl _)) o
theorem inp_congr {X' : Nat → Int} {j : Nat} (h : ∀ i, i < 6 * (j + 1) → X' i = X i) : inp X' j = inp X j := by
  unfold inp
  rw [h _ (by omega), h _ (by omega), h _ (by omega), h _ (by omega), h _ (by omega), h _ (by omega)]
theorem runF_congr {X' : Nat → Int} {g : Int} : ∀ {j : Nat}, (∀ i, i < 6 * j → X' i = X i) → runF g s0 X' j = runF g s0 X j
  | 0, _ => rfl
  | j + 1, h => by simp only [runF]; rw [runF_congr (j := j) fun i hi => h i (by omega), inp_congr h]
theorem lastT_congr {X' : Nat → Int} : ∀ {j : Nat}, (∀ i, i < 6 * j → X' i = X i) → lastT X' j = lastT X j
  | 0, _ => rfl
  | j + 1, h => by simp only [lastT]; rw [inp_congr h]
theorem Run.congr {X' : Nat → Int} (h : Run n s0 X k) (hX : ∀ i, i < 6 * k → X' i = X i) : Run n s0 X' k := by
  have e1 : ∀ j, j < k → inp X' j = inp X j := fun j hj => inp_congr fun i hi => hX i (by omega)
  have e2 : ∀ j, j ≤ k → runF 0 s0 X' j = runF 0 s0 X j := fun j hj => runF_congr fun i hi => hX i (by omega)
  have e3 : ∀ j, j ≤ k → lastT X' j = lastT X j := fun j hj => lastT_congr fun i hi => hX i (by omega)
  exact ⟨h.n3, h.init, h.live, fun j hj => by rw [e1 j hj, e2 j (by omega)]; exact h.ok j hj, fun j hj => by rw [e1 j hj, e3 j (by omega)]; exact h.tm j hj, fun j hj => by rw [e1 j hj]; exact h.tb j hj, fun j hj => by rw [e1 j hj, e2 j (by omega)]; exact h.code j hj⟩
theorem Run.step (h : Run n s0 X k) (o : Ok0 n (runF 0 s0 X k) (inp X k)) (hT : lastT X k ≤ (inp X k).at_) (hat : 0 ≤ (inp X k).at_ ∧ (inp X k).at_ ≤ 1000000000000000000) (hc : codeF (runF 0 s0 X k) (inp X k) = 0) : Run n s0 X (k + 1) := by
  have sp : ∀ j, j < k + 1 → j < k ∨ j = k := fun j hj => by omega
  exact ⟨h.n3, h.init, h.live, fun j hj => (sp j hj).elim (h.ok j) (fun e => by subst e; exact o), fun j hj => (sp j hj).elim (h.tm j) (fun e => by subst e; exact hT), fun j hj => (sp j hj).elim (h.tb j) (fun e => by subst e; exact hat), fun j hj => (sp j hj).elim (h.code j) (fun e => by subst e; exact hc)⟩
theorem init_ok {c0 c1 c2 : Int} {B : Nat → Int} (h0 : 8 ≤ c0 ∧ c0 ≤ 2048) (h1 : 8 ≤ c1 ∧ c1 ≤ 8192) (h2 : 0 ≤ c2 ∧ c2 ≤ 1020) (hB : ∀ i, i < n → (4 ≤ B (3 * i) ∧ B (3 * i) ≤ 1024) ∧ (4 ≤ B (3 * i + 1) ∧ B (3 * i + 1) ≤ 4096) ∧ (0 ≤ B (3 * i + 2) ∧ B (3 * i + 2) ≤ 1020)) :
    GInv n 0 0 (st0 c0 c1 c2 B) := by
  refine ⟨⟨?_, ?_, ?_, ?_, ?_, ?_, ?_, ?_, ?_, ?_, ?_, ?_, ?_⟩, fun i hi => ?_, fun i _ => rfl, rfl, ⟨(show (1000000 : Int) ≤ 100000000 by decide), (show (100000000 : Int) ≤ 260000000 by decide)⟩⟩
  all_goals try (simp only [st0]; omega)
  obtain ⟨b0, b1, b2⟩ := hB i hi
  refine ⟨?_, ?_, ?_, ?_, ?_, ?_, ?_, ?_, ?_, ?_, ?_, ?_, ?_⟩ <;> (simp only [st0]; omega)
end Go.Proofs.YtpjifimjoinnnaaDoor
