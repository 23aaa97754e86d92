/- The play of flow control, in plain numbers. -/
import Derived.Test.YtpjifimjoinnnaaDoorFcN
set_option autoImplicit true
set_option relaxedAutoImplicit true
set_option linter.unusedVariables false
set_option linter.unusedSimpArgs false
namespace Go.Proofs.YtpjifimjoinnnaaDoor
open Go Go.Sy
@[ext] structure P1 where
  (h r w z m t f s l b fin gone : Int)
@[ext] structure Fs where
  c : P1
  p : Nat → P1
  rtt : Int
  smp : Int
def P1.get (x : P1) : Nat → Int
  | 0 => x.h | 1 => x.r | 2 => x.w | 3 => x.z | 4 => x.m | 5 => x.t | 6 => x.f | 7 => x.s | 8 => x.l | 9 => x.b | 10 => x.fin | _ => x.gone
def toP (a : Nat → Int) (i : Nat) : P1 := ⟨a (12 * i), a (12 * i + 1), a (12 * i + 2), a (12 * i + 3), a (12 * i + 4), a (12 * i + 5), a (12 * i + 6), a (12 * i + 7), a (12 * i + 8), a (12 * i + 9), a (12 * i + 10), a (12 * i + 11)⟩
def Fs.set (s : Fs) (i : Nat) (x : P1) : Nat → P1 := fun j => if j = i then x else s.p j
structure Stp1 where
  (k S n off at_ fin : Int)
def e6a (p : P1) (x : Stp1) : Prop := p.fin ≠ 0 ∧ ((x.fin ≠ 0 ∧ x.off ≠ p.h) ∨ p.h < x.off)
def e6b (p : P1) (x : Stp1) : Prop := x.fin ≠ 0 ∧ x.off < p.h
def e3a (p : P1) (x : Stp1) : Prop := p.h < x.off ∧ p.w < x.off
def e3b (c p : P1) (x : Stp1) : Prop := p.h < x.off ∧ c.w < c.h + (x.off - p.h)
instance (p : P1) (x : Stp1) : Decidable (e6a p x) := by unfold e6a; infer_instance
instance (p : P1) (x : Stp1) : Decidable (e6b p x) := by unfold e6b; infer_instance
instance (p : P1) (x : Stp1) : Decidable (e3a p x) := by unfold e3a; infer_instance
instance (c p : P1) (x : Stp1) : Decidable (e3b c p x) := by unfold e3b; infer_instance
def codeF (s : Fs) (x : Stp1) : Int :=
  if x.k = 0 then (if e6a (s.p x.S.toNat) x ∨ e6b (s.p x.S.toNat) x then 6 else if e3a (s.p x.S.toNat) x ∨ e3b s.c (s.p x.S.toNat) x then 3 else 0) else 0
def comeP (p : P1) (x : Stp1) : P1 := { p with h := max p.h x.off, t := coT (x.off - p.h) p.h p.t x.at_, f := coF (x.off - p.h) p.h p.f p.r, fin := if p.fin ≠ 0 ∨ x.fin ≠ 0 then 1 else 0 }
def comeC (c p : P1) (x : Stp1) : P1 := { c with h := c.h + max 0 (x.off - p.h), t := coT (x.off - p.h) c.h c.t x.at_, f := coF (x.off - p.h) c.h c.f c.r }
def upP (p : P1) (rtt at_ : Int) : P1 := { p with w := upW at_ rtt p.r p.w p.z p.m p.t p.f, z := upZ at_ rtt p.r p.w p.z p.m p.t p.f, t := upT at_ p.r p.w p.z p.t p.f, f := upF p.r p.w p.z p.f }
def enP (c p : P1) (rtt at_ : Int) : P1 := { c with z := enZ (upP p rtt at_).z p.z c.z c.m, t := enT (upP p rtt at_).z p.z c.z c.t at_, f := enF (upP p rtt at_).z p.z c.z c.f c.r }
def newB (p : P1) : Prop := ¬ p.s < p.l ∧ p.l ≠ p.b
instance (p : P1) : Decidable (newB p) := by unfold newB; infer_instance
def blkP (p : P1) : P1 := { p with b := if p.s < p.l then p.b else p.l }
def stp (g : Int) (s : Fs) (x : Stp1) : Fs :=
  let p := s.p x.S.toNat
  if x.k = 0 then
    if e6a p x then s
    else if e6b p x then (if g = 1 then { s with p := s.set x.S.toNat { p with fin := 1 } } else s)
    else if e3a p x then { s with p := s.set x.S.toNat (comeP p x) }
    else { s with p := s.set x.S.toNat (comeP p x), c := comeC s.c p x }
  else if x.k = 1 then { s with p := s.set x.S.toNat { p with r := p.r + x.n }, c := { s.c with r := s.c.r + x.n } }
  else if x.k = 2 then { s with p := s.set x.S.toNat (if g = 1 then { p with r := p.h } else { p with gone := 1 }), c := { s.c with r := s.c.r + (p.h - p.r) } }
  else if x.k = 3 then (if p.fin ≠ 0 then s else { s with p := s.set x.S.toNat (upP p s.rtt x.at_), c := enP s.c p s.rtt x.at_ })
  else if x.k = 4 then { s with c := upP s.c s.rtt x.at_ }
  else if x.k = 5 then { s with p := s.set x.S.toNat { p with l := max p.l x.n } }
  else if x.k = 6 then { s with c := { s.c with l := max s.c.l x.n } }
  else if x.k = 7 then { s with p := s.set x.S.toNat { p with s := p.s + x.n }, c := { s.c with s := s.c.s + x.n } }
  else if x.k = 9 then { s with p := s.set x.S.toNat (blkP p) }
  else if x.k = 10 then { s with c := blkP s.c }
  else if x.k = 11 then { s with rtt := x.n, smp := 1 }
  else s
def numF (s : Fs) (x : Stp1) : Int :=
  let p := s.p x.S.toNat
  if x.k = 3 then (if p.fin ≠ 0 then 0 else upO x.at_ s.rtt p.r p.w p.z p.m p.t p.f)
  else if x.k = 4 then upO x.at_ s.rtt s.c.r s.c.w s.c.z s.c.m s.c.t s.c.f
  else if x.k = 8 then min (p.l - p.s) (s.c.l - s.c.s)
  else if x.k = 10 then (if newB s.c then s.c.l else 0)
  else 0
def isF (s : Fs) (x : Stp1) : Prop :=
  (x.k = 1 ∧ (s.p x.S.toNat).fin = 0 ∧ duE (s.p x.S.toNat).w ((s.p x.S.toNat).r + x.n) (s.p x.S.toNat).z) ∨ (x.k = 5 ∧ (s.p x.S.toNat).l < x.n) ∨ (x.k = 6 ∧ s.c.l < x.n) ∨ x.k = 7 ∨ (x.k = 9 ∧ newB (s.p x.S.toNat)) ∨ (x.k = 10 ∧ newB s.c)
def alsoF (s : Fs) (x : Stp1) : Prop := x.k = 1 ∧ duE s.c.w (s.c.r + x.n) s.c.z
instance (s : Fs) (x : Stp1) : Decidable (isF s x) := by unfold isF; infer_instance
instance (s : Fs) (x : Stp1) : Decidable (alsoF s x) := by unfold alsoF; infer_instance
def seenF (g : Int) (s : Fs) (x : Stp1) : Nat → Int
  | 0 => codeF s x
  | 1 => numF s x
  | 2 => if isF s x then 1 else 0
  | 3 => if alsoF s x then 1 else 0
  | 4 => ((stp g s x).p x.S.toNat).w
  | 5 => ((stp g s x).p x.S.toNat).z
  | 6 => (stp g s x).c.w
  | _ => (stp g s x).c.z
def inp (X : Nat → Int) (k : Nat) : Stp1 := ⟨X (6 * k), X (6 * k + 1), X (6 * k + 2), X (6 * k + 3), X (6 * k + 4), X (6 * k + 5)⟩
def st0 (c0 c1 c2 : Int) (B : Nat → Int) : Fs := ⟨⟨0, 0, c0, c0, c1, 0, 0, 0, max 0 c2, 0, 0, 0⟩, fun i => ⟨0, 0, B (3 * i), B (3 * i), B (3 * i + 1), 0, 0, 0, B (3 * i + 2), 0, 0, 0⟩, 100000000, 0⟩
def runF (g : Int) (s0 : Fs) (X : Nat → Int) : Nat → Fs
  | 0 => s0
  | k + 1 => stp g (runF g s0 X k) (inp X k)
def outF (g : Int) (s0 : Fs) (X : Nat → Int) : Nat → Int := fun o => seenF g (runF g s0 X (o / 8)) (inp X (o / 8)) (o % 8)
def okP (p : P1) : Prop := (0 ≤ p.h ∧ p.h ≤ 1000000) ∧ (0 ≤ p.r ∧ p.r ≤ 1000000) ∧ (0 ≤ p.w ∧ p.w ≤ 1000000) ∧ (2 ≤ p.z ∧ p.z ≤ 1000000) ∧ (2 ≤ p.m ∧ p.m ≤ 1000000) ∧ (0 ≤ p.t ∧ p.t ≤ 1000000000000000000) ∧ (0 ≤ p.f ∧ p.f ≤ 1000000) ∧ (0 ≤ p.s ∧ p.s ≤ 1000000) ∧ (0 ≤ p.l ∧ p.l ≤ 1000000) ∧ (0 ≤ p.b ∧ p.b ≤ 1000000)
def goodA (a : Nat → Int) (n : Nat) : Prop := ∀ i, i < n → okP (toP a i) ∧ (toP a i).h ≤ 500000 ∧ (toP a i).r ≤ (toP a i).h ∧ (toP a i).s ≤ (toP a i).l ∧ (0 ≤ (toP a i).fin ∧ (toP a i).fin ≤ 1) ∧ (0 ≤ (toP a i).gone ∧ (toP a i).gone ≤ 1)
def Good (n : Nat) (s : Fs) : Prop := okP s.c ∧ (∀ i, i < n → okP (s.p i)) ∧ 1000000 ≤ s.rtt ∧ s.rtt ≤ 260000000
def okIn (n : Nat) (s : Fs) (x : Stp1) : Prop := (0 ≤ x.k ∧ x.k ≤ 11) ∧ (0 ≤ x.S ∧ x.S < n) ∧ (0 ≤ x.off ∧ x.off ≤ 1000000) ∧ (0 ≤ x.at_ ∧ x.at_ ≤ 1000000000000000000) ∧ (x.k ≠ 11 → 0 ≤ x.n ∧ x.n ≤ 1000000) ∧ (x.k = 2 → (s.p x.S.toNat).r ≤ (s.p x.S.toNat).h) ∧
  (x.k = 7 → (s.p x.S.toNat).s + x.n ≤ (s.p x.S.toNat).l ∧ s.c.s + x.n ≤ s.c.l) ∧ (x.k = 11 → s.smp = 0 ∧ 1000000 ≤ x.n ∧ x.n ≤ 260000000)
def scrOk (n : Nat) (s0 : Fs) (X : Nat → Int) (len : Nat) : Prop := ∀ k, k ≤ len → Good n (runF 1 s0 X k) ∧ (k < len → okIn n (runF 1 s0 X k) (inp X k))
def ok7 (m : Nat) (s : Fs) (x : Stp1) : Prop := okP s.c ∧ okP (s.p x.S.toNat) ∧ (1000000 ≤ s.rtt ∧ s.rtt ≤ 260000000) ∧ (0 ≤ x.k ∧ x.k ≤ 11) ∧ (0 ≤ x.S ∧ x.S < m) ∧ (0 ≤ x.n ∧ x.n ≤ 260000000) ∧ (0 ≤ x.off ∧ x.off ≤ 1000000) ∧ (0 ≤ x.at_ ∧ x.at_ ≤ 1000000000000000000) ∧
  (0 ≤ (s.p x.S.toNat).fin ∧ (s.p x.S.toNat).fin ≤ 1) ∧ s.c.t ≤ x.at_ ∧ (s.p x.S.toNat).t ≤ x.at_ ∧ (s.p x.S.toNat).r ≤ (s.p x.S.toNat).h ∧ (s.p x.S.toNat).s ≤ (s.p x.S.toNat).l ∧ s.c.s ≤ s.c.l ∧ (x.k = 7 → (s.p x.S.toNat).s + x.n ≤ (s.p x.S.toNat).l ∧ s.c.s + x.n ≤ s.c.l)
end Go.Proofs.YtpjifimjoinnnaaDoor
