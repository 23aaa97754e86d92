/- The ids that a peer issues, in plain numbers: a queue, what is put in, what is left out, and what a step does. -/
import Derived.Test.YtjanndmmhjnpcaaDoorSyQu
set_option autoImplicit true
set_option relaxedAutoImplicit true
set_option linter.unusedVariables false
set_option linter.unusedSimpArgs false
namespace Go.Proofs.YtjanndmmhjnpcaaDoor
open Go Go.Sy
def lst (A : Nat → Int) (n : Nat) : List Int := (List.range n).map A
def arr (l : List Int) (j : Nat) : Int := l.getD j 0
def insA (A : Nat → Int) (n i : Nat) (s : Int) (j : Nat) : Int := if j < i then A j else if j = i then s else if j ≤ n then A (j - 1) else 0
def kx (A : Nat → Int) (s : Int) : Nat → Nat
  | 0 => 0
  | n + 1 => if A 0 < s then kx (fun j => A (j + 1)) s n + 1 else 0
def hasA (A : Nat → Int) (n : Nat) (s : Int) : Bool := decide (kx A s n < n ∧ A (kx A s n) = s)
def putN (A : Nat → Int) (n : Nat) (s : Int) : Nat := if hasA A n s then n else n + 1
def putA (A : Nat → Int) (n : Nat) (s : Int) : Nat → Int := if hasA A n s then A else insA A n (kx A s n) s
def keep (A : Nat → Int) (n : Nat) (p : Int) : List Int := (lst A n).filter fun x => decide (p ≤ x)
def gone (A : Nat → Int) (n : Nat) (p : Int) : List Int := (lst A n).filter fun x => decide (x < p)
def Srt (A : Nat → Int) (n : Nat) : Prop := (∀ j, j < n → 0 ≤ A j ∧ A j ≤ 255) ∧ ∀ i j, i < j → j < n → A i < A j
theorem kx_le (A : Nat → Int) (s : Int) : ∀ n, kx A s n ≤ n
  | 0 => Nat.le_refl _
  | n + 1 => by
    unfold kx
    split
    · have := kx_le (fun j => A (j + 1)) s n; omega
    · omega
theorem kx_lt (A : Nat → Int) (s : Int) : ∀ n j, j < kx A s n → A j < s
  | 0, j, h => by unfold kx at h; omega
  | n + 1, 0, h => by
    unfold kx at h
    split at h
    · assumption
    · omega
  | n + 1, j + 1, h => by
    unfold kx at h
    split at h
    · exact kx_lt (fun j => A (j + 1)) s n j (by omega)
    · omega
theorem kx_ge (A : Nat → Int) (s : Int) : ∀ n, kx A s n < n → s ≤ A (kx A s n)
  | 0, h => by omega
  | n + 1, h => by
    unfold kx at h ⊢
    split
    · rename_i h0
      rw [if_pos h0] at h
      exact kx_ge (fun j => A (j + 1)) s n (by omega)
    · omega
theorem kx_eq {A : Nat → Int} {s : Int} {n i : Nat} (hi : i ≤ n) (h1 : ∀ j, j < i → A j < s) (h2 : i < n → s ≤ A i) : kx A s n = i := by
  rcases Nat.lt_trichotomy (kx A s n) i with h | h | h
  · have := h1 _ h
    have := kx_ge A s n (by omega)
    omega
  · exact h
  · have := kx_lt A s n i h
    have := kx_le A s n
    have := h2 (by omega)
    omega
theorem kx_step {A : Nat → Int} {s : Int} {n i : Nat} (hi : i ≤ kx A s n) (hin : i < n) (h : A i < s) : i + 1 ≤ kx A s n := by
  rcases Nat.lt_or_ge i (kx A s n) with h1 | h1
  · exact h1
  · have e : kx A s n = i := by omega
    have := kx_ge A s n (by omega)
    rw [e] at this
    omega
theorem kx_at {A : Nat → Int} {s : Int} {n i : Nat} (hi : i ≤ kx A s n) (hin : i < n) (h : s ≤ A i) : kx A s n = i := by
  rcases Nat.lt_or_ge i (kx A s n) with h1 | h1
  · have := kx_lt A s n i h1
    omega
  · omega
def putL (q : List Int) (s : Int) : List Int := lst (putA (arr q) q.length s) (putN (arr q) q.length s)
def adT (act hi s : Int) : Bool := decide (s < act ∨ s < hi)
def kq (q : List Int) (p : Int) : List Int := q.filter fun x => decide (p ≤ x)
def gq (q : List Int) (p : Int) : List Int := q.filter fun x => decide (x < p)
def adU (act hi s p : Int) : Bool := !adT act hi s && decide (s ≠ act ∧ act < p)
def adP (q : List Int) (act s p : Int) : List Int := if s = act then kq q p else putL (kq q p) s
def adQ (q : List Int) (act hi s p : Int) : List Int := if adT act hi s then q else if adU act hi s p then (adP q act s p).tail else adP q act s p
def adA (q : List Int) (act hi s p : Int) : Int := if adU act hi s p then (adP q act s p).headD 0 else act
def adH (act hi s p : Int) : Int := if adT act hi s then hi else if adU act hi s p then max (max hi p) act else max hi p
def adR (q : List Int) (act hi s p : Int) : List Int := if adT act hi s then [s] else if adU act hi s p then gq q p ++ [act] else gq q p
def shd (n : Nat) (act pk per : Int) (comp : Bool) : Bool := comp && (decide (0 < n ∧ act = 0) || decide (4 ≤ 2 * n ∧ per ≤ pk))
def QOk (A : Nat → Int) (n : Nat) (act hi : Int) : Prop := Srt A n ∧ A = arr (lst A n) ∧ hi ≤ act ∧ ∀ j, j < n → act < A j ∧ hi ≤ A j
end Go.Proofs.YtjanndmmhjnpcaaDoor
