/- Queues: slices of the call's own that may begin anywhere in their block; each entry is told by one number (and one that they all share). Rules: length, addresses, loads, appending one, leaving out the first one, making an empty one. -/
import Derived.Test.YtgianhjmjiiadaaSyRd
import Derived.Deep.Upon
import Derived.Laws.MakeOwn
set_option autoImplicit true
set_option relaxedAutoImplicit true
set_option linter.unusedVariables false
set_option linter.unusedSimpArgs false
namespace Go.Sy
open Go
variable {E E2 : Env} {β : Nat → Bk} {P : Program} {w : World}
structure QuP where
  T : TypeId
  S : Nat
  ent : SE → SE → List SV
  ks : List SK
  entP : List SV
  preP : Fx
def QuP.blk (q : QuP) : SBlk := .row (.v 7) q.ks (.c 0) q.entP q.T
def E00 : Env := { i := fun _ => 0, b := fun _ => false, a := fun _ _ => 0, o := fun _ => .nilIface, fn := { f := fun k l => fbase k l, g := fun k l => gbase k l, a := fun _ _ _ => 0, fb := fun _ _ _ => rfl, gb := fun _ _ _ => rfl } }
def QuP.val (q : QuP) (s l : Int) : List Value := SV.denL E00 (fun _ => nilBk) (q.ent (.c s) (.c l))
structure QuGood (q : QuP) : Prop where
  S0 : 0 < q.S
  ksl : q.ks.length = q.S
  epl : q.entP.length = q.S
  len : ∀ s l, (q.ent s l).length = q.S
  cell : ∀ s l, ∀ u ∈ q.ent s l, u.isCell = true
  ext : ∀ (E E' : Env) (β β' : Nat → Bk) (s s' l l' : SE), s.den E = s'.den E' → l.den E = l'.den E' → SV.denL E β (q.ent s l) = SV.denL E' β' (q.ent s' l')
  pat : ∀ (E : Env) (β : Nat → Bk), Facts E q.preP → SV.denL E β q.entP = SV.denL E β (q.ent (.v 1) (.v 9))
def QuAt (q : QuP) (w : World) (g off n c : Nat) (len : Int) (A : Nat → Int) : Prop :=
  n ≤ c ∧ c ≤ maxLen ∧ (w.heap[g]?).isSome = true ∧ (∀ j, j < c * q.S → (w.cell? ⟨g, off + j, none⟩).isSome = true ∧ w.frozen? ⟨g, off + j, none⟩ = false) ∧ ∀ i j, i < n → j < q.S → w.cell? ⟨g, off + (i * q.S + j), none⟩ = (q.val (A i) len)[j]?
def QuIs (q : QuP) (n : Nat) (len : Int) (A : Nat → Int) (v : Value) (w : World) : Prop :=
  (v = .slice none 0 0 ∧ n = 0) ∨ ∃ g off c, v = .slice (some ⟨g, off, none⟩) n c ∧ QuAt q w g off n c len A
theorem QuAt.frame {q : QuP} {w w' : World} {g off n c : Nat} {len : Int} {A : Nat → Int} (h : QuAt q w g off n c len A) (hs : w'.heap[g]? = w.heap[g]?) : QuAt q w' g off n c len A := by
  obtain ⟨h1, h2, h3, h4, h5⟩ := h
  refine ⟨h1, h2, by rw [hs]; exact h3, fun j hj => ?_, fun i j hi hj => ?_⟩
  · rw [World.cell?_of_block (a := ⟨g, off + j, none⟩) hs, World.frozen?_of_block (a := ⟨g, off + j, none⟩) hs]; exact h4 j hj
  · rw [World.cell?_of_block (a := ⟨g, off + (i * q.S + j), none⟩) hs]; exact h5 i j hi hj
theorem QuIs.frame {q : QuP} {n : Nat} {len : Int} {A : Nat → Int} {v : Value} {w w' : World} (h : QuIs q n len A v w) (hs : ∀ x, v.ownBlock = some x → w'.heap[x]? = w.heap[x]?) : QuIs q n len A v w' := by
  rcases h with h | ⟨g, off, c, rfl, h⟩
  · exact .inl h
  · exact .inr ⟨g, off, c, rfl, h.frame (hs g rfl)⟩
structure QuOk (fns : Fns) (k : Nat) (q : QuP) : Prop where
  p : ∀ n l A a v w, fns.p k [.i n, .i l, .a A] a v w ↔ QuIs q n.toNat l A v w
  ft : ∀ n l A a v x, fns.ft k [.i n, .i l, .a A] a v x ↔ v.ownBlock = some x
  good : QuGood q
theorem setCells_size (b : Nat) : ∀ (vs : List Value) (o : Nat) (w : World), (w.setCells b o vs).heap.size = w.heap.size
  | [], _, _ => rfl
  | v :: r, o, w => by rw [World.setCells, setCells_size b r]; simp [World.setCell]
theorem setCells_some (b : Nat) (vs : List Value) (o : Nat) (w : World) (h : ∀ j, j < vs.length → (w.cell? ⟨b, o + j, none⟩).isSome = true) (k : Nat) (hk : (w.cell? ⟨b, k, none⟩).isSome = true) : ((w.setCells b o vs).cell? ⟨b, k, none⟩).isSome = true := by
  by_cases hin : o ≤ k ∧ k < o + vs.length
  · have := World.cell?_setCells_in b vs o w h (k - o) (by omega)
    rw [show o + (k - o) = k by omega] at this
    rw [this]; rfl
  · rw [World.cell?_setCells_out b vs o w ⟨b, k, none⟩ (fun _ _ => by show k < o ∨ o + vs.length ≤ k; omega)]
    exact hk
theorem tape_setCells (b : Nat) : ∀ (vs : List Value) (o : Nat) (w : World), (w.setCells b o vs).tape = w.tape
  | [], _, _ => rfl
  | v :: r, o, w => by rw [World.setCells, tape_setCells b r]; rfl
end Go.Sy
