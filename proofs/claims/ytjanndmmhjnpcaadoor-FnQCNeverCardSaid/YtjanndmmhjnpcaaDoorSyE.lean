/- Struct and array values, indexes, slices, assertions; then all pure operations in one. -/
import Derived.Test.YtjanndmmhjnpcaaDoorSyD
set_option autoImplicit true
set_option relaxedAutoImplicit true
set_option linter.unusedVariables false
set_option linter.unusedSimpArgs false
namespace Go.Sy
open Go
variable {E : Env} {β : Nat → Bk} {P : Program} {w : World}
def SV.cells : SV → Option (List SV)
  | .agg l => some l
  | .opq _ => none
  | .q _ _ => none
  | v => some [v]
theorem cells_ok {v : SV} {l : List SV} (h : v.cells = some l) : (v.den E β).cells = (SV.denL E β l).toArray := by
  cases v <;> simp [SV.cells] at h <;> subst h <;> simp [SV.den, SV.denL, Value.cells]
  case own b => cases hz : (β b).z <;> simp [Bk.v, hz]
  case pa e o => by_cases h : 0 ≤ e.den E <;> simp [h]
  case sa e o l c => by_cases h : 0 ≤ e.den E <;> simp [h]
theorem denL_length (l : List SV) : (SV.denL E β l).length = l.length := by rw [SV.denL_map]; simp
theorem denL_set (l : List SV) (i : Nat) (v : SV) : SV.denL E β (l.set i v) = (SV.denL E β l).set i (v.den E β) := by
  rw [SV.denL_map, SV.denL_map, List.map_set]
def putAll (off : Nat) : List SV → Nat → List SV → List SV
  | cs, _, [] => cs
  | cs, j, v :: r => putAll off (cs.set (off + j) v) (j + 1) r
theorem putAll_ok (off : Nat) : ∀ (vs cs : List SV) (j : Nat),
    ((SV.denL E β vs).zipIdx j).foldl (fun (a : Array Value) (x : Value × Nat) => a.setIfInBounds (off + x.2) x.1) (SV.denL E β cs).toArray = (SV.denL E β (putAll off cs j vs)).toArray
  | [], cs, j => by simp [SV.denL, putAll]
  | v :: r, cs, j => by
    simp only [SV.denL, List.zipIdx_cons, List.foldl_cons, putAll]
    rw [← putAll_ok off r (cs.set (off + j) v) (j + 1), denL_set]
    simp
theorem putAll_length (off : Nat) : ∀ (vs cs : List SV) (j : Nat), (putAll off cs j vs).length = cs.length
  | [], cs, j => rfl
  | v :: r, cs, j => by simp [putAll, putAll_length off r]
def sFill (place : Nat → Option (Nat × Nat)) (cells : List SV) : List (Nat × SV) → Option (List SV)
  | [] => some cells
  | (i, v) :: rest =>
    match place i, v.cells with
    | some (off, size), some l => if l.length ≠ size ∨ cells.length < off + l.length then none else sFill place (putAll off cells 0 l) rest
    | _, _ => none
theorem sFill_ok {place : Nat → Option (Nat × Nat)} : ∀ {parts : List (Nat × SV)} {cells out : List SV}, sFill place cells parts = some out →
    Instr.fill place (SV.denL E β cells).toArray (parts.map fun p => (p.1, p.2.den E β)) = some (SV.denL E β out).toArray
  | [], cells, out, h => by simp [sFill] at h; subst h; rfl
  | (i, v) :: rest, cells, out, h => by
    simp only [sFill] at h
    split at h
    · rename_i off size l hp hl
      split at h
      · cases h
      · rename_i hc
        have hc' : l.length = size ∧ off + l.length ≤ cells.length := by omega
        simp only [List.map_cons, Instr.fill, hp, cells_ok hl]
        have h1 : ¬ ((decide ((SV.denL E β l).toArray.size ≠ size) || decide (off + (SV.denL E β l).toArray.size > (SV.denL E β cells).toArray.size)) = true) := by
          simp only [List.size_toArray, denL_length, Bool.or_eq_true, decide_eq_true_eq]; omega
        rw [if_neg h1]
        have h2 : Array.foldl (fun (cs : Array Value) (x : Value × Nat) => match x with | (c, j) => cs.setIfInBounds (off + j) c) (SV.denL E β cells).toArray (SV.denL E β l).toArray.zipIdx = (SV.denL E β (putAll off cells 0 l)).toArray := by
          rw [← putAll_ok, ← Array.foldl_toList]
          simp
        rw [h2]
        exact sFill_ok h
    · cases h
def sZero (P : Program) (T : TypeId) : Option (List SV) :=
  match P.info? T with
  | some i => match i.zero with
    | some z => liftL z.cells.toList
    | none => none
  | none => none
theorem sZero_ok {T : TypeId} {l : List SV} (h : sZero P T = some l) : ∃ z, (zeroValue T).run P w = .ok z w ∧ z.cells = (SV.denL E β l).toArray := by
  unfold sZero at h
  split at h
  · rename_i i hi
    split at h
    · rename_i z hz
      exact ⟨z, by simp [zeroValue, typeInfo, hi, hz], by rw [liftL_ok h]⟩
    · cases h
  · cases h
def sPlaces (P : Program) (fs : List Field) : Option (List (Nat × Nat)) :=
  match fs with
  | [] => some []
  | f :: r => match sizeT P f.type, sPlaces P r with
    | some n, some l => some ((f.offset, n) :: l)
    | _, _ => none
theorem sPlaces_ok : ∀ {fs : List Field} {l : List (Nat × Nat)}, sPlaces P fs = some l →
    (List.mapM (fun (f : Field) => (do pure (f.offset, ← sizeOf f.type) : Sem (Nat × Nat))) fs).run P w = .ok l w
  | [], l, h => by simp [sPlaces] at h; subst h; simp
  | f :: r, l, h => by
    simp only [sPlaces] at h
    split at h
    · rename_i n t hn ht
      cases h
      rw [List.mapM_cons]
      have ih := sPlaces_ok ht
      simp only [bind_pure_comp] at ih
      simp [sizeT_ok hn, ih]
    · cases h
def evParts (gm : Gm) (tmps : Tm) : List (Nat × Operand) → Option (List (Nat × SV))
  | [] => some []
  | (i, x) :: r => match ev gm tmps x, evParts gm tmps r with
    | some v, some l => some ((i, v) :: l)
    | _, _ => none
theorem evParts_ok {gm : Gm} (hg : gm.ok β) {tmps : Tm} {ds : List Deferred} : ∀ {ps : List (Nat × Operand)} {l : List (Nat × SV)}, evParts gm tmps ps = some l →
    ps.map (fun p => (p.1, (actD E β tmps ds).eval p.2)) = l.map fun p => (p.1, p.2.den E β)
  | [], l, h => by simp [evParts] at h; subst h; rfl
  | (i, x) :: r, l, h => by
    simp only [evParts] at h
    split at h
    · rename_i v t hv ht
      cases h
      simp only [List.map_cons, ev_ok hg hv, evParts_ok hg ht]
    · cases h
def sBuild (P : Program) (T : TypeId) (parts : List (Nat × SV)) : RP :=
  match P.underlying T, sZero P T with
  | some (.struct fs), some z => match sPlaces P fs.toList with
    | some pl => match sFill (pl[·]?) z parts with
      | some out => .val (.agg out)
      | none => .no
    | none => .no
  | some (.array _ e), some z => match sizeT P e with
    | some n => match sFill (fun i => some (i * n, n)) z parts with
      | some out => .val (.agg out)
      | none => .no
    | none => .no
  | _, _ => .no
theorem sBuild_ok {T : TypeId} {parts : List (Nat × SV)} {v : SV} (hr : sBuild P T parts = .val v) {ps : Array (Nat × Value)} (hp : ps.toList = parts.map fun p => (p.1, p.2.den E β)) :
    (Instr.build T ps).run P w = .ok (v.den E β) w := by
  unfold sBuild at hr
  split at hr
  · rename_i fs z hd hz
    split at hr
    · rename_i pl hpl
      split at hr
      · rename_i out hout
        cases hr
        obtain ⟨zv, hz1, hz2⟩ := sZero_ok (E := E) (β := β) (w := w) hz
        have hm : (Array.mapM (fun (f : Field) => (do pure (f.offset, ← sizeOf f.type) : Sem (Nat × Nat))) fs).run P w = .ok pl.toArray w := by
          rw [Array.mapM_eq_mapM_toList, Sem.run_map, sPlaces_ok hpl]; rfl
        simp only [Instr.build, Sem.run_bind, hz1, Result.andThen_ok, underlying, run_program, hd, Sem.run_pure]
        rw [hm]
        simp only [Result.andThen_ok, hz2, hp]
        have hpl' : (fun (x : Nat) => pl.toArray[x]?) = (fun x => pl[x]?) := by funext x; simp
        rw [hpl', sFill_ok hout]
        rfl
      · cases hr
    · cases hr
  · rename_i n e z hd hz
    split at hr
    · rename_i sz hsz
      split at hr
      · rename_i out hout
        cases hr
        obtain ⟨zv, hz1, hz2⟩ := sZero_ok (E := E) (β := β) (w := w) hz
        simp only [Instr.build, Sem.run_bind, hz1, Result.andThen_ok, underlying, run_program, hd, Sem.run_pure, sizeT_ok hsz, hz2, hp]
        rw [sFill_ok hout]
        rfl
      · cases hr
    · cases hr
  · cases hr
end Go.Sy
