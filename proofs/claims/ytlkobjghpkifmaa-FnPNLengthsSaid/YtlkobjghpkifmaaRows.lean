/-
  No cell of these rows narrows 'for every input' (looked for: loops, veiled, ifaces, maps, wideKeys, modest, calm, conditions, laid).
  DERIVED. THE GIVEN ROWS OF THIS SEAT. 2 by the template 'for every input the law returns true; each argument reads behind the call as it read before'; 0 by the template 'total and deterministic' (their statements: YtlkobjghpkifmaaTotals.lean).
  GIVEN WITH THE SEED: the statements are not yours to turn. If you find one false, say at which input.
  Laid BY PROGRAM, IN A SANDBOX (cutbox-rows.mjs): the forced cells as the released guide's own fill.sh prints them over the translation cba74d3aaba9adc4… (all of the seat's roots in one cut). By AI agents, Wed Nov 11 2026. No macro, syntax, notation, axiom, sorry.
-/
import Derived.Test.YtlkobjghpkifmaaChecked
import GoSem.Claim
import GoSem.ClaimJoined
import GoSem.ClaimMapViews
import Derived.JoinedTies
import Derived.KernelRfl
namespace Go.Proofs.Ytlkobjghpkifmaa
/- THE CELL 'sum', in the pinned program and in every row, IS THE sha256 OF THE DUMP (.gsa) THAT YtlkobjghpkifmaaProg.lean LOADS. Nothing in Lean hashes anything: it is a label: what it is worth is what the hold of that sum in a sandbox is worth. -/
noncomputable def Try.pinned : Pinned := { name := "ytlkobjghpkifmaa", sum := "cba74d3aaba9adc45229a0c22ac5ba23be34d8c517216aed218acd3a23ff3af5", checked := Try.checked }
namespace Rows
def none {H : Type} : Left H := { results := [], args := [] }

/-- 'laws.FnPNDecodes': WHATEVER THE INPUT: true; the input reads as it did. -/
def fnPNDecodesSpec : ChangeSpec := { name := "fnPNDecodes", fn := fun _ => fun
  | [d1, d2, d3] => { results := [.lit (.bool true)], args := [d1, d2, d3] }
  | _ => none }
def fnPNDecodesRow : OpenClaim := { program := "ytlkobjghpkifmaa", sum := "cba74d3aaba9adc45229a0c22ac5ba23be34d8c517216aed218acd3a23ff3af5", func := "given.example/pub-heaveline/laws.FnPNDecodes", spec := "fnPNDecodes", apart := false }
def FnPNDecodesSaid : Prop := fnPNDecodesRow.holds Try.pinned (OpenSpec.ofChange fnPNDecodesSpec)

/-- ITS FALSE NEIGHBOUR: 'it returns false'. Refute it at one input. -/
def fnPNDecodesWrong : ChangeSpec := { name := "fnPNDecodes", fn := fun _ => fun
  | [d1, d2, d3] => { results := [.lit (.bool false)], args := [d1, d2, d3] }
  | _ => none }
def FnPNDecodesWrongFalsely : Prop := fnPNDecodesRow.holds Try.pinned (OpenSpec.ofChange fnPNDecodesWrong)

/-- 'laws.FnPNLengths': WHATEVER THE INPUT: true; the input reads as it did. -/
def fnPNLengthsSpec : ChangeSpec := { name := "fnPNLengths", fn := fun _ => fun
  | [d1, d2, d3, d4] => { results := [.lit (.bool true)], args := [d1, d2, d3, d4] }
  | _ => none }
def fnPNLengthsRow : OpenClaim := { program := "ytlkobjghpkifmaa", sum := "cba74d3aaba9adc45229a0c22ac5ba23be34d8c517216aed218acd3a23ff3af5", func := "given.example/pub-heaveline/laws.FnPNLengths", spec := "fnPNLengths", apart := false }
def FnPNLengthsSaid : Prop := fnPNLengthsRow.holds Try.pinned (OpenSpec.ofChange fnPNLengthsSpec)

/-- ITS FALSE NEIGHBOUR: 'it returns false'. Refute it at one input. -/
def fnPNLengthsWrong : ChangeSpec := { name := "fnPNLengths", fn := fun _ => fun
  | [d1, d2, d3, d4] => { results := [.lit (.bool false)], args := [d1, d2, d3, d4] }
  | _ => none }
def FnPNLengthsWrongFalsely : Prop := fnPNLengthsRow.holds Try.pinned (OpenSpec.ofChange fnPNLengthsWrong)

/- THE SECOND FORM. 'bulk': how many values and letters a reading holds, each counted each time it is reached (what is shared counts as often as it is met; a slice's spare places count too). A statement '..UptoSaid' is the law's where the arguments, and the package variables that the reading takes, are together of bulk at most 1048576: NARROWER than '..Said'. Prove '..Said' where nothing that the law and all that it calls make is longer than what came in: it says more and counts as full. Else prove '..UptoSaid'. A law counts once. -/
mutual
def uptoBulk {H : Type} : DataW H → Nat
  | .lit (.string bytes) => bytes.length + 1
  | .lit _ => 1
  | .nil => 1
  | .ptr d => uptoBulk d + 1
  | .slice elems spare => uptoBulkAll elems + uptoBulkAll spare + 1
  | .agg parts => uptoBulkAll parts + 1
  | .iface _ d => uptoBulk d + 1
  | .map entries => uptoBulkEntries entries + 1
  | .held _ => 1
def uptoBulkAll {H : Type} : List (DataW H) → Nat
  | [] => 0
  | d :: r => uptoBulk d + uptoBulkAll r
def uptoBulkEntries {H : Type} : List (Lit × DataW H) → Nat
  | [] => 0
  | x :: r => uptoBulkEntry x + uptoBulkEntries r
def uptoBulkEntry {H : Type} : Lit × DataW H → Nat
  | (.string bytes, d) => bytes.length + uptoBulk d + 1
  | (_, d) => uptoBulk d + 1
 end
def uptoSmall : (H : Type) → List (DataW H) → Bool := fun _ ds => decide (uptoBulkAll ds ≤ 1048576)
def OpenSpec.upto (s : _root_.Go.ChangeSpec) : _root_.Go.OpenSpec := { _root_.Go.OpenSpec.ofChange s with cond := some uptoSmall }

/-- 'laws.FnPNDecodes', WHERE WHAT IT READS IS OF BULK AT MOST 1048576: true; the input reads as it did. -/
def fnPNDecodesUptoRow : OpenClaim := { program := "ytlkobjghpkifmaa", sum := "cba74d3aaba9adc45229a0c22ac5ba23be34d8c517216aed218acd3a23ff3af5", func := "given.example/pub-heaveline/laws.FnPNDecodes", spec := "fnPNDecodes", apart := false, narrowed := true }
def FnPNDecodesUptoSaid : Prop := fnPNDecodesUptoRow.holds Try.pinned (OpenSpec.upto fnPNDecodesSpec)

/-- 'laws.FnPNLengths', WHERE WHAT IT READS IS OF BULK AT MOST 1048576: true; the input reads as it did. -/
def fnPNLengthsUptoRow : OpenClaim := { program := "ytlkobjghpkifmaa", sum := "cba74d3aaba9adc45229a0c22ac5ba23be34d8c517216aed218acd3a23ff3af5", func := "given.example/pub-heaveline/laws.FnPNLengths", spec := "fnPNLengths", apart := false, narrowed := true }
def FnPNLengthsUptoSaid : Prop := fnPNLengthsUptoRow.holds Try.pinned (OpenSpec.upto fnPNLengthsSpec)

end Rows
end Go.Proofs.Ytlkobjghpkifmaa
