/-
  No cell of these rows narrows 'for every input' (looked for: loops, veiled, ifaces, maps, wideKeys, modest, calm, conditions, laid).
  DERIVED. THE GIVEN ROWS OF THIS SEAT. 3 by the template 'for every input the law returns true; each argument reads behind the call as it read before'; 0 by the template 'total and deterministic' (their statements: YtgianhjmjiiadaaTotals.lean).
  GIVEN WITH THE SEED: the statements are not yours to turn. If you find one false, say at which input.
  Laid BY PROGRAM, IN A SANDBOX (cutbox-rows.mjs): the forced cells as the released guide's own fill.sh prints them over the translation fea65fd2352069f2… (all of the seat's roots in one cut). By AI agents, Wed Nov 11 2026. No macro, syntax, notation, axiom, sorry.
-/
import Derived.Test.YtgianhjmjiiadaaChecked
import GoSem.Claim
import GoSem.ClaimJoined
import GoSem.ClaimMapViews
import Derived.JoinedTies
import Derived.KernelRfl
namespace Go.Proofs.Ytgianhjmjiiadaa
/- THE CELL 'sum', in the pinned program and in every row, IS THE sha256 OF THE DUMP (.gsa) THAT YtgianhjmjiiadaaProg.lean LOADS. Nothing in Lean hashes anything: it is a label: what it is worth is what the hold of that sum in a sandbox is worth. -/
noncomputable def Try.pinned : Pinned := { name := "ytgianhjmjiiadaa", sum := "fea65fd2352069f2deb935849d9d247870bc42d64f1c0297c2c4d3d811863886", checked := Try.checked }
namespace Rows
def none {H : Type} : Left H := { results := [], args := [] }

/-- 'laws.FnQMAcks': WHATEVER THE INPUT: true; the input reads as it did. -/
def fnQMAcksSpec : ChangeSpec := { name := "fnQMAcks", fn := fun _ => fun
  | [d1, d2] => { results := [.lit (.bool true)], args := [d1, d2] }
  | _ => none }
def fnQMAcksRow : OpenClaim := { program := "ytgianhjmjiiadaa", sum := "fea65fd2352069f2deb935849d9d247870bc42d64f1c0297c2c4d3d811863886", func := "given.example/pub-heaveline/laws.FnQMAcks", spec := "fnQMAcks", inPlace := ["slices.overlaps[given.example/pub-heaveline/pub/ackhandler.interval]"], unfollowed := true, recurses := true, apart := false }
def FnQMAcksSaid : Prop := fnQMAcksRow.holds Try.pinned (OpenSpec.ofChange fnQMAcksSpec)

/-- ITS FALSE NEIGHBOUR: 'it returns false'. Refute it at one input. -/
def fnQMAcksWrong : ChangeSpec := { name := "fnQMAcks", fn := fun _ => fun
  | [d1, d2] => { results := [.lit (.bool false)], args := [d1, d2] }
  | _ => none }
def FnQMAcksWrongFalsely : Prop := fnQMAcksRow.holds Try.pinned (OpenSpec.ofChange fnQMAcksWrong)

/-- 'laws.FnQMDue': WHATEVER THE INPUT: true; the input reads as it did. -/
def fnQMDueSpec : ChangeSpec := { name := "fnQMDue", fn := fun _ => fun
  | [d1, d2] => { results := [.lit (.bool true)], args := [d1, d2] }
  | _ => none }
def fnQMDueRow : OpenClaim := { program := "ytgianhjmjiiadaa", sum := "fea65fd2352069f2deb935849d9d247870bc42d64f1c0297c2c4d3d811863886", func := "given.example/pub-heaveline/laws.FnQMDue", spec := "fnQMDue", inPlace := ["slices.overlaps[given.example/pub-heaveline/pub/ackhandler.interval]"], unfollowed := true, recurses := true, apart := false }
def FnQMDueSaid : Prop := fnQMDueRow.holds Try.pinned (OpenSpec.ofChange fnQMDueSpec)

/-- ITS FALSE NEIGHBOUR: 'it returns false'. Refute it at one input. -/
def fnQMDueWrong : ChangeSpec := { name := "fnQMDue", fn := fun _ => fun
  | [d1, d2] => { results := [.lit (.bool false)], args := [d1, d2] }
  | _ => none }
def FnQMDueWrongFalsely : Prop := fnQMDueRow.holds Try.pinned (OpenSpec.ofChange fnQMDueWrong)

/-- 'laws.FnQMWithin': WHATEVER THE INPUT: true; the input reads as it did. -/
def fnQMWithinSpec : ChangeSpec := { name := "fnQMWithin", fn := fun _ => fun
  | [d1, d2] => { results := [.lit (.bool true)], args := [d1, d2] }
  | _ => none }
def fnQMWithinRow : OpenClaim := { program := "ytgianhjmjiiadaa", sum := "fea65fd2352069f2deb935849d9d247870bc42d64f1c0297c2c4d3d811863886", func := "given.example/pub-heaveline/laws.FnQMWithin", spec := "fnQMWithin", inPlace := ["slices.overlaps[given.example/pub-heaveline/pub/ackhandler.interval]"], unfollowed := true, recurses := true, apart := false }
def FnQMWithinSaid : Prop := fnQMWithinRow.holds Try.pinned (OpenSpec.ofChange fnQMWithinSpec)

/-- ITS FALSE NEIGHBOUR: 'it returns false'. Refute it at one input. -/
def fnQMWithinWrong : ChangeSpec := { name := "fnQMWithin", fn := fun _ => fun
  | [d1, d2] => { results := [.lit (.bool false)], args := [d1, d2] }
  | _ => none }
def FnQMWithinWrongFalsely : Prop := fnQMWithinRow.holds Try.pinned (OpenSpec.ofChange fnQMWithinWrong)

/- THE SECOND FORM. 'bulk': how many values and letters a reading holds, each counted each time it is reached (what is shared counts as often as it is met; a slice's spare places count too). A statement '..UptoSaid' is the law's where the arguments, and the package variables that the reading takes, are together of bulk at most 1048576: NARROWER than '..Said'. Prove '..Said' where nothing that the law and all that it calls make is longer than what came in: it says more and counts as full. Else prove '..UptoSaid'. A law counts once. -/
mutual
def uptoBulk {H : Type} : DataW H → Nat
  | .lit (.string bytes) => bytes.length + 1
  | .lit _ => 1
  | .nil => 1
  | .ptr d => uptoBulk d + 1
  | .slice elems spare => uptoBulkAll elems + uptoBulkAll spare + 1
  | .agg parts => uptoBulkAll parts + 1
  | .iface _ d => uptoBulk d + 1
  | .map entries => uptoBulkEntries entries + 1
  | .held _ => 1
def uptoBulkAll {H : Type} : List (DataW H) → Nat
  | [] => 0
  | d :: r => uptoBulk d + uptoBulkAll r
def uptoBulkEntries {H : Type} : List (Lit × DataW H) → Nat
  | [] => 0
  | x :: r => uptoBulkEntry x + uptoBulkEntries r
def uptoBulkEntry {H : Type} : Lit × DataW H → Nat
  | (.string bytes, d) => bytes.length + uptoBulk d + 1
  | (_, d) => uptoBulk d + 1
 end
def uptoSmall : (H : Type) → List (DataW H) → Bool := fun _ ds => decide (uptoBulkAll ds ≤ 1048576)
def OpenSpec.upto (s : _root_.Go.ChangeSpec) : _root_.Go.OpenSpec := { _root_.Go.OpenSpec.ofChange s with cond := some uptoSmall }

/-- 'laws.FnQMAcks', WHERE WHAT IT READS IS OF BULK AT MOST 1048576: true; the input reads as it did. -/
def fnQMAcksUptoRow : OpenClaim := { program := "ytgianhjmjiiadaa", sum := "fea65fd2352069f2deb935849d9d247870bc42d64f1c0297c2c4d3d811863886", func := "given.example/pub-heaveline/laws.FnQMAcks", spec := "fnQMAcks", inPlace := ["slices.overlaps[given.example/pub-heaveline/pub/ackhandler.interval]"], unfollowed := true, recurses := true, apart := false, narrowed := true }
def FnQMAcksUptoSaid : Prop := fnQMAcksUptoRow.holds Try.pinned (OpenSpec.upto fnQMAcksSpec)

/-- 'laws.FnQMDue', WHERE WHAT IT READS IS OF BULK AT MOST 1048576: true; the input reads as it did. -/
def fnQMDueUptoRow : OpenClaim := { program := "ytgianhjmjiiadaa", sum := "fea65fd2352069f2deb935849d9d247870bc42d64f1c0297c2c4d3d811863886", func := "given.example/pub-heaveline/laws.FnQMDue", spec := "fnQMDue", inPlace := ["slices.overlaps[given.example/pub-heaveline/pub/ackhandler.interval]"], unfollowed := true, recurses := true, apart := false, narrowed := true }
def FnQMDueUptoSaid : Prop := fnQMDueUptoRow.holds Try.pinned (OpenSpec.upto fnQMDueSpec)

/-- 'laws.FnQMWithin', WHERE WHAT IT READS IS OF BULK AT MOST 1048576: true; the input reads as it did. -/
def fnQMWithinUptoRow : OpenClaim := { program := "ytgianhjmjiiadaa", sum := "fea65fd2352069f2deb935849d9d247870bc42d64f1c0297c2c4d3d811863886", func := "given.example/pub-heaveline/laws.FnQMWithin", spec := "fnQMWithin", inPlace := ["slices.overlaps[given.example/pub-heaveline/pub/ackhandler.interval]"], unfollowed := true, recurses := true, apart := false, narrowed := true }
def FnQMWithinUptoSaid : Prop := fnQMWithinUptoRow.holds Try.pinned (OpenSpec.upto fnQMWithinSpec)

end Rows
end Go.Proofs.Ytgianhjmjiiadaa
