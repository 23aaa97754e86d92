/-
  NARROWER THAN 'FOR EVERY INPUT', by the rows' own cells (each row's printed sentence says how): FnQCNever: ifaces, laid · FnQCPlays: ifaces, laid.
  DERIVED. THE GIVEN ROWS OF THIS SEAT. 2 by the template 'for every input the law returns true; each argument reads behind the call as it read before'; 0 by the template 'total and deterministic' (their statements: YtjanndmmhjnpcaaDoorTotals.lean).
  GIVEN WITH THE SEED: the statements are not yours to turn. If you find one false, say at which input.
  Laid BY PROGRAM, IN A SANDBOX (cutbox-rows.mjs): the forced cells as the released guide's own fill.sh prints them over the translation 196b3ad56f0dec31… (all of the seat's roots in one cut). By AI agents, Wed Nov 11 2026. No macro, syntax, notation, axiom, sorry.
-/
import Derived.Test.YtjanndmmhjnpcaaDoorChecked
import GoSem.Claim
import GoSem.ClaimJoined
import GoSem.ClaimMapViews
import Derived.JoinedTies
import Derived.KernelRfl
namespace Go.Proofs.YtjanndmmhjnpcaaDoor
/- THE CELL 'sum', in the pinned program and in every row, IS THE sha256 OF THE DUMP (.gsa) THAT YtjanndmmhjnpcaaDoorProg.lean LOADS. Nothing in Lean hashes anything: it is a label: what it is worth is what the hold of that sum in a sandbox is worth. -/
noncomputable def Tryd.pinned : Pinned := { name := "ytjanndmmhjnpcaadoor", sum := "196b3ad56f0dec314d46d5de4f477242afaae1c41e5cbec131e149ad39b201dc", checked := Tryd.checked }
namespace Rows
def none {H : Type} : Left H := { results := [], args := [] }

/- WHAT THE LISTED PACKAGE-LEVEL VARIABLES READ AS WHEN THE CALL BEGINS. Each datum BY PROGRAM (the guide's laid-datum.mjs) off the statement by which the dump's own 'gosem.cut.vars' lays the variable. In a bare row this is a premise. The card (YtjanndmmhjnpcaaDoorCards.lean) ties it to the program's text. -/
def laid_io_EOF {H : Type} : DataW H := .iface "*errors.errorString" (.ptr (.agg [.lit (.string [69, 79, 70])]))
def laid_given_example_pub_heaveline_pub_quic_ErrWouldBlock {H : Type} : DataW H := .iface "*errors.errorString" (.ptr (.agg [.lit (.string [111, 112, 101, 114, 97, 116, 105, 111, 110, 32, 119, 111, 117, 108, 100, 32, 98, 108, 111, 99, 107])]))
def laid_given_example_pub_heaveline_pub_quic_ErrStreamClosed {H : Type} : DataW H := .iface "*errors.errorString" (.ptr (.agg [.lit (.string [115, 116, 114, 101, 97, 109, 32, 99, 108, 111, 115, 101, 100])]))

/-- 'laws.FnQCNever': WHATEVER THE INPUT: true; the input reads as it did. -/
def fnQCNeverSpec : ChangeSpec := { name := "fnQCNever", vars := ["given.example/pub-heaveline/pub/quic.ErrWouldBlock", "given.example/pub-heaveline/pub/quic.ErrStreamClosed"], fn := fun _ => fun
  | [d1, d2, d3, g1, g2] => { results := [.lit (.bool true)], args := [d1, d2, d3], vars := [g1, g2] }
  | _ => none }
def fnQCNeverRow : OpenClaim := { program := "ytjanndmmhjnpcaadoor", sum := "196b3ad56f0dec314d46d5de4f477242afaae1c41e5cbec131e149ad39b201dc", func := "given.example/pub-heaveline/laws.FnQCNever", spec := "fnQCNever", inPlace := ["slices.overlaps[given.example/pub-heaveline/pub/quic.newConnID]"], unfollowed := true, recurses := true, named := ["io.EOF", "given.example/pub-heaveline/pub/quic.ErrWouldBlock", "given.example/pub-heaveline/pub/quic.ErrStreamClosed"], ifaces := true, apart := false, laid := [("io.EOF", laid_io_EOF), ("given.example/pub-heaveline/pub/quic.ErrWouldBlock", laid_given_example_pub_heaveline_pub_quic_ErrWouldBlock), ("given.example/pub-heaveline/pub/quic.ErrStreamClosed", laid_given_example_pub_heaveline_pub_quic_ErrStreamClosed)] }
def FnQCNeverSaid : Prop := fnQCNeverRow.holds Tryd.pinned (OpenSpec.ofChange fnQCNeverSpec)

/-- ITS FALSE NEIGHBOUR: 'it returns false'. Refute it at one input. -/
def fnQCNeverWrong : ChangeSpec := { name := "fnQCNever", vars := ["given.example/pub-heaveline/pub/quic.ErrWouldBlock", "given.example/pub-heaveline/pub/quic.ErrStreamClosed"], fn := fun _ => fun
  | [d1, d2, d3, g1, g2] => { results := [.lit (.bool false)], args := [d1, d2, d3], vars := [g1, g2] }
  | _ => none }
def FnQCNeverWrongFalsely : Prop := fnQCNeverRow.holds Tryd.pinned (OpenSpec.ofChange fnQCNeverWrong)

/-- 'laws.FnQCPlays': WHATEVER THE INPUT: true; the input reads as it did. -/
def fnQCPlaysSpec : ChangeSpec := { name := "fnQCPlays", vars := ["given.example/pub-heaveline/pub/quic.ErrWouldBlock", "given.example/pub-heaveline/pub/quic.ErrStreamClosed"], fn := fun _ => fun
  | [d1, d2, d3, g1, g2] => { results := [.lit (.bool true)], args := [d1, d2, d3], vars := [g1, g2] }
  | _ => none }
def fnQCPlaysRow : OpenClaim := { program := "ytjanndmmhjnpcaadoor", sum := "196b3ad56f0dec314d46d5de4f477242afaae1c41e5cbec131e149ad39b201dc", func := "given.example/pub-heaveline/laws.FnQCPlays", spec := "fnQCPlays", inPlace := ["slices.overlaps[given.example/pub-heaveline/pub/quic.newConnID]"], unfollowed := true, recurses := true, named := ["io.EOF", "given.example/pub-heaveline/pub/quic.ErrWouldBlock", "given.example/pub-heaveline/pub/quic.ErrStreamClosed"], ifaces := true, apart := false, laid := [("io.EOF", laid_io_EOF), ("given.example/pub-heaveline/pub/quic.ErrWouldBlock", laid_given_example_pub_heaveline_pub_quic_ErrWouldBlock), ("given.example/pub-heaveline/pub/quic.ErrStreamClosed", laid_given_example_pub_heaveline_pub_quic_ErrStreamClosed)] }
def FnQCPlaysSaid : Prop := fnQCPlaysRow.holds Tryd.pinned (OpenSpec.ofChange fnQCPlaysSpec)

/-- ITS FALSE NEIGHBOUR: 'it returns false'. Refute it at one input. -/
def fnQCPlaysWrong : ChangeSpec := { name := "fnQCPlays", vars := ["given.example/pub-heaveline/pub/quic.ErrWouldBlock", "given.example/pub-heaveline/pub/quic.ErrStreamClosed"], fn := fun _ => fun
  | [d1, d2, d3, g1, g2] => { results := [.lit (.bool false)], args := [d1, d2, d3], vars := [g1, g2] }
  | _ => none }
def FnQCPlaysWrongFalsely : Prop := fnQCPlaysRow.holds Tryd.pinned (OpenSpec.ofChange fnQCPlaysWrong)

/- THE SECOND FORM. 'bulk': how many values and letters a reading holds, each counted each time it is reached (what is shared counts as often as it is met; a slice's spare places count too). A statement '..UptoSaid' is the law's where the arguments, and the package variables that the reading takes, are together of bulk at most 1048576: NARROWER than '..Said'. Prove '..Said' where nothing that the law and all that it calls make is longer than what came in: it says more and counts as full. Else prove '..UptoSaid'. A law counts once. -/
mutual
def uptoBulk {H : Type} : DataW H → Nat
  | .lit (.string bytes) => bytes.length + 1
  | .lit _ => 1
  | .nil => 1
  | .ptr d => uptoBulk d + 1
  | .slice elems spare => uptoBulkAll elems + uptoBulkAll spare + 1
  | .agg parts => uptoBulkAll parts + 1
  | .iface _ d => uptoBulk d + 1
  | .map entries => uptoBulkEntries entries + 1
  | .held _ => 1
def uptoBulkAll {H : Type} : List (DataW H) → Nat
  | [] => 0
  | d :: r => uptoBulk d + uptoBulkAll r
def uptoBulkEntries {H : Type} : List (Lit × DataW H) → Nat
  | [] => 0
  | x :: r => uptoBulkEntry x + uptoBulkEntries r
def uptoBulkEntry {H : Type} : Lit × DataW H → Nat
  | (.string bytes, d) => bytes.length + uptoBulk d + 1
  | (_, d) => uptoBulk d + 1
 end
def uptoSmall : (H : Type) → List (DataW H) → Bool := fun _ ds => decide (uptoBulkAll ds ≤ 1048576)
def OpenSpec.upto (s : _root_.Go.ChangeSpec) : _root_.Go.OpenSpec := { _root_.Go.OpenSpec.ofChange s with cond := some uptoSmall }

/-- 'laws.FnQCNever', WHERE WHAT IT READS IS OF BULK AT MOST 1048576: true; the input reads as it did. -/
def fnQCNeverUptoRow : OpenClaim := { program := "ytjanndmmhjnpcaadoor", sum := "196b3ad56f0dec314d46d5de4f477242afaae1c41e5cbec131e149ad39b201dc", func := "given.example/pub-heaveline/laws.FnQCNever", spec := "fnQCNever", inPlace := ["slices.overlaps[given.example/pub-heaveline/pub/quic.newConnID]"], unfollowed := true, recurses := true, named := ["io.EOF", "given.example/pub-heaveline/pub/quic.ErrWouldBlock", "given.example/pub-heaveline/pub/quic.ErrStreamClosed"], ifaces := true, apart := false, laid := [("io.EOF", laid_io_EOF), ("given.example/pub-heaveline/pub/quic.ErrWouldBlock", laid_given_example_pub_heaveline_pub_quic_ErrWouldBlock), ("given.example/pub-heaveline/pub/quic.ErrStreamClosed", laid_given_example_pub_heaveline_pub_quic_ErrStreamClosed)], narrowed := true }
def FnQCNeverUptoSaid : Prop := fnQCNeverUptoRow.holds Tryd.pinned (OpenSpec.upto fnQCNeverSpec)

/-- 'laws.FnQCPlays', WHERE WHAT IT READS IS OF BULK AT MOST 1048576: true; the input reads as it did. -/
def fnQCPlaysUptoRow : OpenClaim := { program := "ytjanndmmhjnpcaadoor", sum := "196b3ad56f0dec314d46d5de4f477242afaae1c41e5cbec131e149ad39b201dc", func := "given.example/pub-heaveline/laws.FnQCPlays", spec := "fnQCPlays", inPlace := ["slices.overlaps[given.example/pub-heaveline/pub/quic.newConnID]"], unfollowed := true, recurses := true, named := ["io.EOF", "given.example/pub-heaveline/pub/quic.ErrWouldBlock", "given.example/pub-heaveline/pub/quic.ErrStreamClosed"], ifaces := true, apart := false, laid := [("io.EOF", laid_io_EOF), ("given.example/pub-heaveline/pub/quic.ErrWouldBlock", laid_given_example_pub_heaveline_pub_quic_ErrWouldBlock), ("given.example/pub-heaveline/pub/quic.ErrStreamClosed", laid_given_example_pub_heaveline_pub_quic_ErrStreamClosed)], narrowed := true }
def FnQCPlaysUptoSaid : Prop := fnQCPlaysUptoRow.holds Tryd.pinned (OpenSpec.upto fnQCPlaysSpec)

end Rows
end Go.Proofs.YtjanndmmhjnpcaaDoor
