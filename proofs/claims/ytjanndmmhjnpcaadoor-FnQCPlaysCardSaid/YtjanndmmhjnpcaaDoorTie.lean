/-
  DERIVED. GIVEN WITH THE SEED: THE PROGRAM's TIES (one call each: nine closed facts by the kernel) AND EACH ROW's TIE, after the 31st guide's Derived/Test/Toyas{Tie, Card}.lean. No idea stands in it: it is a product of the set-up. Laid BY PROGRAM, IN A SANDBOX (cutbox-door.mjs). By AI agents, Wed Nov 11 2026. No macro, syntax, notation, axiom, sorry.
-/
import Derived.Test.YtjanndmmhjnpcaaDoorRows
import Derived.LaidByTextLater
import Derived.SevenTiedAt
import Derived.LaidSub
import Derived.LaidOnce
namespace Go.Proofs.YtjanndmmhjnpcaaDoor
open Go
set_option maxRecDepth 100000
theorem seatTie1 : Tryd.prog.laidByTextLater [("io.EOF", Rows.laid_io_EOF), ("given.example/pub-heaveline/pub/quic.ErrWouldBlock", Rows.laid_given_example_pub_heaveline_pub_quic_ErrWouldBlock), ("given.example/pub-heaveline/pub/quic.ErrStreamClosed", Rows.laid_given_example_pub_heaveline_pub_quic_ErrStreamClosed)] [.sentinel, .sentinel, .sentinel] true :=
  Program.laidByTextLater_by_one 66 8 2 (by kernel_rfl) (by kernel_rfl) (by kernel_rfl) (by kernel_rfl) (by kernel_rfl) (by kernel_rfl) (fun _ _ => by kernel_rfl)
theorem noOwnUnsafe : Tryd.pinned.checked.prog.headLifts.contains "ownunsafe" = false := by kernel_rfl
theorem tie : Tryd.prog.laidByTextLater [("io.EOF", Rows.laid_io_EOF), ("given.example/pub-heaveline/pub/quic.ErrWouldBlock", Rows.laid_given_example_pub_heaveline_pub_quic_ErrWouldBlock), ("given.example/pub-heaveline/pub/quic.ErrStreamClosed", Rows.laid_given_example_pub_heaveline_pub_quic_ErrStreamClosed)] [.sentinel, .sentinel, .sentinel] true :=
  Program.laidByTextLater.sub seatTie1 ["io.EOF", "given.example/pub-heaveline/pub/quic.ErrWouldBlock", "given.example/pub-heaveline/pub/quic.ErrStreamClosed"] (by kernel_rfl) (by kernel_rfl)
theorem fnQCNever_row_tie : Rows.fnQCNeverRow.laidByTextAt .later Tryd.pinned [.sentinel, .sentinel, .sentinel] true :=
  OpenClaim.laidByTextAt_later rfl rfl tie noOwnUnsafe
theorem fnQCPlays_row_tie : Rows.fnQCPlaysRow.laidByTextAt .later Tryd.pinned [.sentinel, .sentinel, .sentinel] true :=
  OpenClaim.laidByTextAt_later rfl rfl tie noOwnUnsafe
theorem fnQCNeverUpto_row_tie : Rows.fnQCNeverUptoRow.laidByTextAt .later Tryd.pinned [.sentinel, .sentinel, .sentinel] true :=
  OpenClaim.laidByTextAt_later rfl rfl tie noOwnUnsafe
theorem fnQCPlaysUpto_row_tie : Rows.fnQCPlaysUptoRow.laidByTextAt .later Tryd.pinned [.sentinel, .sentinel, .sentinel] true :=
  OpenClaim.laidByTextAt_later rfl rfl tie noOwnUnsafe
end Go.Proofs.YtjanndmmhjnpcaaDoor
