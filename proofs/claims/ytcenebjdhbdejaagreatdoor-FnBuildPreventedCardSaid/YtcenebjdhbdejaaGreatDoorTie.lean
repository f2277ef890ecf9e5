/-
  DERIVED. GIVEN WITH THE SEED: THE PROGRAM's TIES (one call each: nine closed facts by the kernel) AND EACH ROW's TIE, after the 31st guide's Derived/Test/Toyas{Tie, Card}.lean. No idea stands in it: it is a product of the set-up. Laid BY PROGRAM, IN A SANDBOX (cutbox-door.mjs). By AI agents, Wed Nov 11 2026. No macro, syntax, notation, axiom, sorry.
-/
import Derived.Test.YtcenebjdhbdejaaGreatDoorRows
import Derived.LaidByTextLater
import Derived.SevenTiedAt
import Derived.LaidSub
import Derived.LaidOnce
namespace Go.Proofs.YtcenebjdhbdejaaGreatDoor
open Go
set_option maxRecDepth 100000
theorem seatTie1 : Tryz.prog.laidByTextLater [("pub-mycorrhiza/pub/dbgraph.ErrVertexNotFound", Rows.laid_pub_mycorrhiza_pub_dbgraph_ErrVertexNotFound), ("pub-mycorrhiza/pub/dbgraph.ErrVertexAlreadyExists", Rows.laid_pub_mycorrhiza_pub_dbgraph_ErrVertexAlreadyExists), ("pub-mycorrhiza/pub/dbgraph.ErrEdgeNotFound", Rows.laid_pub_mycorrhiza_pub_dbgraph_ErrEdgeNotFound), ("pub-mycorrhiza/pub/dbgraph.ErrEdgeAlreadyExists", Rows.laid_pub_mycorrhiza_pub_dbgraph_ErrEdgeAlreadyExists), ("pub-mycorrhiza/pub/dbgraph.ErrEdgeCreatesCycle", Rows.laid_pub_mycorrhiza_pub_dbgraph_ErrEdgeCreatesCycle), ("pub-mycorrhiza/pub/dbgraph.ErrVertexHasEdges", Rows.laid_pub_mycorrhiza_pub_dbgraph_ErrVertexHasEdges)] [.sentinel, .sentinel, .sentinel, .sentinel, .sentinel, .sentinel] true :=
  Program.laidByTextLater_by_one 123 8 2 (by kernel_rfl) (by kernel_rfl) (by kernel_rfl) (by kernel_rfl) (by kernel_rfl) (by kernel_rfl) (fun _ _ => by kernel_rfl)
theorem noOwnUnsafe : Tryz.pinned.checked.prog.headLifts.contains "ownunsafe" = false := by kernel_rfl
theorem tie : Tryz.prog.laidByTextLater [("pub-mycorrhiza/pub/dbgraph.ErrVertexNotFound", Rows.laid_pub_mycorrhiza_pub_dbgraph_ErrVertexNotFound), ("pub-mycorrhiza/pub/dbgraph.ErrVertexAlreadyExists", Rows.laid_pub_mycorrhiza_pub_dbgraph_ErrVertexAlreadyExists), ("pub-mycorrhiza/pub/dbgraph.ErrEdgeNotFound", Rows.laid_pub_mycorrhiza_pub_dbgraph_ErrEdgeNotFound), ("pub-mycorrhiza/pub/dbgraph.ErrEdgeAlreadyExists", Rows.laid_pub_mycorrhiza_pub_dbgraph_ErrEdgeAlreadyExists), ("pub-mycorrhiza/pub/dbgraph.ErrEdgeCreatesCycle", Rows.laid_pub_mycorrhiza_pub_dbgraph_ErrEdgeCreatesCycle), ("pub-mycorrhiza/pub/dbgraph.ErrVertexHasEdges", Rows.laid_pub_mycorrhiza_pub_dbgraph_ErrVertexHasEdges)] [.sentinel, .sentinel, .sentinel, .sentinel, .sentinel, .sentinel] true :=
  Program.laidByTextLater.sub seatTie1 ["pub-mycorrhiza/pub/dbgraph.ErrVertexNotFound", "pub-mycorrhiza/pub/dbgraph.ErrVertexAlreadyExists", "pub-mycorrhiza/pub/dbgraph.ErrEdgeNotFound", "pub-mycorrhiza/pub/dbgraph.ErrEdgeAlreadyExists", "pub-mycorrhiza/pub/dbgraph.ErrEdgeCreatesCycle", "pub-mycorrhiza/pub/dbgraph.ErrVertexHasEdges"] (by kernel_rfl) (by kernel_rfl)
theorem fnBuild_row_tie : Rows.fnBuildRow.laidByTextAt .later Tryz.pinned [.sentinel, .sentinel, .sentinel, .sentinel, .sentinel, .sentinel] true :=
  OpenClaim.laidByTextAt_later rfl rfl tie noOwnUnsafe
theorem fnBuildOrder_row_tie : Rows.fnBuildOrderRow.laidByTextAt .later Tryz.pinned [.sentinel, .sentinel, .sentinel, .sentinel, .sentinel, .sentinel] true :=
  OpenClaim.laidByTextAt_later rfl rfl tie noOwnUnsafe
theorem fnBuildPrevented_row_tie : Rows.fnBuildPreventedRow.laidByTextAt .later Tryz.pinned [.sentinel, .sentinel, .sentinel, .sentinel, .sentinel, .sentinel] true :=
  OpenClaim.laidByTextAt_later rfl rfl tie noOwnUnsafe
theorem fnBuildFrom_row_tie : Rows.fnBuildFromRow.laidByTextAt .later Tryz.pinned [.sentinel, .sentinel, .sentinel, .sentinel, .sentinel, .sentinel] true :=
  OpenClaim.laidByTextAt_later rfl rfl tie noOwnUnsafe
theorem fnBuildTwice_row_tie : Rows.fnBuildTwiceRow.laidByTextAt .later Tryz.pinned [.sentinel, .sentinel, .sentinel, .sentinel, .sentinel, .sentinel] true :=
  OpenClaim.laidByTextAt_later rfl rfl tie noOwnUnsafe
theorem fnBuildClone_row_tie : Rows.fnBuildCloneRow.laidByTextAt .later Tryz.pinned [.sentinel, .sentinel, .sentinel, .sentinel, .sentinel, .sentinel] true :=
  OpenClaim.laidByTextAt_later rfl rfl tie noOwnUnsafe
theorem fnBuildUpto_row_tie : Rows.fnBuildUptoRow.laidByTextAt .later Tryz.pinned [.sentinel, .sentinel, .sentinel, .sentinel, .sentinel, .sentinel] true :=
  OpenClaim.laidByTextAt_later rfl rfl tie noOwnUnsafe
theorem fnBuildOrderUpto_row_tie : Rows.fnBuildOrderUptoRow.laidByTextAt .later Tryz.pinned [.sentinel, .sentinel, .sentinel, .sentinel, .sentinel, .sentinel] true :=
  OpenClaim.laidByTextAt_later rfl rfl tie noOwnUnsafe
theorem fnBuildPreventedUpto_row_tie : Rows.fnBuildPreventedUptoRow.laidByTextAt .later Tryz.pinned [.sentinel, .sentinel, .sentinel, .sentinel, .sentinel, .sentinel] true :=
  OpenClaim.laidByTextAt_later rfl rfl tie noOwnUnsafe
theorem fnBuildFromUpto_row_tie : Rows.fnBuildFromUptoRow.laidByTextAt .later Tryz.pinned [.sentinel, .sentinel, .sentinel, .sentinel, .sentinel, .sentinel] true :=
  OpenClaim.laidByTextAt_later rfl rfl tie noOwnUnsafe
theorem fnBuildTwiceUpto_row_tie : Rows.fnBuildTwiceUptoRow.laidByTextAt .later Tryz.pinned [.sentinel, .sentinel, .sentinel, .sentinel, .sentinel, .sentinel] true :=
  OpenClaim.laidByTextAt_later rfl rfl tie noOwnUnsafe
theorem fnBuildCloneUpto_row_tie : Rows.fnBuildCloneUptoRow.laidByTextAt .later Tryz.pinned [.sentinel, .sentinel, .sentinel, .sentinel, .sentinel, .sentinel] true :=
  OpenClaim.laidByTextAt_later rfl rfl tie noOwnUnsafe
end Go.Proofs.YtcenebjdhbdejaaGreatDoor
