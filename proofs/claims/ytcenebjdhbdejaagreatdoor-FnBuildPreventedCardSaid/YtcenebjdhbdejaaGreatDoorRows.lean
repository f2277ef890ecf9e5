/-
  NARROWER THAN 'FOR EVERY INPUT', by the rows' own cells (each row's printed sentence says how): FnBuild: laid · FnBuildOrder: laid · FnBuildPrevented: laid · FnBuildFrom: laid · FnBuildTwice: laid · FnBuildClone: laid.
  DERIVED. THE GIVEN ROWS OF THIS SEAT. 6 by the template 'for every input the law returns true; each argument reads behind the call as it read before'; 0 by the template 'total and deterministic' (their statements: YtcenebjdhbdejaaGreatDoorTotals.lean).
  GIVEN WITH THE SEED: the statements are not yours to turn. If you find one false, say at which input.
  Laid BY PROGRAM, IN A SANDBOX (cutbox-rows.mjs): the forced cells as the released guide's own fill.sh prints them over the translation 6e447dd75339e699… (all of the seat's roots in one cut). By AI agents, Wed Nov 11 2026. No macro, syntax, notation, axiom, sorry.
-/
import Derived.Test.YtcenebjdhbdejaaGreatDoorChecked
import GoSem.Claim
import GoSem.ClaimJoined
import GoSem.ClaimMapViews
import Derived.JoinedTies
import Derived.KernelRfl
namespace Go.Proofs.YtcenebjdhbdejaaGreatDoor
/- THE CELL 'sum', in the pinned program and in every row, IS THE sha256 OF THE DUMP (.gsa) THAT YtcenebjdhbdejaaGreatDoorProg.lean LOADS. Nothing in Lean hashes anything: it is a label: what it is worth is what the hold of that sum in a sandbox is worth. -/
noncomputable def Tryz.pinned : Pinned := { name := "ytcenebjdhbdejaagreatdoor", sum := "6e447dd75339e699ff7d3064239df09fee88a9357653af65daa625bad4d60801", checked := Tryz.checked }
namespace Rows
def none {H : Type} : Left H := { results := [], args := [] }

/- WHAT THE LISTED PACKAGE-LEVEL VARIABLES READ AS WHEN THE CALL BEGINS. Each datum BY PROGRAM (the guide's laid-datum.mjs) off the statement by which the dump's own 'gosem.cut.vars' lays the variable. In a bare row this is a premise. The card (YtcenebjdhbdejaaGreatDoorCards.lean) ties it to the program's text. -/
def laid_pub_mycorrhiza_pub_dbgraph_ErrVertexNotFound {H : Type} : DataW H := .iface "*errors.errorString" (.ptr (.agg [.lit (.string [118, 101, 114, 116, 101, 120, 32, 110, 111, 116, 32, 102, 111, 117, 110, 100])]))
def laid_pub_mycorrhiza_pub_dbgraph_ErrVertexAlreadyExists {H : Type} : DataW H := .iface "*errors.errorString" (.ptr (.agg [.lit (.string [118, 101, 114, 116, 101, 120, 32, 97, 108, 114, 101, 97, 100, 121, 32, 101, 120, 105, 115, 116, 115])]))
def laid_pub_mycorrhiza_pub_dbgraph_ErrEdgeNotFound {H : Type} : DataW H := .iface "*errors.errorString" (.ptr (.agg [.lit (.string [101, 100, 103, 101, 32, 110, 111, 116, 32, 102, 111, 117, 110, 100])]))
def laid_pub_mycorrhiza_pub_dbgraph_ErrEdgeAlreadyExists {H : Type} : DataW H := .iface "*errors.errorString" (.ptr (.agg [.lit (.string [101, 100, 103, 101, 32, 97, 108, 114, 101, 97, 100, 121, 32, 101, 120, 105, 115, 116, 115])]))
def laid_pub_mycorrhiza_pub_dbgraph_ErrEdgeCreatesCycle {H : Type} : DataW H := .iface "*errors.errorString" (.ptr (.agg [.lit (.string [101, 100, 103, 101, 32, 119, 111, 117, 108, 100, 32, 99, 114, 101, 97, 116, 101, 32, 97, 32, 99, 121, 99, 108, 101])]))
def laid_pub_mycorrhiza_pub_dbgraph_ErrVertexHasEdges {H : Type} : DataW H := .iface "*errors.errorString" (.ptr (.agg [.lit (.string [118, 101, 114, 116, 101, 120, 32, 104, 97, 115, 32, 101, 100, 103, 101, 115])]))

/-- 'laws.FnBuild': WHATEVER THE INPUT: true; the input reads as it did. -/
def fnBuildSpec : ChangeSpec := { name := "fnBuild", fn := fun _ => fun
  | [d1, d2, d3] => { results := [.lit (.bool true)], args := [d1, d2, d3] }
  | _ => none }
def fnBuildRow : OpenClaim := { program := "ytcenebjdhbdejaagreatdoor", sum := "6e447dd75339e699ff7d3064239df09fee88a9357653af65daa625bad4d60801", func := "pub-mycorrhiza/laws.FnBuild", spec := "fnBuild", inPlace := ["internal/reflectlite.TypeOf", "internal/reflectlite.ValueOf", "internal/reflectlite.Swapper", "(internal/reflectlite.Value).Len"], unfollowed := true, recurses := true, named := ["pub-mycorrhiza/pub/dbgraph.ErrVertexAlreadyExists", "pub-mycorrhiza/pub/dbgraph.ErrVertexNotFound", "pub-mycorrhiza/pub/dbgraph.ErrVertexHasEdges", "pub-mycorrhiza/pub/dbgraph.ErrEdgeAlreadyExists", "pub-mycorrhiza/pub/dbgraph.ErrEdgeNotFound", "pub-mycorrhiza/pub/dbgraph.ErrEdgeCreatesCycle"], plainKeys := false, apart := false, laid := [("pub-mycorrhiza/pub/dbgraph.ErrVertexNotFound", laid_pub_mycorrhiza_pub_dbgraph_ErrVertexNotFound), ("pub-mycorrhiza/pub/dbgraph.ErrVertexAlreadyExists", laid_pub_mycorrhiza_pub_dbgraph_ErrVertexAlreadyExists), ("pub-mycorrhiza/pub/dbgraph.ErrEdgeNotFound", laid_pub_mycorrhiza_pub_dbgraph_ErrEdgeNotFound), ("pub-mycorrhiza/pub/dbgraph.ErrEdgeAlreadyExists", laid_pub_mycorrhiza_pub_dbgraph_ErrEdgeAlreadyExists), ("pub-mycorrhiza/pub/dbgraph.ErrEdgeCreatesCycle", laid_pub_mycorrhiza_pub_dbgraph_ErrEdgeCreatesCycle), ("pub-mycorrhiza/pub/dbgraph.ErrVertexHasEdges", laid_pub_mycorrhiza_pub_dbgraph_ErrVertexHasEdges)] }
def FnBuildSaid : Prop := fnBuildRow.holds Tryz.pinned (OpenSpec.ofChange fnBuildSpec)

/-- ITS FALSE NEIGHBOUR: 'it returns false'. Refute it at one input. -/
def fnBuildWrong : ChangeSpec := { name := "fnBuild", fn := fun _ => fun
  | [d1, d2, d3] => { results := [.lit (.bool false)], args := [d1, d2, d3] }
  | _ => none }
def FnBuildWrongFalsely : Prop := fnBuildRow.holds Tryz.pinned (OpenSpec.ofChange fnBuildWrong)

/-- 'laws.FnBuildOrder': WHATEVER THE INPUT: true; the input reads as it did. -/
def fnBuildOrderSpec : ChangeSpec := { name := "fnBuildOrder", fn := fun _ => fun
  | [d1, d2] => { results := [.lit (.bool true)], args := [d1, d2] }
  | _ => none }
def fnBuildOrderRow : OpenClaim := { program := "ytcenebjdhbdejaagreatdoor", sum := "6e447dd75339e699ff7d3064239df09fee88a9357653af65daa625bad4d60801", func := "pub-mycorrhiza/laws.FnBuildOrder", spec := "fnBuildOrder", inPlace := ["internal/reflectlite.TypeOf", "internal/reflectlite.ValueOf", "internal/reflectlite.Swapper", "(internal/reflectlite.Value).Len"], unfollowed := true, recurses := true, named := ["pub-mycorrhiza/pub/dbgraph.ErrVertexAlreadyExists", "pub-mycorrhiza/pub/dbgraph.ErrVertexNotFound", "pub-mycorrhiza/pub/dbgraph.ErrVertexHasEdges", "pub-mycorrhiza/pub/dbgraph.ErrEdgeAlreadyExists", "pub-mycorrhiza/pub/dbgraph.ErrEdgeNotFound", "pub-mycorrhiza/pub/dbgraph.ErrEdgeCreatesCycle"], plainKeys := false, apart := false, laid := [("pub-mycorrhiza/pub/dbgraph.ErrVertexNotFound", laid_pub_mycorrhiza_pub_dbgraph_ErrVertexNotFound), ("pub-mycorrhiza/pub/dbgraph.ErrVertexAlreadyExists", laid_pub_mycorrhiza_pub_dbgraph_ErrVertexAlreadyExists), ("pub-mycorrhiza/pub/dbgraph.ErrEdgeNotFound", laid_pub_mycorrhiza_pub_dbgraph_ErrEdgeNotFound), ("pub-mycorrhiza/pub/dbgraph.ErrEdgeAlreadyExists", laid_pub_mycorrhiza_pub_dbgraph_ErrEdgeAlreadyExists), ("pub-mycorrhiza/pub/dbgraph.ErrEdgeCreatesCycle", laid_pub_mycorrhiza_pub_dbgraph_ErrEdgeCreatesCycle), ("pub-mycorrhiza/pub/dbgraph.ErrVertexHasEdges", laid_pub_mycorrhiza_pub_dbgraph_ErrVertexHasEdges)] }
def FnBuildOrderSaid : Prop := fnBuildOrderRow.holds Tryz.pinned (OpenSpec.ofChange fnBuildOrderSpec)

/-- ITS FALSE NEIGHBOUR: 'it returns false'. Refute it at one input. -/
def fnBuildOrderWrong : ChangeSpec := { name := "fnBuildOrder", fn := fun _ => fun
  | [d1, d2] => { results := [.lit (.bool false)], args := [d1, d2] }
  | _ => none }
def FnBuildOrderWrongFalsely : Prop := fnBuildOrderRow.holds Tryz.pinned (OpenSpec.ofChange fnBuildOrderWrong)

/-- 'laws.FnBuildPrevented': WHATEVER THE INPUT: true; the input reads as it did. -/
def fnBuildPreventedSpec : ChangeSpec := { name := "fnBuildPrevented", fn := fun _ => fun
  | [d1, d2] => { results := [.lit (.bool true)], args := [d1, d2] }
  | _ => none }
def fnBuildPreventedRow : OpenClaim := { program := "ytcenebjdhbdejaagreatdoor", sum := "6e447dd75339e699ff7d3064239df09fee88a9357653af65daa625bad4d60801", func := "pub-mycorrhiza/laws.FnBuildPrevented", spec := "fnBuildPrevented", inPlace := ["internal/reflectlite.TypeOf", "internal/reflectlite.ValueOf", "internal/reflectlite.Swapper", "(internal/reflectlite.Value).Len"], unfollowed := true, recurses := true, named := ["pub-mycorrhiza/pub/dbgraph.ErrVertexAlreadyExists", "pub-mycorrhiza/pub/dbgraph.ErrVertexNotFound", "pub-mycorrhiza/pub/dbgraph.ErrVertexHasEdges", "pub-mycorrhiza/pub/dbgraph.ErrEdgeAlreadyExists", "pub-mycorrhiza/pub/dbgraph.ErrEdgeNotFound", "pub-mycorrhiza/pub/dbgraph.ErrEdgeCreatesCycle"], plainKeys := false, apart := false, laid := [("pub-mycorrhiza/pub/dbgraph.ErrVertexNotFound", laid_pub_mycorrhiza_pub_dbgraph_ErrVertexNotFound), ("pub-mycorrhiza/pub/dbgraph.ErrVertexAlreadyExists", laid_pub_mycorrhiza_pub_dbgraph_ErrVertexAlreadyExists), ("pub-mycorrhiza/pub/dbgraph.ErrEdgeNotFound", laid_pub_mycorrhiza_pub_dbgraph_ErrEdgeNotFound), ("pub-mycorrhiza/pub/dbgraph.ErrEdgeAlreadyExists", laid_pub_mycorrhiza_pub_dbgraph_ErrEdgeAlreadyExists), ("pub-mycorrhiza/pub/dbgraph.ErrEdgeCreatesCycle", laid_pub_mycorrhiza_pub_dbgraph_ErrEdgeCreatesCycle), ("pub-mycorrhiza/pub/dbgraph.ErrVertexHasEdges", laid_pub_mycorrhiza_pub_dbgraph_ErrVertexHasEdges)] }
def FnBuildPreventedSaid : Prop := fnBuildPreventedRow.holds Tryz.pinned (OpenSpec.ofChange fnBuildPreventedSpec)

/-- ITS FALSE NEIGHBOUR: 'it returns false'. Refute it at one input. -/
def fnBuildPreventedWrong : ChangeSpec := { name := "fnBuildPrevented", fn := fun _ => fun
  | [d1, d2] => { results := [.lit (.bool false)], args := [d1, d2] }
  | _ => none }
def FnBuildPreventedWrongFalsely : Prop := fnBuildPreventedRow.holds Tryz.pinned (OpenSpec.ofChange fnBuildPreventedWrong)

/-- 'laws.FnBuildFrom': WHATEVER THE INPUT: true; the input reads as it did. -/
def fnBuildFromSpec : ChangeSpec := { name := "fnBuildFrom", fn := fun _ => fun
  | [d1, d2, d3] => { results := [.lit (.bool true)], args := [d1, d2, d3] }
  | _ => none }
def fnBuildFromRow : OpenClaim := { program := "ytcenebjdhbdejaagreatdoor", sum := "6e447dd75339e699ff7d3064239df09fee88a9357653af65daa625bad4d60801", func := "pub-mycorrhiza/laws.FnBuildFrom", spec := "fnBuildFrom", inPlace := ["internal/reflectlite.TypeOf", "internal/reflectlite.ValueOf", "internal/reflectlite.Swapper", "(internal/reflectlite.Value).Len"], unfollowed := true, recurses := true, named := ["pub-mycorrhiza/pub/dbgraph.ErrVertexAlreadyExists", "pub-mycorrhiza/pub/dbgraph.ErrVertexNotFound", "pub-mycorrhiza/pub/dbgraph.ErrVertexHasEdges", "pub-mycorrhiza/pub/dbgraph.ErrEdgeAlreadyExists", "pub-mycorrhiza/pub/dbgraph.ErrEdgeNotFound", "pub-mycorrhiza/pub/dbgraph.ErrEdgeCreatesCycle"], plainKeys := false, apart := false, laid := [("pub-mycorrhiza/pub/dbgraph.ErrVertexNotFound", laid_pub_mycorrhiza_pub_dbgraph_ErrVertexNotFound), ("pub-mycorrhiza/pub/dbgraph.ErrVertexAlreadyExists", laid_pub_mycorrhiza_pub_dbgraph_ErrVertexAlreadyExists), ("pub-mycorrhiza/pub/dbgraph.ErrEdgeNotFound", laid_pub_mycorrhiza_pub_dbgraph_ErrEdgeNotFound), ("pub-mycorrhiza/pub/dbgraph.ErrEdgeAlreadyExists", laid_pub_mycorrhiza_pub_dbgraph_ErrEdgeAlreadyExists), ("pub-mycorrhiza/pub/dbgraph.ErrEdgeCreatesCycle", laid_pub_mycorrhiza_pub_dbgraph_ErrEdgeCreatesCycle), ("pub-mycorrhiza/pub/dbgraph.ErrVertexHasEdges", laid_pub_mycorrhiza_pub_dbgraph_ErrVertexHasEdges)] }
def FnBuildFromSaid : Prop := fnBuildFromRow.holds Tryz.pinned (OpenSpec.ofChange fnBuildFromSpec)

/-- ITS FALSE NEIGHBOUR: 'it returns false'. Refute it at one input. -/
def fnBuildFromWrong : ChangeSpec := { name := "fnBuildFrom", fn := fun _ => fun
  | [d1, d2, d3] => { results := [.lit (.bool false)], args := [d1, d2, d3] }
  | _ => none }
def FnBuildFromWrongFalsely : Prop := fnBuildFromRow.holds Tryz.pinned (OpenSpec.ofChange fnBuildFromWrong)

/-- 'laws.FnBuildTwice': WHATEVER THE INPUT: true; the input reads as it did. -/
def fnBuildTwiceSpec : ChangeSpec := { name := "fnBuildTwice", fn := fun _ => fun
  | [d1, d2, d3, d4] => { results := [.lit (.bool true)], args := [d1, d2, d3, d4] }
  | _ => none }
def fnBuildTwiceRow : OpenClaim := { program := "ytcenebjdhbdejaagreatdoor", sum := "6e447dd75339e699ff7d3064239df09fee88a9357653af65daa625bad4d60801", func := "pub-mycorrhiza/laws.FnBuildTwice", spec := "fnBuildTwice", inPlace := ["internal/reflectlite.TypeOf", "internal/reflectlite.ValueOf", "internal/reflectlite.Swapper", "(internal/reflectlite.Value).Len"], unfollowed := true, recurses := true, named := ["pub-mycorrhiza/pub/dbgraph.ErrVertexAlreadyExists", "pub-mycorrhiza/pub/dbgraph.ErrVertexNotFound", "pub-mycorrhiza/pub/dbgraph.ErrVertexHasEdges", "pub-mycorrhiza/pub/dbgraph.ErrEdgeAlreadyExists", "pub-mycorrhiza/pub/dbgraph.ErrEdgeNotFound", "pub-mycorrhiza/pub/dbgraph.ErrEdgeCreatesCycle"], plainKeys := false, apart := false, laid := [("pub-mycorrhiza/pub/dbgraph.ErrVertexNotFound", laid_pub_mycorrhiza_pub_dbgraph_ErrVertexNotFound), ("pub-mycorrhiza/pub/dbgraph.ErrVertexAlreadyExists", laid_pub_mycorrhiza_pub_dbgraph_ErrVertexAlreadyExists), ("pub-mycorrhiza/pub/dbgraph.ErrEdgeNotFound", laid_pub_mycorrhiza_pub_dbgraph_ErrEdgeNotFound), ("pub-mycorrhiza/pub/dbgraph.ErrEdgeAlreadyExists", laid_pub_mycorrhiza_pub_dbgraph_ErrEdgeAlreadyExists), ("pub-mycorrhiza/pub/dbgraph.ErrEdgeCreatesCycle", laid_pub_mycorrhiza_pub_dbgraph_ErrEdgeCreatesCycle), ("pub-mycorrhiza/pub/dbgraph.ErrVertexHasEdges", laid_pub_mycorrhiza_pub_dbgraph_ErrVertexHasEdges)] }
def FnBuildTwiceSaid : Prop := fnBuildTwiceRow.holds Tryz.pinned (OpenSpec.ofChange fnBuildTwiceSpec)

/-- ITS FALSE NEIGHBOUR: 'it returns false'. Refute it at one input. -/
def fnBuildTwiceWrong : ChangeSpec := { name := "fnBuildTwice", fn := fun _ => fun
  | [d1, d2, d3, d4] => { results := [.lit (.bool false)], args := [d1, d2, d3, d4] }
  | _ => none }
def FnBuildTwiceWrongFalsely : Prop := fnBuildTwiceRow.holds Tryz.pinned (OpenSpec.ofChange fnBuildTwiceWrong)

/-- 'laws.FnBuildClone': WHATEVER THE INPUT: true; the input reads as it did. -/
def fnBuildCloneSpec : ChangeSpec := { name := "fnBuildClone", fn := fun _ => fun
  | [d1, d2, d3, d4, d5] => { results := [.lit (.bool true)], args := [d1, d2, d3, d4, d5] }
  | _ => none }
def fnBuildCloneRow : OpenClaim := { program := "ytcenebjdhbdejaagreatdoor", sum := "6e447dd75339e699ff7d3064239df09fee88a9357653af65daa625bad4d60801", func := "pub-mycorrhiza/laws.FnBuildClone", spec := "fnBuildClone", inPlace := ["internal/reflectlite.TypeOf", "internal/reflectlite.ValueOf", "internal/reflectlite.Swapper", "(internal/reflectlite.Value).Len"], unfollowed := true, recurses := true, named := ["pub-mycorrhiza/pub/dbgraph.ErrVertexAlreadyExists", "pub-mycorrhiza/pub/dbgraph.ErrVertexNotFound", "pub-mycorrhiza/pub/dbgraph.ErrVertexHasEdges", "pub-mycorrhiza/pub/dbgraph.ErrEdgeAlreadyExists", "pub-mycorrhiza/pub/dbgraph.ErrEdgeNotFound", "pub-mycorrhiza/pub/dbgraph.ErrEdgeCreatesCycle"], plainKeys := false, apart := false, laid := [("pub-mycorrhiza/pub/dbgraph.ErrVertexNotFound", laid_pub_mycorrhiza_pub_dbgraph_ErrVertexNotFound), ("pub-mycorrhiza/pub/dbgraph.ErrVertexAlreadyExists", laid_pub_mycorrhiza_pub_dbgraph_ErrVertexAlreadyExists), ("pub-mycorrhiza/pub/dbgraph.ErrEdgeNotFound", laid_pub_mycorrhiza_pub_dbgraph_ErrEdgeNotFound), ("pub-mycorrhiza/pub/dbgraph.ErrEdgeAlreadyExists", laid_pub_mycorrhiza_pub_dbgraph_ErrEdgeAlreadyExists), ("pub-mycorrhiza/pub/dbgraph.ErrEdgeCreatesCycle", laid_pub_mycorrhiza_pub_dbgraph_ErrEdgeCreatesCycle), ("pub-mycorrhiza/pub/dbgraph.ErrVertexHasEdges", laid_pub_mycorrhiza_pub_dbgraph_ErrVertexHasEdges)] }
def FnBuildCloneSaid : Prop := fnBuildCloneRow.holds Tryz.pinned (OpenSpec.ofChange fnBuildCloneSpec)

/-- ITS FALSE NEIGHBOUR: 'it returns false'. Refute it at one input. -/
def fnBuildCloneWrong : ChangeSpec := { name := "fnBuildClone", fn := fun _ => fun
  | [d1, d2, d3, d4, d5] => { results := [.lit (.bool false)], args := [d1, d2, d3, d4, d5] }
  | _ => none }
def FnBuildCloneWrongFalsely : Prop := fnBuildCloneRow.holds Tryz.pinned (OpenSpec.ofChange fnBuildCloneWrong)

/- THE SECOND FORM. 'bulk': how many values and letters a reading holds, each counted each time it is reached (what is shared counts as often as it is met; a slice's spare places count too). A statement '..UptoSaid' is the law's where the arguments, and the package variables that the reading takes, are together of bulk at most 1048576: NARROWER than '..Said'. Prove '..Said' where nothing that the law and all that it calls make is longer than what came in: it says more and counts as full. Else prove '..UptoSaid'. A law counts once. -/
mutual
def uptoBulk {H : Type} : DataW H → Nat
  | .lit (.string bytes) => bytes.length + 1
  | .lit _ => 1
  | .nil => 1
  | .ptr d => uptoBulk d + 1
  | .slice elems spare => uptoBulkAll elems + uptoBulkAll spare + 1
  | .agg parts => uptoBulkAll parts + 1
  | .iface _ d => uptoBulk d + 1
  | .map entries => uptoBulkEntries entries + 1
  | .held _ => 1
def uptoBulkAll {H : Type} : List (DataW H) → Nat
  | [] => 0
  | d :: r => uptoBulk d + uptoBulkAll r
def uptoBulkEntries {H : Type} : List (Lit × DataW H) → Nat
  | [] => 0
  | x :: r => uptoBulkEntry x + uptoBulkEntries r
def uptoBulkEntry {H : Type} : Lit × DataW H → Nat
  | (.string bytes, d) => bytes.length + uptoBulk d + 1
  | (_, d) => uptoBulk d + 1
 end
def uptoSmall : (H : Type) → List (DataW H) → Bool := fun _ ds => decide (uptoBulkAll ds ≤ 1048576)
def OpenSpec.upto (s : _root_.Go.ChangeSpec) : _root_.Go.OpenSpec := { _root_.Go.OpenSpec.ofChange s with cond := some uptoSmall }

/-- 'laws.FnBuild', WHERE WHAT IT READS IS OF BULK AT MOST 1048576: true; the input reads as it did. -/
def fnBuildUptoRow : OpenClaim := { program := "ytcenebjdhbdejaagreatdoor", sum := "6e447dd75339e699ff7d3064239df09fee88a9357653af65daa625bad4d60801", func := "pub-mycorrhiza/laws.FnBuild", spec := "fnBuild", inPlace := ["internal/reflectlite.TypeOf", "internal/reflectlite.ValueOf", "internal/reflectlite.Swapper", "(internal/reflectlite.Value).Len"], unfollowed := true, recurses := true, named := ["pub-mycorrhiza/pub/dbgraph.ErrVertexAlreadyExists", "pub-mycorrhiza/pub/dbgraph.ErrVertexNotFound", "pub-mycorrhiza/pub/dbgraph.ErrVertexHasEdges", "pub-mycorrhiza/pub/dbgraph.ErrEdgeAlreadyExists", "pub-mycorrhiza/pub/dbgraph.ErrEdgeNotFound", "pub-mycorrhiza/pub/dbgraph.ErrEdgeCreatesCycle"], plainKeys := false, apart := false, laid := [("pub-mycorrhiza/pub/dbgraph.ErrVertexNotFound", laid_pub_mycorrhiza_pub_dbgraph_ErrVertexNotFound), ("pub-mycorrhiza/pub/dbgraph.ErrVertexAlreadyExists", laid_pub_mycorrhiza_pub_dbgraph_ErrVertexAlreadyExists), ("pub-mycorrhiza/pub/dbgraph.ErrEdgeNotFound", laid_pub_mycorrhiza_pub_dbgraph_ErrEdgeNotFound), ("pub-mycorrhiza/pub/dbgraph.ErrEdgeAlreadyExists", laid_pub_mycorrhiza_pub_dbgraph_ErrEdgeAlreadyExists), ("pub-mycorrhiza/pub/dbgraph.ErrEdgeCreatesCycle", laid_pub_mycorrhiza_pub_dbgraph_ErrEdgeCreatesCycle), ("pub-mycorrhiza/pub/dbgraph.ErrVertexHasEdges", laid_pub_mycorrhiza_pub_dbgraph_ErrVertexHasEdges)], narrowed := true }
def FnBuildUptoSaid : Prop := fnBuildUptoRow.holds Tryz.pinned (OpenSpec.upto fnBuildSpec)

/-- 'laws.FnBuildOrder', WHERE WHAT IT READS IS OF BULK AT MOST 1048576: true; the input reads as it did. -/
def fnBuildOrderUptoRow : OpenClaim := { program := "ytcenebjdhbdejaagreatdoor", sum := "6e447dd75339e699ff7d3064239df09fee88a9357653af65daa625bad4d60801", func := "pub-mycorrhiza/laws.FnBuildOrder", spec := "fnBuildOrder", inPlace := ["internal/reflectlite.TypeOf", "internal/reflectlite.ValueOf", "internal/reflectlite.Swapper", "(internal/reflectlite.Value).Len"], unfollowed := true, recurses := true, named := ["pub-mycorrhiza/pub/dbgraph.ErrVertexAlreadyExists", "pub-mycorrhiza/pub/dbgraph.ErrVertexNotFound", "pub-mycorrhiza/pub/dbgraph.ErrVertexHasEdges", "pub-mycorrhiza/pub/dbgraph.ErrEdgeAlreadyExists", "pub-mycorrhiza/pub/dbgraph.ErrEdgeNotFound", "pub-mycorrhiza/pub/dbgraph.ErrEdgeCreatesCycle"], plainKeys := false, apart := false, laid := [("pub-mycorrhiza/pub/dbgraph.ErrVertexNotFound", laid_pub_mycorrhiza_pub_dbgraph_ErrVertexNotFound), ("pub-mycorrhiza/pub/dbgraph.ErrVertexAlreadyExists", laid_pub_mycorrhiza_pub_dbgraph_ErrVertexAlreadyExists), ("pub-mycorrhiza/pub/dbgraph.ErrEdgeNotFound", laid_pub_mycorrhiza_pub_dbgraph_ErrEdgeNotFound), ("pub-mycorrhiza/pub/dbgraph.ErrEdgeAlreadyExists", laid_pub_mycorrhiza_pub_dbgraph_ErrEdgeAlreadyExists), ("pub-mycorrhiza/pub/dbgraph.ErrEdgeCreatesCycle", laid_pub_mycorrhiza_pub_dbgraph_ErrEdgeCreatesCycle), ("pub-mycorrhiza/pub/dbgraph.ErrVertexHasEdges", laid_pub_mycorrhiza_pub_dbgraph_ErrVertexHasEdges)], narrowed := true }
def FnBuildOrderUptoSaid : Prop := fnBuildOrderUptoRow.holds Tryz.pinned (OpenSpec.upto fnBuildOrderSpec)

/-- 'laws.FnBuildPrevented', WHERE WHAT IT READS IS OF BULK AT MOST 1048576: true; the input reads as it did. -/
def fnBuildPreventedUptoRow : OpenClaim := { program := "ytcenebjdhbdejaagreatdoor", sum := "6e447dd75339e699ff7d3064239df09fee88a9357653af65daa625bad4d60801", func := "pub-mycorrhiza/laws.FnBuildPrevented", spec := "fnBuildPrevented", inPlace := ["internal/reflectlite.TypeOf", "internal/reflectlite.ValueOf", "internal/reflectlite.Swapper", "(internal/reflectlite.Value).Len"], unfollowed := true, recurses := true, named := ["pub-mycorrhiza/pub/dbgraph.ErrVertexAlreadyExists", "pub-mycorrhiza/pub/dbgraph.ErrVertexNotFound", "pub-mycorrhiza/pub/dbgraph.ErrVertexHasEdges", "pub-mycorrhiza/pub/dbgraph.ErrEdgeAlreadyExists", "pub-mycorrhiza/pub/dbgraph.ErrEdgeNotFound", "pub-mycorrhiza/pub/dbgraph.ErrEdgeCreatesCycle"], plainKeys := false, apart := false, laid := [("pub-mycorrhiza/pub/dbgraph.ErrVertexNotFound", laid_pub_mycorrhiza_pub_dbgraph_ErrVertexNotFound), ("pub-mycorrhiza/pub/dbgraph.ErrVertexAlreadyExists", laid_pub_mycorrhiza_pub_dbgraph_ErrVertexAlreadyExists), ("pub-mycorrhiza/pub/dbgraph.ErrEdgeNotFound", laid_pub_mycorrhiza_pub_dbgraph_ErrEdgeNotFound), ("pub-mycorrhiza/pub/dbgraph.ErrEdgeAlreadyExists", laid_pub_mycorrhiza_pub_dbgraph_ErrEdgeAlreadyExists), ("pub-mycorrhiza/pub/dbgraph.ErrEdgeCreatesCycle", laid_pub_mycorrhiza_pub_dbgraph_ErrEdgeCreatesCycle), ("pub-mycorrhiza/pub/dbgraph.ErrVertexHasEdges", laid_pub_mycorrhiza_pub_dbgraph_ErrVertexHasEdges)], narrowed := true }
def FnBuildPreventedUptoSaid : Prop := fnBuildPreventedUptoRow.holds Tryz.pinned (OpenSpec.upto fnBuildPreventedSpec)

/-- 'laws.FnBuildFrom', WHERE WHAT IT READS IS OF BULK AT MOST 1048576: true; the input reads as it did. -/
def fnBuildFromUptoRow : OpenClaim := { program := "ytcenebjdhbdejaagreatdoor", sum := "6e447dd75339e699ff7d3064239df09fee88a9357653af65daa625bad4d60801", func := "pub-mycorrhiza/laws.FnBuildFrom", spec := "fnBuildFrom", inPlace := ["internal/reflectlite.TypeOf", "internal/reflectlite.ValueOf", "internal/reflectlite.Swapper", "(internal/reflectlite.Value).Len"], unfollowed := true, recurses := true, named := ["pub-mycorrhiza/pub/dbgraph.ErrVertexAlreadyExists", "pub-mycorrhiza/pub/dbgraph.ErrVertexNotFound", "pub-mycorrhiza/pub/dbgraph.ErrVertexHasEdges", "pub-mycorrhiza/pub/dbgraph.ErrEdgeAlreadyExists", "pub-mycorrhiza/pub/dbgraph.ErrEdgeNotFound", "pub-mycorrhiza/pub/dbgraph.ErrEdgeCreatesCycle"], plainKeys := false, apart := false, laid := [("pub-mycorrhiza/pub/dbgraph.ErrVertexNotFound", laid_pub_mycorrhiza_pub_dbgraph_ErrVertexNotFound), ("pub-mycorrhiza/pub/dbgraph.ErrVertexAlreadyExists", laid_pub_mycorrhiza_pub_dbgraph_ErrVertexAlreadyExists), ("pub-mycorrhiza/pub/dbgraph.ErrEdgeNotFound", laid_pub_mycorrhiza_pub_dbgraph_ErrEdgeNotFound), ("pub-mycorrhiza/pub/dbgraph.ErrEdgeAlreadyExists", laid_pub_mycorrhiza_pub_dbgraph_ErrEdgeAlreadyExists), ("pub-mycorrhiza/pub/dbgraph.ErrEdgeCreatesCycle", laid_pub_mycorrhiza_pub_dbgraph_ErrEdgeCreatesCycle), ("pub-mycorrhiza/pub/dbgraph.ErrVertexHasEdges", laid_pub_mycorrhiza_pub_dbgraph_ErrVertexHasEdges)], narrowed := true }
def FnBuildFromUptoSaid : Prop := fnBuildFromUptoRow.holds Tryz.pinned (OpenSpec.upto fnBuildFromSpec)

/-- 'laws.FnBuildTwice', WHERE WHAT IT READS IS OF BULK AT MOST 1048576: true; the input reads as it did. -/
def fnBuildTwiceUptoRow : OpenClaim := { program := "ytcenebjdhbdejaagreatdoor", sum := "6e447dd75339e699ff7d3064239df09fee88a9357653af65daa625bad4d60801", func := "pub-mycorrhiza/laws.FnBuildTwice", spec := "fnBuildTwice", inPlace := ["internal/reflectlite.TypeOf", "internal/reflectlite.ValueOf", "internal/reflectlite.Swapper", "(internal/reflectlite.Value).Len"], unfollowed := true, recurses := true, named := ["pub-mycorrhiza/pub/dbgraph.ErrVertexAlreadyExists", "pub-mycorrhiza/pub/dbgraph.ErrVertexNotFound", "pub-mycorrhiza/pub/dbgraph.ErrVertexHasEdges", "pub-mycorrhiza/pub/dbgraph.ErrEdgeAlreadyExists", "pub-mycorrhiza/pub/dbgraph.ErrEdgeNotFound", "pub-mycorrhiza/pub/dbgraph.ErrEdgeCreatesCycle"], plainKeys := false, apart := false, laid := [("pub-mycorrhiza/pub/dbgraph.ErrVertexNotFound", laid_pub_mycorrhiza_pub_dbgraph_ErrVertexNotFound), ("pub-mycorrhiza/pub/dbgraph.ErrVertexAlreadyExists", laid_pub_mycorrhiza_pub_dbgraph_ErrVertexAlreadyExists), ("pub-mycorrhiza/pub/dbgraph.ErrEdgeNotFound", laid_pub_mycorrhiza_pub_dbgraph_ErrEdgeNotFound), ("pub-mycorrhiza/pub/dbgraph.ErrEdgeAlreadyExists", laid_pub_mycorrhiza_pub_dbgraph_ErrEdgeAlreadyExists), ("pub-mycorrhiza/pub/dbgraph.ErrEdgeCreatesCycle", laid_pub_mycorrhiza_pub_dbgraph_ErrEdgeCreatesCycle), ("pub-mycorrhiza/pub/dbgraph.ErrVertexHasEdges", laid_pub_mycorrhiza_pub_dbgraph_ErrVertexHasEdges)], narrowed := true }
def FnBuildTwiceUptoSaid : Prop := fnBuildTwiceUptoRow.holds Tryz.pinned (OpenSpec.upto fnBuildTwiceSpec)

/-- 'laws.FnBuildClone', WHERE WHAT IT READS IS OF BULK AT MOST 1048576: true; the input reads as it did. -/
def fnBuildCloneUptoRow : OpenClaim := { program := "ytcenebjdhbdejaagreatdoor", sum := "6e447dd75339e699ff7d3064239df09fee88a9357653af65daa625bad4d60801", func := "pub-mycorrhiza/laws.FnBuildClone", spec := "fnBuildClone", inPlace := ["internal/reflectlite.TypeOf", "internal/reflectlite.ValueOf", "internal/reflectlite.Swapper", "(internal/reflectlite.Value).Len"], unfollowed := true, recurses := true, named := ["pub-mycorrhiza/pub/dbgraph.ErrVertexAlreadyExists", "pub-mycorrhiza/pub/dbgraph.ErrVertexNotFound", "pub-mycorrhiza/pub/dbgraph.ErrVertexHasEdges", "pub-mycorrhiza/pub/dbgraph.ErrEdgeAlreadyExists", "pub-mycorrhiza/pub/dbgraph.ErrEdgeNotFound", "pub-mycorrhiza/pub/dbgraph.ErrEdgeCreatesCycle"], plainKeys := false, apart := false, laid := [("pub-mycorrhiza/pub/dbgraph.ErrVertexNotFound", laid_pub_mycorrhiza_pub_dbgraph_ErrVertexNotFound), ("pub-mycorrhiza/pub/dbgraph.ErrVertexAlreadyExists", laid_pub_mycorrhiza_pub_dbgraph_ErrVertexAlreadyExists), ("pub-mycorrhiza/pub/dbgraph.ErrEdgeNotFound", laid_pub_mycorrhiza_pub_dbgraph_ErrEdgeNotFound), ("pub-mycorrhiza/pub/dbgraph.ErrEdgeAlreadyExists", laid_pub_mycorrhiza_pub_dbgraph_ErrEdgeAlreadyExists), ("pub-mycorrhiza/pub/dbgraph.ErrEdgeCreatesCycle", laid_pub_mycorrhiza_pub_dbgraph_ErrEdgeCreatesCycle), ("pub-mycorrhiza/pub/dbgraph.ErrVertexHasEdges", laid_pub_mycorrhiza_pub_dbgraph_ErrVertexHasEdges)], narrowed := true }
def FnBuildCloneUptoSaid : Prop := fnBuildCloneUptoRow.holds Tryz.pinned (OpenSpec.upto fnBuildCloneSpec)

end Rows
end Go.Proofs.YtcenebjdhbdejaaGreatDoor
