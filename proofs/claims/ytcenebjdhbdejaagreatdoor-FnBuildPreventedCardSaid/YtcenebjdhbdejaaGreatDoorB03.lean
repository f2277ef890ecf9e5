/- The methods that the interfaces lead to: closed facts. -/
import Derived.Test.YtcenebjdhbdejaaGreatDoorChecked
import Derived.Deep.LoopGhost
namespace Go.Proofs.YtcenebjdhbdejaaGreatDoor
theorem M141_AddEdge (v : Value) (w : World) : (Go.method 354 141 v "AddEdge").run Tryz.prog w = .ok (101, v) w := by kernel_rfl
theorem M141_AddEdgesFrom (v : Value) (w : World) : (Go.method 354 141 v "AddEdgesFrom").run Tryz.prog w = .ok (102, v) w := by kernel_rfl
theorem M141_AddVertex (v : Value) (w : World) : (Go.method 354 141 v "AddVertex").run Tryz.prog w = .ok (103, v) w := by kernel_rfl
theorem M141_AddVerticesFrom (v : Value) (w : World) : (Go.method 354 141 v "AddVerticesFrom").run Tryz.prog w = .ok (104, v) w := by kernel_rfl
theorem M141_AdjacencyMap (v : Value) (w : World) : (Go.method 354 141 v "AdjacencyMap").run Tryz.prog w = .ok (105, v) w := by kernel_rfl
theorem M141_Clone (v : Value) (w : World) : (Go.method 354 141 v "Clone").run Tryz.prog w = .ok (106, v) w := by kernel_rfl
theorem M141_Edge (v : Value) (w : World) : (Go.method 354 141 v "Edge").run Tryz.prog w = .ok (107, v) w := by kernel_rfl
theorem M141_Edges (v : Value) (w : World) : (Go.method 354 141 v "Edges").run Tryz.prog w = .ok (108, v) w := by kernel_rfl
theorem M141_Order (v : Value) (w : World) : (Go.method 354 141 v "Order").run Tryz.prog w = .ok (109, v) w := by kernel_rfl
theorem M141_PredecessorMap (v : Value) (w : World) : (Go.method 354 141 v "PredecessorMap").run Tryz.prog w = .ok (110, v) w := by kernel_rfl
theorem M141_RemoveEdge (v : Value) (w : World) : (Go.method 354 141 v "RemoveEdge").run Tryz.prog w = .ok (111, v) w := by kernel_rfl
theorem M141_RemoveVertex (v : Value) (w : World) : (Go.method 354 141 v "RemoveVertex").run Tryz.prog w = .ok (112, v) w := by kernel_rfl
theorem M141_Size (v : Value) (w : World) : (Go.method 354 141 v "Size").run Tryz.prog w = .ok (113, v) w := by kernel_rfl
theorem M141_Traits (v : Value) (w : World) : (Go.method 354 141 v "Traits").run Tryz.prog w = .ok (114, v) w := by kernel_rfl
theorem M141_UpdateEdge (v : Value) (w : World) : (Go.method 354 141 v "UpdateEdge").run Tryz.prog w = .ok (115, v) w := by kernel_rfl
theorem M141_Vertex (v : Value) (w : World) : (Go.method 354 141 v "Vertex").run Tryz.prog w = .ok (116, v) w := by kernel_rfl
theorem M141_VertexWithProperties (v : Value) (w : World) : (Go.method 354 141 v "VertexWithProperties").run Tryz.prog w = .ok (117, v) w := by kernel_rfl
theorem M143_AddEdge (v : Value) (w : World) : (Go.method 354 143 v "AddEdge").run Tryz.prog w = .ok (126, v) w := by kernel_rfl
theorem M143_AddEdgesFrom (v : Value) (w : World) : (Go.method 354 143 v "AddEdgesFrom").run Tryz.prog w = .ok (127, v) w := by kernel_rfl
theorem M143_AddVertex (v : Value) (w : World) : (Go.method 354 143 v "AddVertex").run Tryz.prog w = .ok (128, v) w := by kernel_rfl
theorem M143_AddVerticesFrom (v : Value) (w : World) : (Go.method 354 143 v "AddVerticesFrom").run Tryz.prog w = .ok (129, v) w := by kernel_rfl
theorem M143_AdjacencyMap (v : Value) (w : World) : (Go.method 354 143 v "AdjacencyMap").run Tryz.prog w = .ok (130, v) w := by kernel_rfl
theorem M143_Clone (v : Value) (w : World) : (Go.method 354 143 v "Clone").run Tryz.prog w = .ok (131, v) w := by kernel_rfl
theorem M143_Edge (v : Value) (w : World) : (Go.method 354 143 v "Edge").run Tryz.prog w = .ok (132, v) w := by kernel_rfl
theorem M143_Edges (v : Value) (w : World) : (Go.method 354 143 v "Edges").run Tryz.prog w = .ok (133, v) w := by kernel_rfl
theorem M143_Order (v : Value) (w : World) : (Go.method 354 143 v "Order").run Tryz.prog w = .ok (134, v) w := by kernel_rfl
theorem M143_PredecessorMap (v : Value) (w : World) : (Go.method 354 143 v "PredecessorMap").run Tryz.prog w = .ok (135, v) w := by kernel_rfl
theorem M143_RemoveEdge (v : Value) (w : World) : (Go.method 354 143 v "RemoveEdge").run Tryz.prog w = .ok (136, v) w := by kernel_rfl
theorem M143_RemoveVertex (v : Value) (w : World) : (Go.method 354 143 v "RemoveVertex").run Tryz.prog w = .ok (137, v) w := by kernel_rfl
theorem M143_Size (v : Value) (w : World) : (Go.method 354 143 v "Size").run Tryz.prog w = .ok (138, v) w := by kernel_rfl
theorem M143_Traits (v : Value) (w : World) : (Go.method 354 143 v "Traits").run Tryz.prog w = .ok (139, v) w := by kernel_rfl
theorem M143_UpdateEdge (v : Value) (w : World) : (Go.method 354 143 v "UpdateEdge").run Tryz.prog w = .ok (140, v) w := by kernel_rfl
theorem M143_Vertex (v : Value) (w : World) : (Go.method 354 143 v "Vertex").run Tryz.prog w = .ok (141, v) w := by kernel_rfl
theorem M143_VertexWithProperties (v : Value) (w : World) : (Go.method 354 143 v "VertexWithProperties").run Tryz.prog w = .ok (142, v) w := by kernel_rfl
theorem M145_AddEdge (v : Value) (w : World) : (Go.method 354 145 v "AddEdge").run Tryz.prog w = .ok (144, v) w := by kernel_rfl
theorem M145_AddVertex (v : Value) (w : World) : (Go.method 354 145 v "AddVertex").run Tryz.prog w = .ok (145, v) w := by kernel_rfl
theorem M145_CreatesCycle (v : Value) (w : World) : (Go.method 354 145 v "CreatesCycle").run Tryz.prog w = .ok (146, v) w := by kernel_rfl
theorem M145_Edge (v : Value) (w : World) : (Go.method 354 145 v "Edge").run Tryz.prog w = .ok (147, v) w := by kernel_rfl
theorem M145_ListEdges (v : Value) (w : World) : (Go.method 354 145 v "ListEdges").run Tryz.prog w = .ok (148, v) w := by kernel_rfl
theorem M145_ListVertices (v : Value) (w : World) : (Go.method 354 145 v "ListVertices").run Tryz.prog w = .ok (149, v) w := by kernel_rfl
theorem M145_RemoveEdge (v : Value) (w : World) : (Go.method 354 145 v "RemoveEdge").run Tryz.prog w = .ok (150, v) w := by kernel_rfl
theorem M145_RemoveVertex (v : Value) (w : World) : (Go.method 354 145 v "RemoveVertex").run Tryz.prog w = .ok (151, v) w := by kernel_rfl
theorem M145_UpdateEdge (v : Value) (w : World) : (Go.method 354 145 v "UpdateEdge").run Tryz.prog w = .ok (152, v) w := by kernel_rfl
theorem M145_Vertex (v : Value) (w : World) : (Go.method 354 145 v "Vertex").run Tryz.prog w = .ok (153, v) w := by kernel_rfl
theorem M145_VertexCount (v : Value) (w : World) : (Go.method 354 145 v "VertexCount").run Tryz.prog w = .ok (154, v) w := by kernel_rfl
end Go.Proofs.YtcenebjdhbdejaaGreatDoor
