/- The options of an edge and of a vertex, zzWrap, the directed graph's addEdge: walked. stepped: the steps that say an error alone, walked. -/
import Derived.Test.YtcenebjdhbdejaaGreatDoorB04
import Derived.Test.YtcenebjdhbdejaaGreatDoorB05
import Derived.Test.YtcenebjdhbdejaaGreatDoorB03
namespace Go.Proofs.YtcenebjdhbdejaaGreatDoor
open Go.MapKept

set_option maxRecDepth 100000 in
theorem wrap_any (t : TypeId) (v : Value) (w : World) : Calls Tryz.prog 118 #[.iface t v] w fun r w' => r = .returned (.iface 226 (.agg #[.iface t v])) ∧ w' = w := by
  go_enter Tryz.func118, Tryz.ntmps118
  go_wp2
  go_ret
  exact ⟨rfl, rfl⟩

/-- an edge of the call's own, that an option turns -/
abbrev ownE (s t : Int) (m : Nat) (wt : Int) : Obj := .cells #[kI s, kI t, .map (some m), .int .i64 wt, .nilIface] 97 (0, 0)

theorem set_own {w : World} {b : Nat} {s t : Int} {m : Nat} {wt : Int} (h : w.heap[b]? = some (ownE s t m wt)) (wt' : Int) : (w.setCell ⟨b, 3, none⟩ (.int .i64 wt')).heap[b]? = some (ownE s t m wt') := set_heap h _
theorem set_own' {w : World} {b : Nat} {s t : Int} {m : Nat} {wt : Int} (h : w.heap[b]? = some (ownE s t m wt)) : (w.setCell ⟨b, 4, none⟩ .nilIface).heap[b]? = some (ownE s t m wt) := set_heap h _

set_option maxRecDepth 100000 in
theorem weight_run {w : World} {b a : Nat} {s t : Int} {m : Nat} {wt wt' : Int} (h : w.heap[b]? = some (ownE s t m wt)) (hc : w.cell? ⟨a, 0, none⟩ = some (.int .i64 wt')) :
    Calls Tryz.prog 47 #[.pointer (some ⟨b, 2, none⟩), .pointer (some ⟨a, 0, none⟩)] w fun r w' => r = .returned (.tuple #[]) ∧ w'.heap[b]? = some (ownE s t m wt') ∧ Ext (fun c => c = b) w w' := by
  have x3 : w.cell? ⟨b, 3, none⟩ = some (.int .i64 wt) := by simp [World.cell?, h]
  have f3 : w.frozen? ⟨b, 3, none⟩ = false := by simp [World.frozen?, h]
  have l0 := World.block_lt_of_cell? _ _ x3
  have l1 := World.block_lt_of_cell? _ _ hc
  have H := Lib.hid h
  clear h
  go_enter Tryz.func47, Tryz.ntmps47
  go_wp2
  go_end0
  exact ⟨rfl, set_own H.out _, (Ext.refl _ _).setCell _ _ (fun _ => rfl)⟩

theorem U93 : Tryz.prog.underlying 93 = some (.map 9 9) := by kernel_rfl

set_option maxRecDepth 100000 in
set_option maxHeartbeats 400000 in
theorem copy_run {w : World} {b a : Nat} {s t s' t' : Int} {m m' : Nat} {wt wt' : Int} (h : w.heap[b]? = some (ownE s t m wt)) (ha : w.heap[a]? = some (ownE s' t' m' wt')) (hm : w.heap[m']? = some (.map #[] 0)) (_hab : a ≠ b) :
    Calls Tryz.prog 124 #[.pointer (some ⟨b, 2, none⟩), .pointer (some ⟨a, 0, none⟩)] w fun r w' => r = .returned (.tuple #[]) ∧ w'.heap[b]? = some (ownE s t m wt') ∧ Ext (fun c => c = b) w w' := by
  obtain ⟨a0, a1, a2, a3, a4, -⟩ := edge_cells ha (Ext.refl _ w)
  have l1 := World.block_lt_of_cell? _ _ a0
  have H := Lib.hid (And.intro h (And.intro ha hm))
  have hm1 : MapI kI w m' [] := MapI.empty hm
  clear h ha hm a0 a1
  go_enter Tryz.func124, Tryz.ntmps124
  go_wp2_with (first | (at_range; (refine wpL_range rfl rfl U93 rfl hm1 ?_); intro w2 hI2 hs2 he2))
  have e2 : Ext No w w2 := he2
  obtain ⟨b0, b1, b2, b3, b4, f0, f1, f2, f3, f4⟩ := edge_cells H.out.1 e2
  obtain ⟨a0, a1, a2, a3, a4, -⟩ := edge_cells H.out.2.1 e2
  have l1 := World.block_lt_of_cell? _ _ a0
  have l2 := World.block_lt_of_cell? _ _ b0
  have HE := Lib.hid e2
  clear hs2 he2 e2 a0 a1 b0 b1
  refine wp_loop_rounds 1 ?_
  rw [rounds_succ]
  go_wp2_with (first | (at_next; (refine wpL_nextM (γ := Int × Value) (g := id) (left := []) rfl rfl rfl hI2 ?_ ?_); intro h0; rotate_left; (intro l1 o l2 wn h1; simp at h1)))
  go_end0
  refine ⟨rfl, set_own' (set_own (HE.out.obj H.out.1 id) _), ((HE.out.no (S := fun c => c = b)).setCell _ _ (fun _ => rfl)).setCell _ _ (fun _ => rfl)⟩

/-- An option that sets an edge's weight: EdgeWeight's, or copyEdge's (which copies no attributes, there being none). -/
inductive Opt (w : World) (wt : Int) : Value → Prop
  | weight (a : Nat) : w.cell? ⟨a, 0, none⟩ = some (.int .i64 wt) → Opt w wt (.func (.func 47) #[] #[.pointer (some ⟨a, 0, none⟩)])
  | copy (a : Nat) (s t : Int) (m : Nat) : w.heap[a]? = some (ownE s t m wt) → w.heap[m]? = some (.map #[] 0) → Opt w wt (.func (.func 124) #[] #[.pointer (some ⟨a, 0, none⟩)])

set_option maxRecDepth 100000 in
set_option maxHeartbeats 400000 in
theorem d_addEdgeIn {w : World} {H : Hd} {τ : Tr} {σ : St} {e : EdgeR} (h : Gr w H τ σ) (hs : ∃ n, (e.src, n) ∈ σ.V) (hd : ∃ n, (e.dst, n) ∈ σ.V)
    (hne : ∀ e' ∈ σ.E, ¬ (e'.src = e.src ∧ e'.dst = e.dst)) (hat : w.heap[e.att]? = some (.map #[] 0)) (ha : e.att ∉ σ.blocks H.A) :
    Calls Tryz.prog 120 #[.pointer (some ⟨H.d, 0, none⟩), kI e.src, kI e.dst, e.val] w fun r w' => r = .returned .nilIface ∧ AddedE H.A σ e w w' := by
  have hlt := h.lt
  have d2 := h.d2
  have HG := Lib.hid (And.intro h (And.intro hs (And.intro hd (And.intro hne (And.intro hat ha)))))
  clear h hs hd hne hat ha
  go_enter Tryz.func120, Tryz.ntmps120
  go_wp2
  have q0 : (w.alloc (.cells #[kI e.src, kI e.dst, .map (some e.att), .int .i64 e.wt, .nilIface] 97)).cell? ⟨H.d, 2, none⟩ = some (storeV H.A) := ((Ext.refl No w).alloc _).cellv d2 id
  have r0 := (heap_alloc w (.cells #[kI e.src, kI e.dst, .map (some e.att), .int .i64 e.wt, .nilIface] 97)).1
  have e1 : Ext No w (w.alloc (.cells #[kI e.src, kI e.dst, .map (some e.att), .int .i64 e.wt, .nilIface] 97)) := (Ext.refl No w).alloc _
  revert q0 r0 e1
  generalize w.alloc (.cells #[kI e.src, kI e.dst, .map (some e.att), .int .i64 e.wt, .nilIface] 97) = W
  intro q0 r0 e1
  obtain ⟨b0, b1, b2, b3, b4, -⟩ := edge_cells r0 (Ext.refl _ W)
  have hM := M145_AddEdge
  have HE := Lib.hid e1
  clear r0 e1
  go_still_tail 7, (by kernel_rfl)
  obtain ⟨h, hs, hd, hne, hat, ha⟩ := HG.out
  have HC := Lib.hid (store_addEdge (h.st.ext HE.out.drew (fun _ _ => id)) hs hd hne (HE.out.drew.obj hat id) ha)
  clear h hs hd hne hat ha
  go_wp2_with (go_at_call 144; refine HC.out.mono ?_; rintro e w' ⟨rfl, h1⟩)
  go_ret
  obtain ⟨O', I', g1, g2, g3⟩ := h1
  exact ⟨rfl, O', I', g1, HE.out.drew.no.trans g2, fun c hc => (g3 c hc).imp id (fun h => Nat.le_trans HE.out.size h)⟩
end Go.Proofs.YtcenebjdhbdejaaGreatDoor

namespace Go.Proofs.YtcenebjdhbdejaaGreatDoor
open Go.MapKept

/-- results: one in a slot, and a variable in memory -/
theorem results_tmp_cell {P : Program} {fn : Func} {p q : Tmp} {ty : TypeId} (h : fn.results = #[.tmp q, .cell p ty]) {tmps : Array Value} {w : World} {g : Nat} {t : TypeId} {cs : Array Value} {fr : Nat × Nat} {d : TypeDesc}
    (hp : tmps.getD p undef = .pointer (some ⟨g, 0, none⟩)) (hg : w.heap[g]? = some (.cells cs t fr))
    (hu : P.underlying ty = some d) (hd : (match d with | .struct _ | .array _ _ => true | _ => false) = true) (hi : (P.info? ty).map (·.size) = some cs.size) {v : Value} (hv : tmps.getD q undef = v) :
    (results fn tmps).run P w = .ok (.tuple #[v, .agg cs]) w := by
  have hp' : tmps[p]?.getD undef = .pointer (some ⟨g, 0, none⟩) := by simpa using hp
  have hv' : tmps[q]?.getD undef = v := by simpa using hv
  simp [results, h, hp', hv', asAddr, run_loadVar_row w g t ty cs fr d hg hu hd hi]

set_option maxRecDepth 100000 in
theorem edgeWeight_run (wt : Int) (w : World) : Calls Tryz.prog 35 #[.int .i64 wt] w fun r w' => r = .returned (.func (.func 47) #[] #[.pointer (some ⟨w.heap.size, 0, none⟩)]) ∧ w' = w.alloc (.cells #[.int .i64 wt] 3) := by
  go_enter Tryz.func35, Tryz.ntmps35
  go_wp2
  go_ret
  exact ⟨rfl, rfl⟩

/-- errorOf of an error of the package, or of none -/
theorem errorOf_any {p : Nat → Addr} {w : World} {B : Nat} (hp : Sent w p) (hB : Below6 B p) (e : Option Er) (hk : ∀ x, e = some x → x.no < 6) :
    Calls Tryz.prog 29 #[erv p e] w fun r w' => r = .returned (.int .u8 (numOf e)) ∧ Ext No w w' := by
  cases e with
  | none => exact (errorOf_nil w).mono fun r w' h => ⟨h.1, h.2 ▸ Ext.refl _ _⟩
  | some e => exact (errorOf_some hp hB e e.no (hk e rfl) rfl).mono fun r w' h => h

/-- A method of a type: its function. -/
structure Meth (T : TypeId) (name : String) where
  f : FuncId
  m : ∀ v w, (Go.method 354 T v name).run Tryz.prog w = .ok (f, v) w
  e : ∀ args w, (callFunc f args).run Tryz.prog w = .ok (.enter f args) w

/-- A kind of graph: its type, its methods. -/
structure GK where
  T : TypeId
  av : Meth T "AddVertex"
  rv : Meth T "RemoveVertex"
  ae : Meth T "AddEdge"
  re : Meth T "RemoveEdge"
  ue : Meth T "UpdateEdge"
  vx : Meth T "Vertex"
  ed : Meth T "Edge"
  od : Meth T "Order"
  sz : Meth T "Size"
  am : Meth T "AdjacencyMap"
  pm : Meth T "PredecessorMap"
  cl : Meth T "Clone"

def GKd : GK where
  T := 141
  av := ⟨103, M141_AddVertex, fun _ _ => by kernel_rfl⟩
  rv := ⟨112, M141_RemoveVertex, fun _ _ => by kernel_rfl⟩
  ae := ⟨101, M141_AddEdge, fun _ _ => by kernel_rfl⟩
  re := ⟨111, M141_RemoveEdge, fun _ _ => by kernel_rfl⟩
  ue := ⟨115, M141_UpdateEdge, fun _ _ => by kernel_rfl⟩
  vx := ⟨116, M141_Vertex, fun _ _ => by kernel_rfl⟩
  ed := ⟨107, M141_Edge, fun _ _ => by kernel_rfl⟩
  od := ⟨109, M141_Order, fun _ _ => by kernel_rfl⟩
  sz := ⟨113, M141_Size, fun _ _ => by kernel_rfl⟩
  am := ⟨105, M141_AdjacencyMap, fun _ _ => by kernel_rfl⟩
  pm := ⟨110, M141_PredecessorMap, fun _ _ => by kernel_rfl⟩
  cl := ⟨106, M141_Clone, fun _ _ => by kernel_rfl⟩

def GKu : GK where
  T := 143
  av := ⟨128, M143_AddVertex, fun _ _ => by kernel_rfl⟩
  rv := ⟨137, M143_RemoveVertex, fun _ _ => by kernel_rfl⟩
  ae := ⟨126, M143_AddEdge, fun _ _ => by kernel_rfl⟩
  re := ⟨136, M143_RemoveEdge, fun _ _ => by kernel_rfl⟩
  ue := ⟨140, M143_UpdateEdge, fun _ _ => by kernel_rfl⟩
  vx := ⟨141, M143_Vertex, fun _ _ => by kernel_rfl⟩
  ed := ⟨132, M143_Edge, fun _ _ => by kernel_rfl⟩
  od := ⟨134, M143_Order, fun _ _ => by kernel_rfl⟩
  sz := ⟨138, M143_Size, fun _ _ => by kernel_rfl⟩
  am := ⟨130, M143_AdjacencyMap, fun _ _ => by kernel_rfl⟩
  pm := ⟨135, M143_PredecessorMap, fun _ _ => by kernel_rfl⟩
  cl := ⟨131, M143_Clone, fun _ _ => by kernel_rfl⟩

abbrev stepV (op : Int) (a b wt : Int) : Value := .agg #[.int .u8 op, kI a, kI b, .int .i64 wt]
abbrev saidV (er a b wt : Int) (ks es : Value) : Value := .agg #[.int .u8 er, kI a, kI b, .int .i64 wt, ks, es]
abbrev nilS : Value := .slice none 0 0

theorem sz39 : (Tryz.prog.info? 39).map (·.size) = some 6 := by kernel_rfl

/-- what a call that says an error leaves: R tells of the worlds ahead of it and behind it; it turns blocks below N, and new ones -/
def SaysErr (p : Nat → Addr) (N : Nat) (R : Option Er → World → World → Prop) (w : World) (r : Ending) (w' : World) : Prop :=
  ∃ er : Option Er, r = .returned (erv p er) ∧ (∀ x, er = some x → x.no < 6) ∧ Sent w' p ∧ Ext (fun c => c < N) w w' ∧ R er w w'

/-- between: a world ahead of the call, one behind it; what stepped itself makes lies between the two -/
def Stepped (w : World) (R : World → World → Prop) (w' : World) : Prop :=
  ∃ w1 w2, Ext No w w1 ∧ R w1 w2 ∧ Ext (fun c => w.heap.size ≤ c ∧ c < w1.heap.size) w2 w'

abbrev said0 : Obj := .cells #[.int .u8 0, .int .i64 0, .int .i64 0, .int .i64 0, nilS, nilS] 39 (0, 0)

/-- stepped's world as the switch begins -/
abbrev sw (w : World) (op a b wt : Int) : World := (((w.alloc (.cells #[.int .u8 op, kI a, kI b, .int .i64 wt] 64)).alloc said0).alloc said0).alloc (.cells #[.int .i64 wt] 3)

theorem sw_ext (w : World) (op a b wt : Int) : Ext No w (sw w op a b wt) := ((((Ext.refl No w).alloc _).alloc _).alloc _).alloc _
theorem sw_size (w : World) (op a b wt : Int) : (sw w op a b wt).heap.size = w.heap.size + 4 := by simp
theorem sw_step (w : World) (op a b wt : Int) : (sw w op a b wt).heap[w.heap.size]? = some (.cells #[.int .u8 op, kI a, kI b, .int .i64 wt] 64 (0, 0)) :=
  alloc_heap (alloc_heap (alloc_heap (heap_alloc w _).1 _) _) _
theorem sw_res (w : World) (op a b wt : Int) : (sw w op a b wt).heap[w.heap.size + 1]? = some said0 := by
  refine alloc_heap (alloc_heap ?_ _) _
  have := (heap_alloc (w.alloc (.cells #[.int .u8 op, kI a, kI b, .int .i64 wt] 64)) said0).1
  rwa [World.size_alloc] at this
theorem sw_said (w : World) (op a b wt : Int) : (sw w op a b wt).heap[w.heap.size + 2]? = some said0 := by
  refine alloc_heap ?_ _
  have := (heap_alloc ((w.alloc (.cells #[.int .u8 op, kI a, kI b, .int .i64 wt] 64)).alloc said0) said0).1
  rwa [World.size_alloc, World.size_alloc] at this
theorem sw_wt (w : World) (op a b wt : Int) : (sw w op a b wt).heap[w.heap.size + 3]? = some (.cells #[.int .i64 wt] 3 (0, 0)) := by
  have := (heap_alloc (((w.alloc (.cells #[.int .u8 op, kI a, kI b, .int .i64 wt] 64)).alloc said0).alloc said0) (.cells #[.int .i64 wt] 3)).1
  simpa using this

theorem cells6 {w : World} {b : Nat} {c0 c1 c2 c3 c4 c5 : Value} {T : TypeId} (h : w.heap[b]? = some (.cells #[c0, c1, c2, c3, c4, c5] T (0, 0))) :
    w.cell? ⟨b, 0, none⟩ = some c0 ∧ w.cell? ⟨b, 1, none⟩ = some c1 ∧ w.cell? ⟨b, 2, none⟩ = some c2 ∧ w.cell? ⟨b, 3, none⟩ = some c3 ∧ w.cell? ⟨b, 4, none⟩ = some c4 ∧ w.cell? ⟨b, 5, none⟩ = some c5 ∧
    w.frozen? ⟨b, 0, none⟩ = false ∧ w.frozen? ⟨b, 1, none⟩ = false ∧ w.frozen? ⟨b, 2, none⟩ = false ∧ w.frozen? ⟨b, 3, none⟩ = false ∧ w.frozen? ⟨b, 4, none⟩ = false ∧ w.frozen? ⟨b, 5, none⟩ = false := by
  simp [World.cell?, World.frozen?, h]

theorem set6 {w : World} {b : Nat} {c0 c1 c2 c3 c4 c5 : Value} {T : TypeId} {fr : Nat × Nat} (h : w.heap[b]? = some (.cells #[c0, c1, c2, c3, c4, c5] T fr)) (v0 v1 v2 v3 v4 v5 : Value) :
    ((((((w.setCell ⟨b, 0, none⟩ v0).setCell ⟨b, 1, none⟩ v1).setCell ⟨b, 2, none⟩ v2).setCell ⟨b, 3, none⟩ v3).setCell ⟨b, 4, none⟩ v4).setCell ⟨b, 5, none⟩ v5).heap[b]? = some (.cells #[v0, v1, v2, v3, v4, v5] T fr) :=
  set_heap (set_heap (set_heap (set_heap (set_heap (set_heap h v0) v1) v2) v3) v4) v5

theorem at_drew {w : World} {b : Nat} {o : Obj} (h : w.heap[b]? = some o) : w.drew.heap[b]? = some o := h

theorem Ext.set6 {S : Nat → Prop} {w w' : World} (h : Ext S w w') {b : Nat} (hb : S b) (v0 v1 v2 v3 v4 v5 : Value) :
    Ext S w ((((((w'.setCell ⟨b, 0, none⟩ v0).setCell ⟨b, 1, none⟩ v1).setCell ⟨b, 2, none⟩ v2).setCell ⟨b, 3, none⟩ v3).setCell ⟨b, 4, none⟩ v4).setCell ⟨b, 5, none⟩ v5) :=
  (((((h.setCell _ _ (fun _ => hb)).setCell _ _ (fun _ => hb)).setCell _ _ (fun _ => hb)).setCell _ _ (fun _ => hb)).setCell _ _ (fun _ => hb)).setCell _ _ (fun _ => hb)

/-- EdgeWeight's option, in stepped's world -/
abbrev wtF (w : World) : Value := .func (.func 47) #[] #[.pointer (some ⟨w.heap.size + 3, 0, none⟩)]
/-- stepped's world as a call with an option begins -/
abbrev swo (w : World) (op a b wt : Int) : World := (sw w op a b wt).alloc (.cells #[wtF w] 85)

theorem swo_ext (w : World) (op a b wt : Int) : Ext No w (swo w op a b wt) := (sw_ext w op a b wt).alloc _
theorem swo_size (w : World) (op a b wt : Int) : (swo w op a b wt).heap.size = w.heap.size + 5 := by simp
theorem swo_res (w : World) (op a b wt : Int) : (swo w op a b wt).heap[w.heap.size + 1]? = some said0 := alloc_heap (sw_res w op a b wt) _
theorem swo_said (w : World) (op a b wt : Int) : (swo w op a b wt).heap[w.heap.size + 2]? = some said0 := alloc_heap (sw_said w op a b wt) _
theorem swo_cell (w : World) (op a b wt : Int) : (swo w op a b wt).cell? ⟨w.heap.size + 4, 0, none⟩ = some (wtF w) := by
  have h := (heap_alloc (sw w op a b wt) (.cells #[wtF w] 85)).1
  rw [sw_size] at h
  rw [cell_of_row _ _ _ _ _ _ h]; rfl
theorem swo_opt (w : World) (op a b wt : Int) : Opt (swo w op a b wt) wt (wtF w) := by
  have h : (swo w op a b wt).heap[w.heap.size + 3]? = _ := alloc_heap (sw_wt w op a b wt) _
  exact Opt.weight _ (by rw [cell_of_row _ _ _ _ _ _ h]; rfl)

set_option maxRecDepth 100000 in
set_option maxHeartbeats 1000000 in
theorem stepped_av (G : GK) {w : World} {d : Addr} {a b wt : Int} {p : Nat → Addr} {B : Nat} (hB : Below6 B p) {R : Option Er → World → World → Prop}
    (hC : ∀ w', Ext No w w' → Calls Tryz.prog G.av.f #[.pointer (some d), kI a, .slice none 0 0] w' (SaysErr p w.heap.size R w')) :
    Calls Tryz.prog 24 #[.iface G.T (.pointer (some d)), stepV 0 a b wt] w fun r w' => ∃ er, r = .returned (.tuple #[.iface G.T (.pointer (some d)), saidV (numOf er) 0 0 0 nilS nilS]) ∧ Stepped w (R er) w' := by
  have HC := Lib.hid (hC _ (sw_ext w 0 a b wt))
  have HB := Lib.hid hB
  clear hC hB
  have hM := G.av.m
  have hE := G.av.e
  go_enter Tryz.func24, Tryz.ntmps24
  go_wp2_with (go_at_call 35; (refine (edgeWeight_run _ _).mono ?_); rintro r1 w1 ⟨rfl, rfl⟩)
  refine HC.out.mono ?_
  rintro r1 w2 ⟨er, rfl, hno, hp, he, hR⟩
  have r6 := he.obj (sw_said w 0 a b wt) (by omega)
  have r5 := he.obj (sw_res w 0 a b wt) (by omega)
  have HR := Lib.hid (And.intro hno (And.intro hp (And.intro he (And.intro hR (And.intro r6 r5)))))
  clear hno hp he hR r6 r5
  go_wp2_with fail
  refine (errorOf_any HR.out.2.1 HB.out er HR.out.1).mono ?_
  rintro r2 w3 ⟨rfl, h3⟩
  have r6 := h3.obj HR.out.2.2.2.2.1 id
  have r5 := h3.obj HR.out.2.2.2.2.2 id
  obtain ⟨x0, x1, x2, x3, x4, x5, f0, f1, f2, f3, f4, f5⟩ := cells6 r6
  obtain ⟨y0, y1, y2, y3, y4, y5, g0, g1, g2, g3, g4, g5⟩ := cells6 r5
  have l6 := World.block_lt_of_cell? _ _ x0
  have l5 := World.block_lt_of_cell? _ _ y0
  have HR3 := Lib.hid (And.intro h3 (And.intro r6 r5))
  clear h3 r6 r5
  go_wp2_with fail
  have z6 := set_heap (o := 0) HR3.out.2.1 (.int .u8 (numOf er))
  have z5 := ((Ext.refl (fun c => c = w.heap.size + 2) w3).setCell ⟨w.heap.size + 2, 0, none⟩ (.int .u8 (numOf er)) (fun _ => rfl)).obj HR3.out.2.2 (by omega)
  have ez : Ext (fun c => w.heap.size ≤ c ∧ c < w.heap.size + 4) w2 (w3.setCell ⟨w.heap.size + 2, 0, none⟩ (.int .u8 (numOf er))) := (HR3.out.1.no).setCell _ _ (fun _ => ⟨by simp, by simp⟩)
  clear x0 x1 x2 x3 x4 x5 y0 y1 y2 y3 y4 y5 f0 f1 f2 f3 f4 f5 g0 g1 g2 g3 g4 g5 l6 l5
  revert z6 z5 ez
  generalize w3.setCell ⟨w.heap.size + 2, 0, none⟩ (.int .u8 (numOf er)) = W
  intro z6 z5 ez
  obtain ⟨x0, x1, x2, x3, x4, x5, f0, f1, f2, f3, f4, f5⟩ := cells6 z6
  obtain ⟨y0, y1, y2, y3, y4, y5, g0, g1, g2, g3, g4, g5⟩ := cells6 z5
  have l6 := World.block_lt_of_cell? _ _ x0
  have l5 := World.block_lt_of_cell? _ _ y0
  have HZ := Lib.hid (And.intro z6 (And.intro z5 ez))
  clear z6 z5 ez
  go_region
  all_goals go_wp2
  refine bodyPost_ret (v := .tuple #[.iface G.T (.pointer (some d)), saidV (numOf er) 0 0 0 nilS nilS]) ?hr rfl ?hR
  case hR =>
    refine ⟨er, rfl, sw w 0 a b wt, w2, sw_ext w 0 a b wt, HR.out.2.2.2.1, ?_⟩
    rw [sw_size]
    exact (HZ.out.2.2.set6 ⟨by omega, by omega⟩ _ _ _ _ _ _).drew
  case hr =>
    have hg := set6 HZ.out.2.1 (.int .u8 (numOf er)) (.int .i64 0) (.int .i64 0) (.int .i64 0) nilS nilS
    exact results_tmp_cell (fn := Tryz.f24) (g := w.heap.size + 1) (p := 5) (q := 4) (ty := 39) rfl rfl (at_drew hg) Tryz.underlying39 rfl sz39 rfl

set_option maxRecDepth 100000 in
set_option maxHeartbeats 1000000 in
theorem stepped_rv (G : GK) {w : World} {d : Addr} {a b wt : Int} {p : Nat → Addr} {B : Nat} (hB : Below6 B p) {R : Option Er → World → World → Prop}
    (hC : ∀ w', Ext No w w' → Calls Tryz.prog G.rv.f #[.pointer (some d), kI a] w' (SaysErr p w.heap.size R w')) :
    Calls Tryz.prog 24 #[.iface G.T (.pointer (some d)), stepV 1 a b wt] w fun r w' => ∃ er, r = .returned (.tuple #[.iface G.T (.pointer (some d)), saidV (numOf er) 0 0 0 nilS nilS]) ∧ Stepped w (R er) w' := by
  have HC := Lib.hid (hC _ (sw_ext w 1 a b wt))
  have HB := Lib.hid hB
  clear hC hB
  have hM := G.rv.m
  have hE := G.rv.e
  go_enter Tryz.func24, Tryz.ntmps24
  go_wp2_with (go_at_call 35; (refine (edgeWeight_run _ _).mono ?_); rintro r1 w1 ⟨rfl, rfl⟩)
  refine HC.out.mono ?_
  rintro r1 w2 ⟨er, rfl, hno, hp, he, hR⟩
  have r6 := he.obj (sw_said w 1 a b wt) (by omega)
  have r5 := he.obj (sw_res w 1 a b wt) (by omega)
  have HR := Lib.hid (And.intro hno (And.intro hp (And.intro he (And.intro hR (And.intro r6 r5)))))
  clear hno hp he hR r6 r5
  go_wp2_with fail
  refine (errorOf_any HR.out.2.1 HB.out er HR.out.1).mono ?_
  rintro r2 w3 ⟨rfl, h3⟩
  have r6 := h3.obj HR.out.2.2.2.2.1 id
  have r5 := h3.obj HR.out.2.2.2.2.2 id
  obtain ⟨x0, x1, x2, x3, x4, x5, f0, f1, f2, f3, f4, f5⟩ := cells6 r6
  obtain ⟨y0, y1, y2, y3, y4, y5, g0, g1, g2, g3, g4, g5⟩ := cells6 r5
  have l6 := World.block_lt_of_cell? _ _ x0
  have l5 := World.block_lt_of_cell? _ _ y0
  have HR3 := Lib.hid (And.intro h3 (And.intro r6 r5))
  clear h3 r6 r5
  go_wp2_with fail
  have z6 := set_heap (o := 0) HR3.out.2.1 (.int .u8 (numOf er))
  have z5 := ((Ext.refl (fun c => c = w.heap.size + 2) w3).setCell ⟨w.heap.size + 2, 0, none⟩ (.int .u8 (numOf er)) (fun _ => rfl)).obj HR3.out.2.2 (by omega)
  have ez : Ext (fun c => w.heap.size ≤ c ∧ c < w.heap.size + 4) w2 (w3.setCell ⟨w.heap.size + 2, 0, none⟩ (.int .u8 (numOf er))) := (HR3.out.1.no).setCell _ _ (fun _ => ⟨by simp, by simp⟩)
  clear x0 x1 x2 x3 x4 x5 y0 y1 y2 y3 y4 y5 f0 f1 f2 f3 f4 f5 g0 g1 g2 g3 g4 g5 l6 l5
  revert z6 z5 ez
  generalize w3.setCell ⟨w.heap.size + 2, 0, none⟩ (.int .u8 (numOf er)) = W
  intro z6 z5 ez
  obtain ⟨x0, x1, x2, x3, x4, x5, f0, f1, f2, f3, f4, f5⟩ := cells6 z6
  obtain ⟨y0, y1, y2, y3, y4, y5, g0, g1, g2, g3, g4, g5⟩ := cells6 z5
  have l6 := World.block_lt_of_cell? _ _ x0
  have l5 := World.block_lt_of_cell? _ _ y0
  have HZ := Lib.hid (And.intro z6 (And.intro z5 ez))
  clear z6 z5 ez
  go_region
  all_goals go_wp2
  refine bodyPost_ret (v := .tuple #[.iface G.T (.pointer (some d)), saidV (numOf er) 0 0 0 nilS nilS]) ?hr rfl ?hR
  case hR =>
    refine ⟨er, rfl, sw w 1 a b wt, w2, sw_ext w 1 a b wt, HR.out.2.2.2.1, ?_⟩
    rw [sw_size]
    exact (HZ.out.2.2.set6 ⟨by omega, by omega⟩ _ _ _ _ _ _).drew
  case hr =>
    have hg := set6 HZ.out.2.1 (.int .u8 (numOf er)) (.int .i64 0) (.int .i64 0) (.int .i64 0) nilS nilS
    exact results_tmp_cell (fn := Tryz.f24) (g := w.heap.size + 1) (p := 5) (q := 4) (ty := 39) rfl rfl (at_drew hg) Tryz.underlying39 rfl sz39 rfl

set_option maxRecDepth 100000 in
set_option maxHeartbeats 1000000 in
theorem stepped_ae (G : GK) {w : World} {d : Addr} {a b wt : Int} {p : Nat → Addr} {B : Nat} (hB : Below6 B p) {R : Option Er → World → World → Prop}
    (hC : ∀ w' ob f, Ext No w w' → w'.cell? ⟨ob, 0, none⟩ = some f → Opt w' wt f → Calls Tryz.prog G.ae.f #[.pointer (some d), kI a, kI b, .slice (some ⟨ob, 0, none⟩) 1 1] w' (SaysErr p w.heap.size R w')) :
    Calls Tryz.prog 24 #[.iface G.T (.pointer (some d)), stepV 2 a b wt] w fun r w' => ∃ er, r = .returned (.tuple #[.iface G.T (.pointer (some d)), saidV (numOf er) 0 0 0 nilS nilS]) ∧ Stepped w (R er) w' := by
  have HC := Lib.hid (hC (swo w 2 a b wt) (w.heap.size + 4) (wtF w) (swo_ext w 2 a b wt) (swo_cell w 2 a b wt) (swo_opt w 2 a b wt))
  have HB := Lib.hid hB
  clear hC hB
  have hM := G.ae.m
  have hE := G.ae.e
  go_enter Tryz.func24, Tryz.ntmps24
  go_wp2_with (go_at_call 35; (refine (edgeWeight_run _ _).mono ?_); rintro r1 w1 ⟨rfl, rfl⟩)
  refine HC.out.mono ?_
  rintro r1 w2 ⟨er, rfl, hno, hp, he, hR⟩
  have r6 := he.obj (swo_said w 2 a b wt) (by omega)
  have r5 := he.obj (swo_res w 2 a b wt) (by omega)
  have HR := Lib.hid (And.intro hno (And.intro hp (And.intro he (And.intro hR (And.intro r6 r5)))))
  clear hno hp he hR r6 r5
  go_wp2_with fail
  refine (errorOf_any HR.out.2.1 HB.out er HR.out.1).mono ?_
  rintro r2 w3 ⟨rfl, h3⟩
  have r6 := h3.obj HR.out.2.2.2.2.1 id
  have r5 := h3.obj HR.out.2.2.2.2.2 id
  obtain ⟨x0, x1, x2, x3, x4, x5, f0, f1, f2, f3, f4, f5⟩ := cells6 r6
  obtain ⟨y0, y1, y2, y3, y4, y5, g0, g1, g2, g3, g4, g5⟩ := cells6 r5
  have l6 := World.block_lt_of_cell? _ _ x0
  have l5 := World.block_lt_of_cell? _ _ y0
  have HR3 := Lib.hid (And.intro h3 (And.intro r6 r5))
  clear h3 r6 r5
  go_wp2_with fail
  have z6 := set_heap (o := 0) HR3.out.2.1 (.int .u8 (numOf er))
  have z5 := ((Ext.refl (fun c => c = w.heap.size + 2) w3).setCell ⟨w.heap.size + 2, 0, none⟩ (.int .u8 (numOf er)) (fun _ => rfl)).obj HR3.out.2.2 (by omega)
  have ez : Ext (fun c => w.heap.size ≤ c ∧ c < w.heap.size + 5) w2 (w3.setCell ⟨w.heap.size + 2, 0, none⟩ (.int .u8 (numOf er))) := (HR3.out.1.no).setCell _ _ (fun _ => ⟨by simp, by simp⟩)
  clear x0 x1 x2 x3 x4 x5 y0 y1 y2 y3 y4 y5 f0 f1 f2 f3 f4 f5 g0 g1 g2 g3 g4 g5 l6 l5
  revert z6 z5 ez
  generalize w3.setCell ⟨w.heap.size + 2, 0, none⟩ (.int .u8 (numOf er)) = W
  intro z6 z5 ez
  obtain ⟨x0, x1, x2, x3, x4, x5, f0, f1, f2, f3, f4, f5⟩ := cells6 z6
  obtain ⟨y0, y1, y2, y3, y4, y5, g0, g1, g2, g3, g4, g5⟩ := cells6 z5
  have l6 := World.block_lt_of_cell? _ _ x0
  have l5 := World.block_lt_of_cell? _ _ y0
  have HZ := Lib.hid (And.intro z6 (And.intro z5 ez))
  clear z6 z5 ez
  go_region
  all_goals go_wp2
  refine bodyPost_ret (v := .tuple #[.iface G.T (.pointer (some d)), saidV (numOf er) 0 0 0 nilS nilS]) ?hr rfl ?hR
  case hR =>
    refine ⟨er, rfl, swo w 2 a b wt, w2, swo_ext w 2 a b wt, HR.out.2.2.2.1, ?_⟩
    rw [swo_size]
    exact (HZ.out.2.2.set6 ⟨by omega, by omega⟩ _ _ _ _ _ _).drew
  case hr =>
    have hg := set6 HZ.out.2.1 (.int .u8 (numOf er)) (.int .i64 0) (.int .i64 0) (.int .i64 0) nilS nilS
    exact results_tmp_cell (fn := Tryz.f24) (g := w.heap.size + 1) (p := 5) (q := 4) (ty := 39) rfl rfl (at_drew hg) Tryz.underlying39 rfl sz39 rfl

set_option maxRecDepth 100000 in
set_option maxHeartbeats 1000000 in
theorem stepped_re (G : GK) {w : World} {d : Addr} {a b wt : Int} {p : Nat → Addr} {B : Nat} (hB : Below6 B p) {R : Option Er → World → World → Prop}
    (hC : ∀ w', Ext No w w' → Calls Tryz.prog G.re.f #[.pointer (some d), kI a, kI b] w' (SaysErr p w.heap.size R w')) :
    Calls Tryz.prog 24 #[.iface G.T (.pointer (some d)), stepV 3 a b wt] w fun r w' => ∃ er, r = .returned (.tuple #[.iface G.T (.pointer (some d)), saidV (numOf er) 0 0 0 nilS nilS]) ∧ Stepped w (R er) w' := by
  have HC := Lib.hid (hC _ (sw_ext w 3 a b wt))
  have HB := Lib.hid hB
  clear hC hB
  have hM := G.re.m
  have hE := G.re.e
  go_enter Tryz.func24, Tryz.ntmps24
  go_wp2_with (go_at_call 35; (refine (edgeWeight_run _ _).mono ?_); rintro r1 w1 ⟨rfl, rfl⟩)
  refine HC.out.mono ?_
  rintro r1 w2 ⟨er, rfl, hno, hp, he, hR⟩
  have r6 := he.obj (sw_said w 3 a b wt) (by omega)
  have r5 := he.obj (sw_res w 3 a b wt) (by omega)
  have HR := Lib.hid (And.intro hno (And.intro hp (And.intro he (And.intro hR (And.intro r6 r5)))))
  clear hno hp he hR r6 r5
  go_wp2_with fail
  refine (errorOf_any HR.out.2.1 HB.out er HR.out.1).mono ?_
  rintro r2 w3 ⟨rfl, h3⟩
  have r6 := h3.obj HR.out.2.2.2.2.1 id
  have r5 := h3.obj HR.out.2.2.2.2.2 id
  obtain ⟨x0, x1, x2, x3, x4, x5, f0, f1, f2, f3, f4, f5⟩ := cells6 r6
  obtain ⟨y0, y1, y2, y3, y4, y5, g0, g1, g2, g3, g4, g5⟩ := cells6 r5
  have l6 := World.block_lt_of_cell? _ _ x0
  have l5 := World.block_lt_of_cell? _ _ y0
  have HR3 := Lib.hid (And.intro h3 (And.intro r6 r5))
  clear h3 r6 r5
  go_wp2_with fail
  have z6 := set_heap (o := 0) HR3.out.2.1 (.int .u8 (numOf er))
  have z5 := ((Ext.refl (fun c => c = w.heap.size + 2) w3).setCell ⟨w.heap.size + 2, 0, none⟩ (.int .u8 (numOf er)) (fun _ => rfl)).obj HR3.out.2.2 (by omega)
  have ez : Ext (fun c => w.heap.size ≤ c ∧ c < w.heap.size + 4) w2 (w3.setCell ⟨w.heap.size + 2, 0, none⟩ (.int .u8 (numOf er))) := (HR3.out.1.no).setCell _ _ (fun _ => ⟨by simp, by simp⟩)
  clear x0 x1 x2 x3 x4 x5 y0 y1 y2 y3 y4 y5 f0 f1 f2 f3 f4 f5 g0 g1 g2 g3 g4 g5 l6 l5
  revert z6 z5 ez
  generalize w3.setCell ⟨w.heap.size + 2, 0, none⟩ (.int .u8 (numOf er)) = W
  intro z6 z5 ez
  obtain ⟨x0, x1, x2, x3, x4, x5, f0, f1, f2, f3, f4, f5⟩ := cells6 z6
  obtain ⟨y0, y1, y2, y3, y4, y5, g0, g1, g2, g3, g4, g5⟩ := cells6 z5
  have l6 := World.block_lt_of_cell? _ _ x0
  have l5 := World.block_lt_of_cell? _ _ y0
  have HZ := Lib.hid (And.intro z6 (And.intro z5 ez))
  clear z6 z5 ez
  go_region
  all_goals go_wp2
  refine bodyPost_ret (v := .tuple #[.iface G.T (.pointer (some d)), saidV (numOf er) 0 0 0 nilS nilS]) ?hr rfl ?hR
  case hR =>
    refine ⟨er, rfl, sw w 3 a b wt, w2, sw_ext w 3 a b wt, HR.out.2.2.2.1, ?_⟩
    rw [sw_size]
    exact (HZ.out.2.2.set6 ⟨by omega, by omega⟩ _ _ _ _ _ _).drew
  case hr =>
    have hg := set6 HZ.out.2.1 (.int .u8 (numOf er)) (.int .i64 0) (.int .i64 0) (.int .i64 0) nilS nilS
    exact results_tmp_cell (fn := Tryz.f24) (g := w.heap.size + 1) (p := 5) (q := 4) (ty := 39) rfl rfl (at_drew hg) Tryz.underlying39 rfl sz39 rfl

set_option maxRecDepth 100000 in
set_option maxHeartbeats 1000000 in
theorem stepped_ue (G : GK) {w : World} {d : Addr} {a b wt : Int} {p : Nat → Addr} {B : Nat} (hB : Below6 B p) {R : Option Er → World → World → Prop}
    (hC : ∀ w' ob f, Ext No w w' → w'.cell? ⟨ob, 0, none⟩ = some f → Opt w' wt f → Calls Tryz.prog G.ue.f #[.pointer (some d), kI a, kI b, .slice (some ⟨ob, 0, none⟩) 1 1] w' (SaysErr p w.heap.size R w')) :
    Calls Tryz.prog 24 #[.iface G.T (.pointer (some d)), stepV 4 a b wt] w fun r w' => ∃ er, r = .returned (.tuple #[.iface G.T (.pointer (some d)), saidV (numOf er) 0 0 0 nilS nilS]) ∧ Stepped w (R er) w' := by
  have HC := Lib.hid (hC (swo w 4 a b wt) (w.heap.size + 4) (wtF w) (swo_ext w 4 a b wt) (swo_cell w 4 a b wt) (swo_opt w 4 a b wt))
  have HB := Lib.hid hB
  clear hC hB
  have hM := G.ue.m
  have hE := G.ue.e
  go_enter Tryz.func24, Tryz.ntmps24
  go_wp2_with (go_at_call 35; (refine (edgeWeight_run _ _).mono ?_); rintro r1 w1 ⟨rfl, rfl⟩)
  refine HC.out.mono ?_
  rintro r1 w2 ⟨er, rfl, hno, hp, he, hR⟩
  have r6 := he.obj (swo_said w 4 a b wt) (by omega)
  have r5 := he.obj (swo_res w 4 a b wt) (by omega)
  have HR := Lib.hid (And.intro hno (And.intro hp (And.intro he (And.intro hR (And.intro r6 r5)))))
  clear hno hp he hR r6 r5
  go_wp2_with fail
  refine (errorOf_any HR.out.2.1 HB.out er HR.out.1).mono ?_
  rintro r2 w3 ⟨rfl, h3⟩
  have r6 := h3.obj HR.out.2.2.2.2.1 id
  have r5 := h3.obj HR.out.2.2.2.2.2 id
  obtain ⟨x0, x1, x2, x3, x4, x5, f0, f1, f2, f3, f4, f5⟩ := cells6 r6
  obtain ⟨y0, y1, y2, y3, y4, y5, g0, g1, g2, g3, g4, g5⟩ := cells6 r5
  have l6 := World.block_lt_of_cell? _ _ x0
  have l5 := World.block_lt_of_cell? _ _ y0
  have HR3 := Lib.hid (And.intro h3 (And.intro r6 r5))
  clear h3 r6 r5
  go_wp2_with fail
  have z6 := set_heap (o := 0) HR3.out.2.1 (.int .u8 (numOf er))
  have z5 := ((Ext.refl (fun c => c = w.heap.size + 2) w3).setCell ⟨w.heap.size + 2, 0, none⟩ (.int .u8 (numOf er)) (fun _ => rfl)).obj HR3.out.2.2 (by omega)
  have ez : Ext (fun c => w.heap.size ≤ c ∧ c < w.heap.size + 5) w2 (w3.setCell ⟨w.heap.size + 2, 0, none⟩ (.int .u8 (numOf er))) := (HR3.out.1.no).setCell _ _ (fun _ => ⟨by simp, by simp⟩)
  clear x0 x1 x2 x3 x4 x5 y0 y1 y2 y3 y4 y5 f0 f1 f2 f3 f4 f5 g0 g1 g2 g3 g4 g5 l6 l5
  revert z6 z5 ez
  generalize w3.setCell ⟨w.heap.size + 2, 0, none⟩ (.int .u8 (numOf er)) = W
  intro z6 z5 ez
  obtain ⟨x0, x1, x2, x3, x4, x5, f0, f1, f2, f3, f4, f5⟩ := cells6 z6
  obtain ⟨y0, y1, y2, y3, y4, y5, g0, g1, g2, g3, g4, g5⟩ := cells6 z5
  have l6 := World.block_lt_of_cell? _ _ x0
  have l5 := World.block_lt_of_cell? _ _ y0
  have HZ := Lib.hid (And.intro z6 (And.intro z5 ez))
  clear z6 z5 ez
  go_region
  all_goals go_wp2
  refine bodyPost_ret (v := .tuple #[.iface G.T (.pointer (some d)), saidV (numOf er) 0 0 0 nilS nilS]) ?hr rfl ?hR
  case hR =>
    refine ⟨er, rfl, swo w 4 a b wt, w2, swo_ext w 4 a b wt, HR.out.2.2.2.1, ?_⟩
    rw [swo_size]
    exact (HZ.out.2.2.set6 ⟨by omega, by omega⟩ _ _ _ _ _ _).drew
  case hr =>
    have hg := set6 HZ.out.2.1 (.int .u8 (numOf er)) (.int .i64 0) (.int .i64 0) (.int .i64 0) nilS nilS
    exact results_tmp_cell (fn := Tryz.f24) (g := w.heap.size + 1) (p := 5) (q := 4) (ty := 39) rfl rfl (at_drew hg) Tryz.underlying39 rfl sz39 rfl

end Go.Proofs.YtcenebjdhbdejaaGreatDoor
