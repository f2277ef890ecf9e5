/- The directed graph's methods, walked. The directed graph's Edge, walked. -/
import Derived.Test.YtcenebjdhbdejaaGreatDoorB02
import Derived.Test.YtcenebjdhbdejaaGreatDoorB03
namespace Go.Proofs.YtcenebjdhbdejaaGreatDoor
open Go.MapKept

structure Hd where
  d : Nat
  t : Nat
  A : Ad
structure Tr where
  dir : Bool
  acyc : Bool
  wei : Bool
  root : Bool
  prev : Bool

abbrev hashV : Value := .func (.func 34) #[] #[]
abbrev storeV (A : Ad) : Value := .iface 145 (.pointer (some ⟨A.s, 0, none⟩))

/-- A graph in memory: its own row, its traits, its store. -/
structure Gr (w : World) (H : Hd) (τ : Tr) (σ : St) : Prop where
  row : w.heap[H.d]? = some (.cells #[hashV, .pointer (some ⟨H.t, 0, none⟩), storeV H.A] (if τ.dir then 174 else 175) (0, 0))
  tra : w.heap[H.t]? = some (.cells #[.bool τ.dir, .bool τ.acyc, .bool τ.wei, .bool τ.root, .bool τ.prev] 113 (0, 0))
  st : Store w H.A σ
  nd : ¬ σ.foot H.A H.d
  nt : ¬ σ.foot H.A H.t
  dt : H.d ≠ H.t

def Gr.foot (H : Hd) (σ : St) (c : Nat) : Prop := c = H.d ∨ c = H.t ∨ σ.foot H.A c

theorem Gr.ext {w w' : World} {H : Hd} {τ : Tr} {σ : St} {S : Nat → Prop} (h : Gr w H τ σ) (he : Ext S w w') (hS : ∀ c, Gr.foot H σ c → ¬ S c) : Gr w' H τ σ where
  row := he.obj h.row (hS _ (Or.inl rfl))
  tra := he.obj h.tra (hS _ (Or.inr (Or.inl rfl)))
  st := h.st.ext he (fun _c hc => hS _ (Or.inr (Or.inr hc)))
  nd := h.nd
  nt := h.nt
  dt := h.dt

section
variable {w : World} {H : Hd} {τ : Tr} {σ : St}
theorem Gr.d0 (h : Gr w H τ σ) : w.cell? ⟨H.d, 0, none⟩ = some hashV := by simp [World.cell?, h.row]
theorem Gr.d1 (h : Gr w H τ σ) : w.cell? ⟨H.d, 1, none⟩ = some (.pointer (some ⟨H.t, 0, none⟩)) := by simp [World.cell?, h.row]
theorem Gr.d2 (h : Gr w H τ σ) : w.cell? ⟨H.d, 2, none⟩ = some (storeV H.A) := by simp [World.cell?, h.row]
theorem Gr.t0 (h : Gr w H τ σ) : w.cell? ⟨H.t, 0, none⟩ = some (.bool τ.dir) := by simp [World.cell?, h.tra]
theorem Gr.t4 (h : Gr w H τ σ) : w.cell? ⟨H.t, 4, none⟩ = some (.bool τ.prev) := by simp [World.cell?, h.tra]
theorem Gr.lt (h : Gr w H τ σ) : H.d < w.heap.size := (Array.getElem?_eq_some_iff.1 h.row).1
theorem Gr.ltt (h : Gr w H τ σ) : H.t < w.heap.size := (Array.getElem?_eq_some_iff.1 h.tra).1
end

theorem Ext.no {S : Nat → Prop} {w w' : World} (h : Ext No w w') : Ext S w w' := h.mono fun _ _ f => f.elim

/-- A method turns the graph: its blocks, and new ones. -/
def Turned (H : Hd) (τ : Tr) (σ σ' : St) (w w' : World) : Prop :=
  Gr w' H τ σ' ∧ Ext (σ.foot H.A) w w' ∧ ∀ c, σ'.foot H.A c → σ.foot H.A c ∨ w.heap.size ≤ c

theorem Gr.turn {w w' : World} {H : Hd} {τ : Tr} {σ σ' : St} (h : Gr w H τ σ) (he : Ext (σ.foot H.A) w w') (hs : Store w' H.A σ') (hf : ∀ c, σ'.foot H.A c → σ.foot H.A c ∨ w.heap.size ≤ c) : Turned H τ σ σ' w w' := by
  refine ⟨⟨he.obj h.row h.nd, he.obj h.tra h.nt, hs, fun hc => ?_, fun hc => ?_, h.dt⟩, he, hf⟩
  · rcases hf _ hc with h1 | h1
    · exact h.nd h1
    · have := h.lt; omega
  · rcases hf _ hc with h1 | h1
    · exact h.nt h1
    · have := h.ltt; omega

theorem Store.foot_lt {w : World} {A : Ad} {σ : St} (h : Store w A σ) {c : Nat} (hc : σ.foot A c) : c < w.heap.size := by
  rcases hc with hc | hc
  · exact h.blocks_lt c hc
  · exact (Array.getElem?_eq_some_iff.1 (h.att c hc)).1

set_option maxRecDepth 100000 in
theorem hash_any (k : Int) (w : World) : Calls Tryz.prog 34 #[kI k] w fun e w' => e = .returned (kI k) ∧ w = w' := by
  go_enter Tryz.func34, Tryz.ntmps34
  go_wp2
  go_ret
  exact ⟨rfl, rfl⟩

set_option maxRecDepth 100000 in
set_option maxHeartbeats 400000 in
theorem d_addVertex_new {w : World} {H : Hd} {τ : Tr} {σ : St} {k : Int} (h : Gr w H τ σ) (hk : ∀ a, (k, a) ∉ σ.V) :
    Calls Tryz.prog 103 #[.pointer (some ⟨H.d, 0, none⟩), kI k, .slice none 0 0] w fun e w' => e = .returned .nilIface ∧ ∃ a, Turned H τ σ { σ with V := σ.V ++ [(k, a)] } w w' := by
  have hlt := h.lt
  have d0 := h.d0
  have d2 := h.d2
  have HG := Lib.hid h
  clear h
  go_enter Tryz.func103, Tryz.ntmps103
  have hmm := makeMapR Tryz.prog
  go_wp2_with (go_at_call 34; refine (hash_any _ _).mono ?_; rintro e w' ⟨rfl, rfl⟩)
  refine wp_loop_rounds 1 ?_
  rw [rounds_succ]
  go_wp2
  have q0 : ((w.alloc (.map #[] 0)).alloc (.cells #[.map (some w.heap.size), .int .i64 0] 213)).cell? ⟨H.d, 2, none⟩ = some (storeV H.A) := (((Ext.refl No w).alloc _).alloc _).cellv d2 id
  have q1 : ((w.alloc (.map #[] 0)).alloc (.cells #[.map (some w.heap.size), .int .i64 0] 213)).cell? ⟨w.heap.size + 1, 0, none⟩ = some (.map (some w.heap.size)) := by rw [cell_of_row _ _ _ _ _ _ (two_new _ _ _)]; rfl
  have q2 : ((w.alloc (.map #[] 0)).alloc (.cells #[.map (some w.heap.size), .int .i64 0] 213)).cell? ⟨w.heap.size + 1, 1, none⟩ = some (.int .i64 0) := by rw [cell_of_row _ _ _ _ _ _ (two_new _ _ _)]; rfl
  have e1 : Ext No w ((w.alloc (.map #[] 0)).alloc (.cells #[.map (some w.heap.size), .int .i64 0] 213)) := ((Ext.refl No w).alloc _).alloc _
  have m1 : ((w.alloc (.map #[] 0)).alloc (.cells #[.map (some w.heap.size), .int .i64 0] 213)).heap[w.heap.size]? = some (.map #[] 0) := by
    rw [(heap_alloc (w.alloc (.map #[] 0)) _).2 _ (by simp)]; exact (heap_alloc w _).1
  revert q0 q1 q2 e1 m1
  generalize (w.alloc (.map #[] 0)).alloc (.cells #[.map (some w.heap.size), .int .i64 0] 213) = W
  intro q0 q1 q2 e1 m1
  go_still_tail 7, (by kernel_rfl)
  have hM := M145_AddVertex
  have hS : Store W.drew H.A σ := HG.out.st.ext e1.drew (fun _ _ => id)
  have hS' := Lib.hid hS
  clear hS
  have hnf : ¬ σ.foot H.A w.heap.size := fun hf => by have := HG.out.st.foot_lt hf; omega
  go_wp2_with (go_at_call 145; refine (addVertex_new hS'.out hk hnf m1).mono ?_; rintro e w' ⟨rfl, h1, h2⟩)
  go_ret
  have h := HG.out
  refine ⟨rfl, w.heap.size, h.turn (e1.drew.no.then h2 ?_) h1 (fun c hc => ?_)⟩
  · rintro c - (rfl | rfl) <;> exact Or.inl (by simp [St.blocks])
  · rcases hc with hc | hc
    · exact Or.inl (Or.inl hc)
    · simp only [St.atts, List.map_append, List.map_cons, List.map_nil, List.mem_append, List.mem_cons, List.not_mem_nil, or_false] at hc
      rcases hc with (hc | hc) | hc
      · exact Or.inl (Or.inr (List.mem_append_left _ hc))
      · exact Or.inr (Nat.le_of_eq hc.symm)
      · exact Or.inl (Or.inr (List.mem_append_right _ hc))

set_option maxRecDepth 100000 in
set_option maxHeartbeats 400000 in
theorem d_addVertex_old {w : World} {H : Hd} {τ : Tr} {σ : St} {k : Int} {b : Nat} {p : Nat → Addr} (h : Gr w H τ σ) (hp : Sent w p) {B : Nat} (hB : Below6 B p) (hk : (k, b) ∈ σ.V) :
    Calls Tryz.prog 103 #[.pointer (some ⟨H.d, 0, none⟩), kI k, .slice none 0 0] w fun e w' => e = .returned (errv p 0) ∧ Ext No w w' := by
  have hlt := h.lt
  have d0 := h.d0
  have d2 := h.d2
  have HG := Lib.hid (And.intro h hp)
  clear h hp
  go_enter Tryz.func103, Tryz.ntmps103
  have hmm := makeMapR Tryz.prog
  go_wp2_with (go_at_call 34; refine (hash_any _ _).mono ?_; rintro e w' ⟨rfl, rfl⟩)
  refine wp_loop_rounds 1 ?_
  rw [rounds_succ]
  go_wp2
  have q0 : ((w.alloc (.map #[] 0)).alloc (.cells #[.map (some w.heap.size), .int .i64 0] 213)).cell? ⟨H.d, 2, none⟩ = some (storeV H.A) := (((Ext.refl No w).alloc _).alloc _).cellv d2 id
  have q1 : ((w.alloc (.map #[] 0)).alloc (.cells #[.map (some w.heap.size), .int .i64 0] 213)).cell? ⟨w.heap.size + 1, 0, none⟩ = some (.map (some w.heap.size)) := by rw [cell_of_row _ _ _ _ _ _ (two_new _ _ _)]; rfl
  have q2 : ((w.alloc (.map #[] 0)).alloc (.cells #[.map (some w.heap.size), .int .i64 0] 213)).cell? ⟨w.heap.size + 1, 1, none⟩ = some (.int .i64 0) := by rw [cell_of_row _ _ _ _ _ _ (two_new _ _ _)]; rfl
  have e1 : Ext No w ((w.alloc (.map #[] 0)).alloc (.cells #[.map (some w.heap.size), .int .i64 0] 213)) := ((Ext.refl No w).alloc _).alloc _
  revert q0 q1 q2 e1
  generalize (w.alloc (.map #[] 0)).alloc (.cells #[.map (some w.heap.size), .int .i64 0] 213) = W
  intro q0 q1 q2 e1
  go_still_tail 7, (by kernel_rfl)
  have hM := M145_AddVertex
  have hS' : RowKit.Hid (Store W.drew H.A σ) := Lib.hid (HG.out.1.st.ext e1.drew (fun _ _ => id))
  have hP' : RowKit.Hid (Sent W.drew p) := Lib.hid (HG.out.2.ext hB e1.drew (fun _ h => h.elim))
  go_wp2_with (go_at_call 145; refine (addVertex_old hS'.out hP'.out hk).mono ?_; rintro e w' ⟨rfl, h2⟩)
  go_ret
  exact ⟨rfl, e1.drew.trans h2⟩
end Go.Proofs.YtcenebjdhbdejaaGreatDoor

namespace Go.Proofs.YtcenebjdhbdejaaGreatDoor
open Go.MapKept

theorem sz97 : (Tryz.prog.info? 97).map (·.size) = some 5 := by kernel_rfl

/-- the cells of an edge of the call's own, in a later world -/
theorem edge_cells {w0 w1 : World} {b : Nat} {c0 c1 c2 c3 c4 : Value} {T : TypeId} (hb : w0.heap[b]? = some (.cells #[c0, c1, c2, c3, c4] T (0, 0))) (he : Ext No w0 w1) :
    w1.cell? ⟨b, 0, none⟩ = some c0 ∧ w1.cell? ⟨b, 1, none⟩ = some c1 ∧ w1.cell? ⟨b, 2, none⟩ = some c2 ∧ w1.cell? ⟨b, 3, none⟩ = some c3 ∧ w1.cell? ⟨b, 4, none⟩ = some c4 ∧
    w1.frozen? ⟨b, 0, none⟩ = false ∧ w1.frozen? ⟨b, 1, none⟩ = false ∧ w1.frozen? ⟨b, 2, none⟩ = false ∧ w1.frozen? ⟨b, 3, none⟩ = false ∧ w1.frozen? ⟨b, 4, none⟩ = false := by
  have h := he.obj hb id
  simp [World.cell?, World.frozen?, h]

set_option maxRecDepth 100000 in
set_option maxHeartbeats 800000 in
theorem d_edge_yes {w : World} {H : Hd} {τ : Tr} {σ : St} {e : EdgeR} (h : Gr w H τ σ) (he : e ∈ σ.E) :
    Calls Tryz.prog 107 #[.pointer (some ⟨H.d, 0, none⟩), kI e.src, kI e.dst] w fun r w' => r = .returned (.tuple #[e.val, .nilIface]) ∧ Ext No w w' := by
  have hlt := h.lt
  have d2 := h.d2
  obtain ⟨⟨a1, v1⟩, a2, v2⟩ := h.st.ends e he
  have HG := Lib.hid h
  clear h
  go_enter Tryz.func107, Tryz.ntmps107
  have hM1 := M145_Edge
  have hM2 := M145_Vertex
  have hN0 := (heap_alloc w (.cells #[.int .i64 0, .int .i64 0, .map none, .int .i64 0, .nilIface] 97)).1
  have HN0 := Lib.hid hN0
  clear hN0
  have E0 : Ext No w (w.alloc (.cells #[.int .i64 0, .int .i64 0, .map none, .int .i64 0, .nilIface] 97)) := (Ext.refl _ _).alloc _
  go_wp2_with fail
  refine (edge_yes (A := H.A) (σ := σ) (HG.out.st.ext E0 (fun _ _ h => h)) he).mono ?_
  rintro e1 w1 ⟨rfl, h1⟩
  have d2 := (E0.trans h1).cellv d2 id
  have hlt := World.block_lt_of_cell? _ _ d2
  have HE1 := Lib.hid (E0.trans h1)
  have H01 := Lib.hid h1
  have E1 : Ext No w1 (w1.alloc (.cells #[.int .i64 e.src, .int .i64 e.dst, .map (some e.att), .int .i64 e.wt, .nilIface] 97)) := (Ext.refl _ _).alloc _
  have HN1 := Lib.hid (heap_alloc w1 (.cells #[.int .i64 e.src, .int .i64 e.dst, .map (some e.att), .int .i64 e.wt, .nilIface] 97)).1
  clear h1
  go_wp2_with fail
  refine (vertex_yes (A := H.A) (σ := σ) (HG.out.st.ext (S := No) (HE1.out.trans E1) (fun _ _ h => h)) v1).mono ?_
  rintro e2 w2 ⟨rfl, h2⟩
  have d2 := (E1.trans h2).cellv d2 id
  have hlt := World.block_lt_of_cell? _ _ d2
  have HE2 := Lib.hid (HE1.out.trans (E1.trans h2))
  have H02 := Lib.hid (H01.out.trans (E1.trans h2))
  have H12 := Lib.hid h2
  clear h2
  go_wp2_with fail
  refine (vertex_yes (A := H.A) (σ := σ) (HG.out.st.ext (S := No) (HE2.out.alloc _) (fun _ _ h => h)) v2).mono ?_
  rintro e3 w3 ⟨rfl, h3⟩
  have HE3 := Lib.hid ((HE2.out.alloc _).trans h3)
  have HY := Lib.hid (((H02.out.alloc _).trans h3).obj HN0.out id)
  obtain ⟨y0, y1, y2, y3, y4, f0, f1, f2, f3, f4⟩ := edge_cells HN0.out (((H02.out.alloc _).trans h3))
  obtain ⟨x0, x1, x2, x3, x4, -⟩ := edge_cells HN1.out (((H12.out.alloc _).trans h3))
  have l0 := World.block_lt_of_cell? _ _ y0
  have l1 := World.block_lt_of_cell? _ _ x0
  clear h3 E0 E1 hlt d2
  go_wp2
  refine bodyPost_ret (results_cell_tmp rfl rfl (alloc_heap (set5 HY.out _ _ _ _ _) _) Tryz.underlying97 rfl sz97 rfl) rfl ⟨rfl, ?_⟩
  exact (HE3.out.set5 (Nat.le_refl _) _ _ _ _ _).alloc _

set_option maxRecDepth 100000 in
set_option maxHeartbeats 800000 in
theorem d_edge_no {w : World} {H : Hd} {τ : Tr} {σ : St} {a b : Int} {p : Nat → Addr} (h : Gr w H τ σ) (hp : Sent w p) {B : Nat} (hB : Below6 B p) (he : ∀ e ∈ σ.E, ¬ (e.src = a ∧ e.dst = b)) :
    Calls Tryz.prog 107 #[.pointer (some ⟨H.d, 0, none⟩), kI a, kI b] w fun r w' => r = .returned (.tuple #[zero97, errv p 4]) ∧ Ext No w w' := by
  have hlt := h.lt
  have d2 := h.d2
  have HG := Lib.hid (And.intro h hp)
  clear h hp
  go_enter Tryz.func107, Tryz.ntmps107
  have hM1 := M145_Edge
  have hM2 := M145_Vertex
  have hN0 := (heap_alloc w (.cells #[.int .i64 0, .int .i64 0, .map none, .int .i64 0, .nilIface] 97)).1
  have HN0 := Lib.hid hN0
  clear hN0
  have E0 : Ext No w (w.alloc (.cells #[.int .i64 0, .int .i64 0, .map none, .int .i64 0, .nilIface] 97)) := (Ext.refl _ _).alloc _
  go_wp2_with fail
  refine (edge_no (A := H.A) (σ := σ) (HG.out.1.st.ext E0 (fun _ _ h => h)) (HG.out.2.ext hB E0 (fun _ h => h.elim)) he).mono ?_
  rintro e1 w1 ⟨rfl, h1⟩
  have HE1 := Lib.hid (E0.trans h1)
  have HY := Lib.hid (h1.obj HN0.out id)
  obtain ⟨y0, y1, y2, y3, y4, f0, f1, f2, f3, f4⟩ := edge_cells HN0.out h1
  have l0 := World.block_lt_of_cell? _ _ y0
  clear h1 E0 hlt d2
  go_wp2_with fail
  refine bodyPost_ret (results_cell_tmp rfl rfl (alloc_heap (set5 HY.out _ _ _ _ _) _) Tryz.underlying97 rfl sz97 rfl) rfl ⟨rfl, ?_⟩
  exact (HE1.out.set5 (Nat.le_refl _) _ _ _ _ _).alloc _
end Go.Proofs.YtcenebjdhbdejaaGreatDoor
