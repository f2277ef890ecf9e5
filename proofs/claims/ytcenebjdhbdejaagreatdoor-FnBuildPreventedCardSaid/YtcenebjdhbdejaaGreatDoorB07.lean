/- The directed graph's AddEdge, walked. The directed graph's AddEdge, refused: walked. -/
import Derived.Test.YtcenebjdhbdejaaGreatDoorB06
namespace Go.Proofs.YtcenebjdhbdejaaGreatDoor
open Go.MapKept

theorem Gr.now {w w' : World} {H : Hd} {τ : Tr} {σ : St} (h : Gr w H τ σ) (he : Ext No w w') :
    w'.cell? ⟨H.d, 0, none⟩ = some hashV ∧ w'.cell? ⟨H.d, 1, none⟩ = some (.pointer (some ⟨H.t, 0, none⟩)) ∧ w'.cell? ⟨H.d, 2, none⟩ = some (storeV H.A) ∧ w'.cell? ⟨H.t, 4, none⟩ = some (.bool τ.prev) ∧ H.d < w'.heap.size ∧ H.t < w'.heap.size :=
  have g := h.ext he (fun _ _ => id)
  ⟨g.d0, g.d1, g.d2, g.t4, g.lt, g.ltt⟩

/-- what AddEdge asks of a graph that prevents cycles: that there be none -/
def Free (H : Hd) (τ : Tr) (w : World) (a b : Int) : Prop :=
  τ.prev = true → ∀ w', Ext No w w' → Calls Tryz.prog 119 #[.pointer (some ⟨H.d, 0, none⟩), kI a, kI b] w' fun r w'' => r = .returned (.tuple #[.bool false, .nilIface]) ∧ Ext No w' w''

theorem Gr.added {w w1 w2 : World} {H : Hd} {τ : Tr} {σ : St} {a b wt : Int} {m : Nat} (h : Gr w H τ σ) (he : Ext No w w1) (hm : w.heap.size ≤ m) (h2 : AddedE H.A σ ⟨a, b, wt, m⟩ w1 w2) :
    ∃ m O' I', w.heap.size ≤ m ∧ Turned H τ σ { V := σ.V, E := σ.E ++ [⟨a, b, wt, m⟩], O := O', I := I' } w w2 := by
  obtain ⟨O', I', g1, g2, g3⟩ := h2
  refine ⟨m, O', I', hm, h.turn (he.no.trans (g2.mono (fun c _ hc => Or.inl hc))) g1 (fun c hc => ?_)⟩
  rcases hc with hc | hc
  · rcases g3 c hc with h | h
    · exact Or.inl (Or.inl h)
    · exact Or.inr (Nat.le_trans he.size h)
  · simp only [St.atts, List.map_append, List.map_cons, List.map_nil, List.mem_append, List.mem_cons, List.not_mem_nil, or_false] at hc
    rcases hc with hc | hc | hc
    · exact Or.inl (Or.inr (List.mem_append_left _ hc))
    · exact Or.inl (Or.inr (List.mem_append_right _ hc))
    · exact Or.inr (hc ▸ hm)

set_option maxRecDepth 100000 in
set_option maxHeartbeats 1000000 in
theorem d_addEdge_new {w : World} {H : Hd} {τ : Tr} {σ : St} {a b wt : Int} {f : Value} {ob : Nat} {p : Nat → Addr} (h : Gr w H τ σ) (hp : Sent w p) {B : Nat} (hB : Below6 B p)
    (hs : ∃ n, (a, n) ∈ σ.V) (hd : ∃ n, (b, n) ∈ σ.V) (hne : ∀ e ∈ σ.E, ¬ (e.src = a ∧ e.dst = b)) (hcy : Free H τ w a b) (ho : w.cell? ⟨ob, 0, none⟩ = some f) (hf : Opt w wt f) :
    Calls Tryz.prog 101 #[.pointer (some ⟨H.d, 0, none⟩), kI a, kI b, .slice (some ⟨ob, 0, none⟩) 1 1] w fun r w' => r = .returned .nilIface ∧
      ∃ m O' I', w.heap.size ≤ m ∧ Turned H τ σ { V := σ.V, E := σ.E ++ [⟨a, b, wt, m⟩], O := O', I := I' } w w' := by
  obtain ⟨d0, d1, d2, t4, ld, lt⟩ := h.now (Ext.refl No w)
  obtain ⟨n1, hs⟩ := hs
  obtain ⟨n2, hd⟩ := hd
  have HG := Lib.hid (And.intro h (And.intro hp hB))
  have HB := Lib.hid hB
  clear hB
  have HF := Lib.hid (And.intro hcy (And.intro ho hf))
  have lo := World.block_lt_of_cell? _ _ ho
  clear h hp hcy ho hf
  go_enter Tryz.func101, Tryz.ntmps101
  have hM1 := M145_Vertex
  go_wp2_with fail
  refine (vertex_yes (A := H.A) (σ := σ) (HG.out.1.st.ext (Ext.refl No _) (fun _ _ h => h)) hs).mono ?_
  rintro e1 w1 ⟨rfl, h1⟩
  obtain ⟨d0, d1, d2, t4, ld, lt⟩ := HG.out.1.now h1
  have HE1 := Lib.hid h1
  clear h1
  go_wp2_with fail
  refine (vertex_yes (A := H.A) (σ := σ) (HG.out.1.st.ext (S := No) (HE1.out.trans ?_) (fun _ _ h => h)) hd).mono ?_
  · exact (Ext.refl No w1).alloc _
  rintro e2 w2 ⟨rfl, h2⟩
  have HE2 := Lib.hid (HE1.out.trans (((Ext.refl No w1).alloc _).trans h2))
  obtain ⟨d0, d1, d2, t4, ld, lt⟩ := HG.out.1.now HE2.out
  have HP2 := Lib.hid (HG.out.2.1.ext HB.out HE2.out (fun _ h => h.elim))
  have c4 := HP2.out.c4
  clear h2
  go_wp2_with fail
  refine (d_edge_no (HG.out.1.ext HE2.out (fun _ _ h => h)) HP2.out HB.out hne).mono ?_
  rintro e3 w3 ⟨rfl, h3⟩
  have HE3 := Lib.hid (HE2.out.trans h3)
  obtain ⟨d0, d1, d2, t4, ld, lt⟩ := HG.out.1.now HE3.out
  have HP3 := Lib.hid (HP2.out.ext HB.out h3 (fun _ h => h.elim))
  have c4 := HP3.out.c4
  have l4 := World.block_lt_of_cell? _ _ c4
  clear h3
  have E3 : Ext No w3 (w3.alloc (.cells #[.int .i64 0, .int .i64 0, .map none, .int .i64 0, .nilIface] 97)) := (Ext.refl No w3).alloc _
  go_wp2_with fail
  refine (is_any (HP3.out.ext HB.out E3 (fun _ h => h.elim)) (.sent 4) 4 (by decide) (by decide)).mono ?_
  rintro e4 w4 ⟨rfl, h4⟩
  have HE4 := Lib.hid (HE3.out.trans (E3.trans h4))
  clear d0 d1 d2 t4 ld lt E3 h4 c4 l4
  obtain ⟨d0, d1, d2, t4, ld, lt⟩ := HG.out.1.now HE4.out
  have ho := HE4.out.cellv HF.out.2.1 id
  have lo := World.block_lt_of_cell? _ _ ho
  have hmm := makeMapR Tryz.prog
  go_upto_if 65 with fail
  go_cut [14, 15] from 65 (fun _ _ wc => Ext No w4 wc)
  case first =>
    have hcy := Lib.hid HF.out.1
    cases hprev : τ.prev with
    | false =>
      rw [hprev] at t4
      go_wp2
      go_meet
      case rel => exact Ext.refl _ _
    | true =>
      rw [hprev] at t4
      go_wp2_with (go_at_call 119; (refine (hcy.out hprev _ HE4.out).mono ?_); rintro e5 w5 ⟨rfl, h5⟩)
      go_meet
      case rel => exact h5
  case rest =>
    have HE5 := Lib.hid (HE4.out.trans hcut)
    obtain ⟨d0, d1, d2, t4, ld, lt⟩ := HG.out.1.now HE5.out
    have ho := HE5.out.cellv HF.out.2.1 id
    have lo := World.block_lt_of_cell? _ _ ho
    clear hcut
    have HW : RowKit.Hid (Ext No w ((wc.alloc (.map #[] 0)).alloc (ownE a b wc.heap.size 0))) := Lib.hid ((HE5.out.alloc _).alloc _)
    have hr : ((wc.alloc (.map #[] 0)).alloc (ownE a b wc.heap.size 0)).heap[wc.heap.size + 1]? = some (ownE a b wc.heap.size 0) := by
      have := (heap_alloc (wc.alloc (.map #[] 0)) (ownE a b wc.heap.size 0)).1
      simpa using this
    have HR := Lib.hid hr
    have hmr : ((wc.alloc (.map #[] 0)).alloc (ownE a b wc.heap.size 0)).heap[wc.heap.size]? = some (.map #[] 0) :=
      alloc_heap (heap_alloc wc (.map #[] 0)).1 _
    have HMR := Lib.hid hmr
    clear hr hmr
    have HT : ∀ W', Ext (fun c => c = wc.heap.size + 1) ((wc.alloc (.map #[] 0)).alloc (ownE a b wc.heap.size 0)) W' → W'.heap[wc.heap.size + 1]? = some (ownE a b wc.heap.size wt) →
        Ext No w W' ∧ Gr W' H τ σ ∧ W'.heap[wc.heap.size]? = some (.map #[] 0) ∧ wc.heap.size ∉ σ.blocks H.A ∧ w.heap.size ≤ wc.heap.size := by
      intro W' h1 h2
      have hsz := HE5.out.size
      have e1 : Ext No w W' := HW.out.then h1 (fun c hc e => by omega)
      exact ⟨e1, HG.out.1.ext e1 (fun _ _ h => h), h1.obj HMR.out (by omega), fun hm => by have := HG.out.1.st.blocks_lt _ hm; omega, hsz⟩
    have HT := Lib.hid HT
    rcases HF.out.2.2 with ⟨oa, hc⟩ | ⟨oa, s', t', m', hr, hm⟩
    · have HC := Lib.hid (weight_run HR.out (HW.out.cellv hc id))
      clear hc
      go_wp2_with fail
      refine wp_loop_rounds 2 ?_
      rw [rounds_succ]
      go_wp2_with (go_at_call 47; (refine HC.out.mono ?_); rintro e6 w6 ⟨rfl, h6, h7⟩)
      obtain ⟨y0, y1, y2, y3, y4, -⟩ := edge_cells h6 (Ext.refl _ w6)
      have l6 := World.block_lt_of_cell? _ _ y0
      have HE6 := Lib.hid (HT.out _ h7 h6)
      clear h6 h7
      rw [rounds_succ]
      go_wp2_with (go_at_call 120; (refine (d_addEdgeIn (e := ⟨a, b, wt, wc.heap.size⟩) HE6.out.2.1 ⟨n1, hs⟩ ⟨n2, hd⟩ hne HE6.out.2.2.1 HE6.out.2.2.2.1).mono ?_); rintro e7 w7 ⟨rfl, h8⟩)
      go_ret
      exact ⟨rfl, HG.out.1.added HE6.out.1 HE6.out.2.2.2.2 h8⟩
    · have HC := Lib.hid (copy_run HR.out (HW.out.obj hr id) (HW.out.obj hm id) (by have := (Array.getElem?_eq_some_iff.1 hr).1; have := HE5.out.size; omega))
      clear hr hm
      go_wp2_with fail
      refine wp_loop_rounds 2 ?_
      rw [rounds_succ]
      go_wp2_with (go_at_call 124; (refine HC.out.mono ?_); rintro e6 w6 ⟨rfl, h6, h7⟩)
      obtain ⟨y0, y1, y2, y3, y4, -⟩ := edge_cells h6 (Ext.refl _ w6)
      have l6 := World.block_lt_of_cell? _ _ y0
      have HE6 := Lib.hid (HT.out _ h7 h6)
      clear h6 h7
      rw [rounds_succ]
      go_wp2_with (go_at_call 120; (refine (d_addEdgeIn (e := ⟨a, b, wt, wc.heap.size⟩) HE6.out.2.1 ⟨n1, hs⟩ ⟨n2, hd⟩ hne HE6.out.2.2.1 HE6.out.2.2.2.1).mono ?_); rintro e7 w7 ⟨rfl, h8⟩)
      go_ret
      exact ⟨rfl, HG.out.1.added HE6.out.1 HE6.out.2.2.2.2 h8⟩
end Go.Proofs.YtcenebjdhbdejaaGreatDoor

namespace Go.Proofs.YtcenebjdhbdejaaGreatDoor
open Go.MapKept

set_option maxRecDepth 100000 in
set_option maxHeartbeats 1000000 in
theorem d_addEdge_src {w : World} {H : Hd} {τ : Tr} {σ : St} {a b : Int} {s : Value} {p : Nat → Addr} (h : Gr w H τ σ) (hp : Sent w p)
    (hs : ∀ n, (a, n) ∉ σ.V) :
    Calls Tryz.prog 101 #[.pointer (some ⟨H.d, 0, none⟩), kI a, kI b, s] w fun r w' => r = .returned ((Er.wrap (.sent 1)).val p) ∧ Ext No w w' := by
  obtain ⟨d0, d1, d2, t4, ld, lt⟩ := h.now (Ext.refl No w)
  have HG := Lib.hid (And.intro h hp)
  clear h hp
  go_enter Tryz.func101, Tryz.ntmps101
  have hM1 := M145_Vertex
  go_wp2_with fail
  refine (vertex_no (A := H.A) (σ := σ) (HG.out.1.st.ext (Ext.refl No _) (fun _ _ h => h)) HG.out.2 hs).mono ?_
  rintro e1 w1 ⟨rfl, h1⟩
  have HE1 := Lib.hid h1
  clear h1
  go_wp2_with (go_at_call 118; (refine (wrap_any _ _ _).mono ?_); rintro e2 w2 ⟨rfl, rfl⟩)
  go_ret
  exact ⟨rfl, HE1.out.alloc _⟩

set_option maxRecDepth 100000 in
set_option maxHeartbeats 1000000 in
theorem d_addEdge_dst {w : World} {H : Hd} {τ : Tr} {σ : St} {a b : Int} {s : Value} {p : Nat → Addr} (h : Gr w H τ σ) (hp : Sent w p) {B : Nat} (hB : Below6 B p)
    (hs : ∃ n, (a, n) ∈ σ.V) (hd : ∀ n, (b, n) ∉ σ.V) :
    Calls Tryz.prog 101 #[.pointer (some ⟨H.d, 0, none⟩), kI a, kI b, s] w fun r w' => r = .returned ((Er.wrap (.sent 1)).val p) ∧ Ext No w w' := by
  obtain ⟨d0, d1, d2, t4, ld, lt⟩ := h.now (Ext.refl No w)
  obtain ⟨n1, hs⟩ := hs
  have HG := Lib.hid (And.intro h (And.intro hp hB))
  clear h hp hB
  go_enter Tryz.func101, Tryz.ntmps101
  have hM1 := M145_Vertex
  go_wp2_with fail
  refine (vertex_yes (A := H.A) (σ := σ) (HG.out.1.st.ext (Ext.refl No _) (fun _ _ h => h)) hs).mono ?_
  rintro e1 w1 ⟨rfl, h1⟩
  obtain ⟨d0, d1, d2, t4, ld, lt⟩ := HG.out.1.now h1
  have HE1 := Lib.hid h1
  clear h1
  go_wp2_with fail
  have HE : RowKit.Hid (Ext No w (w1.alloc (.cells #[.map (some n1), .int .i64 0] 213))) := Lib.hid (HE1.out.alloc _)
  refine (vertex_no (A := H.A) (σ := σ) (HG.out.1.st.ext HE.out (fun _ _ h => h)) (HG.out.2.1.ext HG.out.2.2 HE.out (fun _ h => h.elim)) hd).mono ?_
  rintro e2 w2 ⟨rfl, h2⟩
  have HE2 := Lib.hid (HE.out.trans h2)
  clear h2
  go_wp2_with (go_at_call 118; (refine (wrap_any _ _ _).mono ?_); rintro e2 w2 ⟨rfl, rfl⟩)
  go_ret
  exact ⟨rfl, HE2.out⟩

set_option maxRecDepth 100000 in
set_option maxHeartbeats 1000000 in
theorem d_addEdge_old {w : World} {H : Hd} {τ : Tr} {σ : St} {e : EdgeR} {s : Value} {p : Nat → Addr} (h : Gr w H τ σ) (hp : Sent w p) {B : Nat} (hB : Below6 B p)
    (he : e ∈ σ.E) :
    Calls Tryz.prog 101 #[.pointer (some ⟨H.d, 0, none⟩), kI e.src, kI e.dst, s] w fun r w' => r = .returned (errv p 3) ∧ Ext No w w' := by
  obtain ⟨d0, d1, d2, t4, ld, lt⟩ := h.now (Ext.refl No w)
  obtain ⟨⟨n1, hs⟩, n2, hd⟩ := h.st.ends e he
  have HG := Lib.hid (And.intro h (And.intro hp hB))
  clear h hp hB
  go_enter Tryz.func101, Tryz.ntmps101
  have hM1 := M145_Vertex
  go_wp2_with fail
  refine (vertex_yes (A := H.A) (σ := σ) (HG.out.1.st.ext (Ext.refl No _) (fun _ _ h => h)) hs).mono ?_
  rintro e1 w1 ⟨rfl, h1⟩
  obtain ⟨d0, d1, d2, t4, ld, lt⟩ := HG.out.1.now h1
  have HE1 := Lib.hid h1
  clear h1
  go_wp2_with fail
  have HE : RowKit.Hid (Ext No w (w1.alloc (.cells #[.map (some n1), .int .i64 0] 213))) := Lib.hid (HE1.out.alloc _)
  refine (vertex_yes (A := H.A) (σ := σ) (HG.out.1.st.ext HE.out (fun _ _ h => h)) hd).mono ?_
  rintro e2 w2 ⟨rfl, h2⟩
  have HE2 := Lib.hid (HE.out.trans h2)
  obtain ⟨d0, d1, d2, t4, ld, lt⟩ := HG.out.1.now HE2.out
  clear h2
  go_wp2_with fail
  refine (d_edge_yes (HG.out.1.ext HE2.out (fun _ _ h => h)) he).mono ?_
  rintro e3 w3 ⟨rfl, h3⟩
  have HE3 := Lib.hid (HE2.out.trans h3)
  have HP3 := Lib.hid (HG.out.2.1.ext HG.out.2.2 HE3.out (fun _ h => h.elim))
  have c4 := HP3.out.c4
  have l4 := World.block_lt_of_cell? _ _ c4
  clear h3
  go_wp2_with fail
  refine (is_nil (p := p) 4).mono ?_
  rintro e4 w4 ⟨rfl, h4⟩
  have HE4 := Lib.hid ((HE3.out.alloc _).trans h4)
  have HP4 := Lib.hid (HG.out.2.1.ext HG.out.2.2 HE4.out (fun _ h => h.elim))
  have c3 := HP4.out.c3
  have l3 := World.block_lt_of_cell? _ _ c3
  clear h4
  go_wp2
  go_ret
  exact ⟨rfl, HE4.out⟩
end Go.Proofs.YtcenebjdhbdejaaGreatDoor
