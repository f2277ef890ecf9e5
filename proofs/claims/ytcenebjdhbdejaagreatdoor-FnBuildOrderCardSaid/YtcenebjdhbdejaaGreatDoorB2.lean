/- The directed graph's AddEdge, refused: walked. -/
import Derived.Test.YtcenebjdhbdejaaGreatDoorB1
namespace Go.Proofs.YtcenebjdhbdejaaGreatDoor
open Go.MapKept

set_option maxRecDepth 100000 in
set_option maxHeartbeats 1000000 in
theorem d_addEdge_src {w : World} {H : Hd} {τ : Tr} {σ : St} {a b : Int} {s : Value} {p : Nat → Addr} (h : Gr w H τ σ) (hp : Sent w p)
    (hs : ∀ n, (a, n) ∉ σ.V) :
    Calls Tryz.prog 101 #[.pointer (some ⟨H.d, 0, none⟩), kI a, kI b, s] w fun r w' => r = .returned ((Er.wrap (.sent 1)).val p) ∧ Ext No w w' := by
  obtain ⟨d0, d1, d2, t4, ld, lt⟩ := h.now (Ext.refl No w)
  have HG := Lib.hid (And.intro h hp)
  clear h hp
  go_enter Tryz.func101, Tryz.ntmps101
  have hM1 := M145_Vertex
  go_wp2_with fail
  refine (vertex_no (A := H.A) (σ := σ) (HG.out.1.st.ext (Ext.refl No _) (fun _ _ h => h)) HG.out.2 hs).mono ?_
  rintro e1 w1 ⟨rfl, h1⟩
  have HE1 := Lib.hid h1
  clear h1
  go_wp2_with (go_at_call 118; (refine (wrap_any _ _ _).mono ?_); rintro e2 w2 ⟨rfl, rfl⟩)
  go_ret
  exact ⟨rfl, HE1.out.alloc _⟩

set_option maxRecDepth 100000 in
set_option maxHeartbeats 1000000 in
theorem d_addEdge_dst {w : World} {H : Hd} {τ : Tr} {σ : St} {a b : Int} {s : Value} {p : Nat → Addr} (h : Gr w H τ σ) (hp : Sent w p) {B : Nat} (hB : Below6 B p)
    (hs : ∃ n, (a, n) ∈ σ.V) (hd : ∀ n, (b, n) ∉ σ.V) :
    Calls Tryz.prog 101 #[.pointer (some ⟨H.d, 0, none⟩), kI a, kI b, s] w fun r w' => r = .returned ((Er.wrap (.sent 1)).val p) ∧ Ext No w w' := by
  obtain ⟨d0, d1, d2, t4, ld, lt⟩ := h.now (Ext.refl No w)
  obtain ⟨n1, hs⟩ := hs
  have HG := Lib.hid (And.intro h (And.intro hp hB))
  clear h hp hB
  go_enter Tryz.func101, Tryz.ntmps101
  have hM1 := M145_Vertex
  go_wp2_with fail
  refine (vertex_yes (A := H.A) (σ := σ) (HG.out.1.st.ext (Ext.refl No _) (fun _ _ h => h)) hs).mono ?_
  rintro e1 w1 ⟨rfl, h1⟩
  obtain ⟨d0, d1, d2, t4, ld, lt⟩ := HG.out.1.now h1
  have HE1 := Lib.hid h1
  clear h1
  go_wp2_with fail
  have HE : RowKit.Hid (Ext No w (w1.alloc (.cells #[.map (some n1), .int .i64 0] 213))) := Lib.hid (HE1.out.alloc _)
  refine (vertex_no (A := H.A) (σ := σ) (HG.out.1.st.ext HE.out (fun _ _ h => h)) (HG.out.2.1.ext HG.out.2.2 HE.out (fun _ h => h.elim)) hd).mono ?_
  rintro e2 w2 ⟨rfl, h2⟩
  have HE2 := Lib.hid (HE.out.trans h2)
  clear h2
  go_wp2_with (go_at_call 118; (refine (wrap_any _ _ _).mono ?_); rintro e2 w2 ⟨rfl, rfl⟩)
  go_ret
  exact ⟨rfl, HE2.out⟩

set_option maxRecDepth 100000 in
set_option maxHeartbeats 1000000 in
theorem d_addEdge_old {w : World} {H : Hd} {τ : Tr} {σ : St} {e : EdgeR} {s : Value} {p : Nat → Addr} (h : Gr w H τ σ) (hp : Sent w p) {B : Nat} (hB : Below6 B p)
    (he : e ∈ σ.E) :
    Calls Tryz.prog 101 #[.pointer (some ⟨H.d, 0, none⟩), kI e.src, kI e.dst, s] w fun r w' => r = .returned (errv p 3) ∧ Ext No w w' := by
  obtain ⟨d0, d1, d2, t4, ld, lt⟩ := h.now (Ext.refl No w)
  obtain ⟨⟨n1, hs⟩, n2, hd⟩ := h.st.ends e he
  have HG := Lib.hid (And.intro h (And.intro hp hB))
  clear h hp hB
  go_enter Tryz.func101, Tryz.ntmps101
  have hM1 := M145_Vertex
  go_wp2_with fail
  refine (vertex_yes (A := H.A) (σ := σ) (HG.out.1.st.ext (Ext.refl No _) (fun _ _ h => h)) hs).mono ?_
  rintro e1 w1 ⟨rfl, h1⟩
  obtain ⟨d0, d1, d2, t4, ld, lt⟩ := HG.out.1.now h1
  have HE1 := Lib.hid h1
  clear h1
  go_wp2_with fail
  have HE : RowKit.Hid (Ext No w (w1.alloc (.cells #[.map (some n1), .int .i64 0] 213))) := Lib.hid (HE1.out.alloc _)
  refine (vertex_yes (A := H.A) (σ := σ) (HG.out.1.st.ext HE.out (fun _ _ h => h)) hd).mono ?_
  rintro e2 w2 ⟨rfl, h2⟩
  have HE2 := Lib.hid (HE.out.trans h2)
  obtain ⟨d0, d1, d2, t4, ld, lt⟩ := HG.out.1.now HE2.out
  clear h2
  go_wp2_with fail
  refine (d_edge_yes (HG.out.1.ext HE2.out (fun _ _ h => h)) he).mono ?_
  rintro e3 w3 ⟨rfl, h3⟩
  have HE3 := Lib.hid (HE2.out.trans h3)
  have HP3 := Lib.hid (HG.out.2.1.ext HG.out.2.2 HE3.out (fun _ h => h.elim))
  have c4 := HP3.out.c4
  have l4 := World.block_lt_of_cell? _ _ c4
  clear h3
  go_wp2_with fail
  refine (is_nil (p := p) 4).mono ?_
  rintro e4 w4 ⟨rfl, h4⟩
  have HE4 := Lib.hid ((HE3.out.alloc _).trans h4)
  have HP4 := Lib.hid (HG.out.2.1.ext HG.out.2.2 HE4.out (fun _ h => h.elim))
  have c3 := HP4.out.c3
  have l3 := World.block_lt_of_cell? _ _ c3
  clear h4
  go_wp2
  go_ret
  exact ⟨rfl, HE4.out⟩
end Go.Proofs.YtcenebjdhbdejaaGreatDoor
