/- The undirected graph's AddVertex and AdjacencyMap, walked. -/
import Derived.Test.YtcenebjdhbdejaaGreatDoorB3
namespace Go.Proofs.YtcenebjdhbdejaaGreatDoor
open Go.MapKept

set_option maxRecDepth 100000 in
set_option maxHeartbeats 400000 in
theorem u_addVertex_new {w : World} {H : Hd} {τ : Tr} {σ : St} {k : Int} (h : Gr w H τ σ) (hk : ∀ a, (k, a) ∉ σ.V) :
    Calls Tryz.prog 128 #[.pointer (some ⟨H.d, 0, none⟩), kI k, .slice none 0 0] w fun e w' => e = .returned .nilIface ∧ ∃ a, Turned H τ σ { σ with V := σ.V ++ [(k, a)] } w w' := by
  have hlt := h.lt
  have d0 := h.d0
  have d2 := h.d2
  have HG := Lib.hid h
  clear h
  go_enter Tryz.func128, Tryz.ntmps128
  have hmm := makeMapR Tryz.prog
  go_wp2_with (go_at_call 34; refine (hash_any _ _).mono ?_; rintro e w' ⟨rfl, rfl⟩)
  refine wp_loop_rounds 1 ?_
  rw [rounds_succ]
  go_wp2
  have q0 : ((w.alloc (.map #[] 0)).alloc (.cells #[.map (some w.heap.size), .int .i64 0] 213)).cell? ⟨H.d, 2, none⟩ = some (storeV H.A) := (((Ext.refl No w).alloc _).alloc _).cellv d2 id
  have q1 : ((w.alloc (.map #[] 0)).alloc (.cells #[.map (some w.heap.size), .int .i64 0] 213)).cell? ⟨w.heap.size + 1, 0, none⟩ = some (.map (some w.heap.size)) := by rw [cell_of_row _ _ _ _ _ _ (two_new _ _ _)]; rfl
  have q2 : ((w.alloc (.map #[] 0)).alloc (.cells #[.map (some w.heap.size), .int .i64 0] 213)).cell? ⟨w.heap.size + 1, 1, none⟩ = some (.int .i64 0) := by rw [cell_of_row _ _ _ _ _ _ (two_new _ _ _)]; rfl
  have e1 : Ext No w ((w.alloc (.map #[] 0)).alloc (.cells #[.map (some w.heap.size), .int .i64 0] 213)) := ((Ext.refl No w).alloc _).alloc _
  have m1 : ((w.alloc (.map #[] 0)).alloc (.cells #[.map (some w.heap.size), .int .i64 0] 213)).heap[w.heap.size]? = some (.map #[] 0) := by
    rw [(heap_alloc (w.alloc (.map #[] 0)) _).2 _ (by simp)]; exact (heap_alloc w _).1
  revert q0 q1 q2 e1 m1
  generalize (w.alloc (.map #[] 0)).alloc (.cells #[.map (some w.heap.size), .int .i64 0] 213) = W
  intro q0 q1 q2 e1 m1
  go_still_tail 7, (by kernel_rfl)
  have hM := M145_AddVertex
  have hS : Store W.drew H.A σ := HG.out.st.ext e1.drew (fun _ _ => id)
  have hS' := Lib.hid hS
  clear hS
  have hnf : ¬ σ.foot H.A w.heap.size := fun hf => by have := HG.out.st.foot_lt hf; omega
  go_wp2_with (go_at_call 145; refine (addVertex_new hS'.out hk hnf m1).mono ?_; rintro e w' ⟨rfl, h1, h2⟩)
  go_ret
  have h := HG.out
  refine ⟨rfl, w.heap.size, h.turn (e1.drew.no.then h2 ?_) h1 (fun c hc => ?_)⟩
  · rintro c - (rfl | rfl) <;> exact Or.inl (by simp [St.blocks])
  · rcases hc with hc | hc
    · exact Or.inl (Or.inl hc)
    · simp only [St.atts, List.map_append, List.map_cons, List.map_nil, List.mem_append, List.mem_cons, List.not_mem_nil, or_false] at hc
      rcases hc with (hc | hc) | hc
      · exact Or.inl (Or.inr (List.mem_append_left _ hc))
      · exact Or.inr (Nat.le_of_eq hc.symm)
      · exact Or.inl (Or.inr (List.mem_append_right _ hc))

set_option maxRecDepth 100000 in
set_option maxHeartbeats 400000 in
theorem u_addVertex_old {w : World} {H : Hd} {τ : Tr} {σ : St} {k : Int} {b : Nat} {p : Nat → Addr} (h : Gr w H τ σ) (hp : Sent w p) {B : Nat} (hB : Below6 B p) (hk : (k, b) ∈ σ.V) :
    Calls Tryz.prog 128 #[.pointer (some ⟨H.d, 0, none⟩), kI k, .slice none 0 0] w fun e w' => e = .returned (errv p 0) ∧ Ext No w w' := by
  have hlt := h.lt
  have d0 := h.d0
  have d2 := h.d2
  have HG := Lib.hid (And.intro h hp)
  clear h hp
  go_enter Tryz.func128, Tryz.ntmps128
  have hmm := makeMapR Tryz.prog
  go_wp2_with (go_at_call 34; refine (hash_any _ _).mono ?_; rintro e w' ⟨rfl, rfl⟩)
  refine wp_loop_rounds 1 ?_
  rw [rounds_succ]
  go_wp2
  have q0 : ((w.alloc (.map #[] 0)).alloc (.cells #[.map (some w.heap.size), .int .i64 0] 213)).cell? ⟨H.d, 2, none⟩ = some (storeV H.A) := (((Ext.refl No w).alloc _).alloc _).cellv d2 id
  have q1 : ((w.alloc (.map #[] 0)).alloc (.cells #[.map (some w.heap.size), .int .i64 0] 213)).cell? ⟨w.heap.size + 1, 0, none⟩ = some (.map (some w.heap.size)) := by rw [cell_of_row _ _ _ _ _ _ (two_new _ _ _)]; rfl
  have q2 : ((w.alloc (.map #[] 0)).alloc (.cells #[.map (some w.heap.size), .int .i64 0] 213)).cell? ⟨w.heap.size + 1, 1, none⟩ = some (.int .i64 0) := by rw [cell_of_row _ _ _ _ _ _ (two_new _ _ _)]; rfl
  have e1 : Ext No w ((w.alloc (.map #[] 0)).alloc (.cells #[.map (some w.heap.size), .int .i64 0] 213)) := ((Ext.refl No w).alloc _).alloc _
  revert q0 q1 q2 e1
  generalize (w.alloc (.map #[] 0)).alloc (.cells #[.map (some w.heap.size), .int .i64 0] 213) = W
  intro q0 q1 q2 e1
  go_still_tail 7, (by kernel_rfl)
  have hM := M145_AddVertex
  have hS' : RowKit.Hid (Store W.drew H.A σ) := Lib.hid (HG.out.1.st.ext e1.drew (fun _ _ => id))
  have hP' : RowKit.Hid (Sent W.drew p) := Lib.hid (HG.out.2.ext hB e1.drew (fun _ h => h.elim))
  go_wp2_with (go_at_call 145; refine (addVertex_old hS'.out hP'.out hk).mono ?_; rintro e w' ⟨rfl, h2⟩)
  go_ret
  exact ⟨rfl, e1.drew.trans h2⟩

set_option maxRecDepth 100000 in
set_option maxHeartbeats 1000000 in
theorem u_adjacency {w : World} {H : Hd} {τ : Tr} {σ : St} (h : Gr w H τ σ) (hV : σ.V.length < 1000000) (hE : σ.E.length < 1000000) :
    Calls Tryz.prog 130 #[.pointer (some ⟨H.d, 0, none⟩)] w (Adj σ w) := by
  have d2 := h.d2
  have ld := h.lt
  have HG := Lib.hid (And.intro h (And.intro hV hE))
  clear h hV hE
  have hM1 := M145_ListVertices
  have hM2 := M145_ListEdges
  go_enter Tryz.func130, Tryz.ntmps130
  go_wp2_with fail
  refine (listVertices (A := H.A) (σ := σ) HG.out.1.st HG.out.2.1).mono ?_
  rintro e1 w1 ⟨v1, l, rfl, hl, ho1, h1⟩
  obtain ⟨q1, cap1, rfl, -⟩ := own_read (f := fun k : Int => [kI k]) (fun _ => rfl) ho1
  have HL := Lib.hid (And.intro hl (And.intro ho1 h1))
  have d2 := h1.cellv d2 id
  have ld := World.block_lt_of_cell? _ _ d2
  clear hl ho1 h1
  go_wp2_with fail
  refine (listEdges (A := H.A) (σ := σ) (HG.out.1.st.ext HL.out.2.2 (fun _ _ h => h)) HG.out.2.2).mono ?_
  rintro e2 w2 ⟨v2, E', rfl, hE', ho2, h2⟩
  obtain ⟨q2, cap2, rfl, -⟩ := own_read (f := EdgeR.cells) (fun _ => rfl) ho2
  have HL2 := Lib.hid (And.intro hE' (And.intro ho2 h2))
  clear hE' ho2 h2
  have hmk := makeMap105
  go_wp2_with fail
  have ho1 : (w2.alloc (.map #[] 0)).ownsRow w.heap.size 2 1 (.slice q1 l.length cap1) l.length (l.flatMap fun k => [kI k]) := ownsRow_ext HL.out.2.1 (HL2.out.2.2.alloc _) (fun _ _ h => h)
  have ho2 : (w2.alloc (.map #[] 0)).ownsRow w1.heap.size 97 5 (.slice q2 E'.length cap2) E'.length (E'.flatMap EdgeR.cells) := ownsRow_ext HL2.out.2.1 ((Ext.refl No _).alloc _) (fun _ _ h => h)
  have he : Ext No w (w2.alloc (.map #[] 0)) := (HL.out.2.2.trans HL2.out.2.2).alloc _
  have HS := Lib.hid (And.intro ho1 (And.intro ho2 he))
  have hsz : w.heap.size ≤ w2.heap.size := (HL.out.2.2.trans HL2.out.2.2).size
  have HZ := Lib.hid hsz
  clear ho1 ho2 he hsz d2 ld
  try go_frame
  go_loopg [41] l.length (fun k v wr => AM1 w w2.heap.size l E' (.slice q1 l.length cap1) (.slice q2 E'.length cap2) w1.heap.size k v wr)
  case atStart =>
    exact ⟨0, [], rfl, by simp, by simp, ⟨MapI.empty (heap_alloc w2 _).1, by simp, by simp⟩, by simpa using HZ.out, HS.out⟩
  case round =>
    obtain ⟨i, L, rfl, hk, hLk, hM, hb, ho1, ho2, he⟩ := hrel
    by_cases hlt : i < l.length
    · obtain ⟨g, rfl, hg, hc⟩ := own_at (f := fun k : Int => [kI k]) (fun _ => rfl) ho1 hlt
      have hx : wr.cell? ⟨g, i, none⟩ = some (kI (l[i]'hlt)) := by have := hc 0 (by decide); simpa using this
      have hlt' : (i : Int) < (l.length : Int) := by omega
      have HR := Lib.hid (And.intro hk (And.intro hLk (And.intro hM (And.intro hb (And.intro ho1 (And.intro ho2 he))))))
      have hmm := makeMapR Tryz.prog
      have hm := hM.out.alloc (.map #[] 0)
      clear hk hLk hM hb ho1 ho2 he hc
      go_wp2_with (first | (at_mapUpdate; (refine wpL_mapUpdate rfl rfl U105 K2 rfl rfl (.map (some wr.heap.size)) rfl hm ?_); intro w3 hm3 hon3))
      go_roundg (l.length - (i + 1))
      case measure => have := HR.out.1; omega
      case rel =>
        obtain ⟨hk, hLk, hM, hb, ho1, ho2, he⟩ := HR.out
        have hnl : l.Nodup := HL.out.1.nodup_iff.2 HG.out.1.st.keys
        have hnew : l[i]'hlt ∉ L.map (·.1) := by
          rw [hLk]; intro hm4
          obtain ⟨j, hj, hj2⟩ := List.mem_take_iff_getElem.1 hm4
          exact List.pairwise_iff_getElem.1 hnl j i (by omega) hlt (by omega) hj2
        have hM3 := hM.more hnew hm3 hon3
        have e3 : Ext (fun c => c = w2.heap.size) wr w3 := ((Ext.refl _ wr).alloc _).only hon3 (fun _ => rfl)
        have hwr := he.size
        have hll : l.length < 1000000 := by have := HL.out.1.length_eq; have h2 := HG.out.2.1; simp only [List.length_map] at this; omega
        refine ⟨i + 1, L ++ [(l[i]'hlt, wr.heap.size)], by rw [w64 (by omega)], by omega, ?_, hM3, ?_, ownsRow_ext ho1 e3 (fun c hc e => ?_), ownsRow_ext ho2 e3 (fun c hc e => ?_), he.then e3 (fun c hc e => ?_)⟩
        · rw [List.map_append, hLk, List.take_add_one, List.getElem?_eq_getElem hlt]; rfl
        · intro c hc
          simp only [List.map_append, List.map_cons, List.map_nil, List.mem_cons, List.mem_append, List.not_mem_nil, or_false] at hc
          rcases hc with hc | hc | hc
          · exact hb c (by rw [hc]; exact List.mem_cons_self)
          · exact hb c (List.mem_cons_of_mem _ hc)
          · omega
        · exact hM.out.not_row ho1 (by rw [hc, e])
        · exact hM.out.not_row ho2 (by rw [hc, e])
        · have := HZ.out; omega
    · have hnlt : ¬ (i : Int) < (l.length : Int) := by omega
      have hi : i = l.length := by omega
      subst hi
      rw [List.take_length] at hLk
      have HR := Lib.hid (And.intro hLk (And.intro hM (And.intro hb (And.intro ho2 he))))
      clear hLk hM hb ho1 ho2 he hk hlt
      go_wp2_with fail
      try go_frame
      go_loopg [51] E'.length (fun k v wq => AM2 w w2.heap.size L E' (.slice q2 E'.length cap2) w1.heap.size k v wq)
      case atStart => 
        obtain ⟨hLk, hM, hb, ho2, he⟩ := HR.out
        exact ⟨0, rfl, by simp, by rw [List.take_zero, outOf_nil]; exact hM, ho2, he⟩
      case round =>
        obtain ⟨i, rfl, hk, hM, ho2, he⟩ := hrel
        by_cases hlt : i < E'.length
        · obtain ⟨g, rfl, hg, hc⟩ := own_at (f := EdgeR.cells) (fun _ => rfl) ho2 hlt
          have c0 : wr.cell? ⟨g, i * 5, none⟩ = some (kI (E'[i]'hlt).src) := hc 0 (by decide)
          have c1 : wr.cell? ⟨g, i * 5 + 1, none⟩ = some (kI (E'[i]'hlt).dst) := hc 1 (by decide)
          have c2 : wr.cell? ⟨g, i * 5 + 2, none⟩ = some (.map (some (E'[i]'hlt).att)) := hc 2 (by decide)
          have c3 : wr.cell? ⟨g, i * 5 + 3, none⟩ = some (.int .i64 (E'[i]'hlt).wt) := hc 3 (by decide)
          have c4 : wr.cell? ⟨g, i * 5 + 4, none⟩ = some .nilIface := hc 4 (by decide)
          have hlt' : (i : Int) < (E'.length : Int) := by omega
          have HR2 := Lib.hid (And.intro hk (And.intro hM (And.intro ho2 he)))
          have hem : E'[i]'hlt ∈ σ.E := HL2.out.1.mem_iff.1 (List.getElem_mem hlt)
          have hob : ∃ ob, ((E'[i]'hlt).src, ob) ∈ L := by
            obtain ⟨⟨n, hn⟩, -⟩ := HG.out.1.st.ends _ hem
            have : (E'[i]'hlt).src ∈ L.map (·.1) := by rw [HR.out.1]; exact HL.out.1.mem_iff.2 (List.mem_map.2 ⟨_, hn, rfl⟩)
            obtain ⟨o, ho, h1⟩ := List.mem_map.1 this
            exact ⟨o.2, by rw [← h1]; exact ho⟩
          obtain ⟨ob, hob⟩ := hob
          have hm := hM.out.alloc (.cells (E'[i]'hlt).cells.toArray 97)
          have hmi := (hM.inn _ hob).alloc (.cells (E'[i]'hlt).cells.toArray 97)
          have l1 := lookup_mem (f := fun o => .map (some o.2)) hM.keys hob
          clear hk hM ho2 he hc hem
          go_wp2_with (first | (at_lookup; (refine wpL_lookup rfl rfl U105 K2 Z107 rfl rfl hm ?_); rw [l1]) | (at_mapUpdate; (refine wpL_mapUpdate rfl rfl U107 K2 rfl rfl (E'[i]'hlt).val rfl hmi ?_); intro w3 hm3 hon3))
          go_roundg (E'.length - (i + 1))
          case measure => have := HR2.out.1; omega
          case rel =>
            obtain ⟨hk, hM, ho2, he⟩ := HR2.out
            have hlen : E'.length < 1000000 := by have := HL2.out.1.length_eq; have h2 := HG.out.2.2; omega
            have hu : (E'.map fun e => (e.src, e.dst)).Nodup := (HL2.out.1.map _).nodup_iff.2 HG.out.1.st.euniq
            have hne : ∀ e' ∈ E'.take i, ¬ (e'.src = (E'[i]'hlt).src ∧ e'.dst = (E'[i]'hlt).dst) := by
              intro e' he' ⟨h1, h2⟩
              obtain ⟨j, hj, rfl⟩ := List.mem_take_iff_getElem.1 he'
              have := List.pairwise_iff_getElem.1 hu j i (by simp; omega) (by simpa using hlt) (by omega)
              simp only [List.getElem_map, ne_eq, Prod.mk.injEq] at this
              exact this ⟨h1, h2⟩
            have eA : Ext No wr (wr.alloc (.cells (E'[i]'hlt).cells.toArray 97)) := (Ext.refl _ wr).alloc _
            have hM3 := (hM.ext eA (fun _ _ => id)).edge hob hne hm3 hon3
            have e3 : Ext (fun c => c = ob) wr w3 := ((Ext.refl _ wr).alloc _).only hon3 (fun _ => rfl)
            have hbo : w.heap.size ≤ ob := HR.out.2.2.1 ob (List.mem_cons_of_mem _ (List.mem_map.2 ⟨_, hob, rfl⟩))
            refine ⟨i + 1, by rw [w64 (by omega)], by omega, ?_, ownsRow_ext ho2 e3 (fun c hc e => ?_), he.then e3 (fun c hc e => ?_)⟩
            · rw [List.take_add_one, List.getElem?_eq_getElem hlt]; exact hM3
            · exact (hM.inn _ hob).not_row ho2 (by rw [hc, e])
            · omega
        · have hnlt : ¬ (i : Int) < (E'.length : Int) := by omega
          have hi : i = E'.length := by omega
          subst hi
          rw [List.take_length] at hM
          have HR2 := Lib.hid (And.intro hM he)
          clear hk hM ho2 he
          go_wp2
          go_ret2
          exact ⟨w2.heap.size, L, E', rfl, by rw [HR.out.1]; exact HL.out.1, HL2.out.1, HR2.out.1, HR.out.2.2.1, HR2.out.2⟩

end Go.Proofs.YtcenebjdhbdejaaGreatDoor
