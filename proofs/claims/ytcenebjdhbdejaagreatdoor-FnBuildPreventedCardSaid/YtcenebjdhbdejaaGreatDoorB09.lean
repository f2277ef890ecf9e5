/- The directed graph's AdjacencyMap, walked. The undirected graph's AddVertex and AdjacencyMap, walked. The directed graph's Order and Size, walked. The undirected graph's Order and Size, walked. Printed by gend2.sh out of the directed text. The directed graph's PredecessorMap, walked. -/
import Derived.Test.YtcenebjdhbdejaaGreatDoorB04
import Derived.Test.YtcenebjdhbdejaaGreatDoorB08
namespace Go.Proofs.YtcenebjdhbdejaaGreatDoor
open Go.MapKept

theorem pairs_nodup : ∀ (l : List EdgeR), (∀ a, ((l.filter (fun e => e.src == a)).map (·.dst)).Nodup) → (l.map fun e => (e.src, e.dst)).Nodup
  | [], _ => by simp
  | e :: l, h => by
    rw [List.map_cons, List.nodup_cons]
    refine ⟨fun hm => ?_, pairs_nodup l fun a => ?_⟩
    · obtain ⟨e', he', h1⟩ := List.mem_map.1 hm
      simp only [Prod.mk.injEq] at h1
      have := h e.src
      simp only [List.filter_cons, beq_self_eq_true, if_true, List.map_cons, List.nodup_cons] at this
      exact this.1 (List.mem_map.2 ⟨e', List.mem_filter.2 ⟨he', by simp [h1.1]⟩, h1.2⟩)
    · exact (h a).sublist (((List.sublist_cons_self e l).filter _).map _)

theorem Store.euniq {w : World} {A : Ad} {σ : St} (h : Store w A σ) : (σ.E.map fun e => (e.src, e.dst)).Nodup := by
  apply pairs_nodup
  intro a
  by_cases ha : ∃ b, (a, b) ∈ σ.O
  · obtain ⟨b, hb⟩ := ha
    have := (h.outs _ hb).nodup
    simp only [outOf, List.map_map] at this
    exact this
  · have : σ.E.filter (fun e => e.src == a) = [] := by
      rw [List.filter_eq_nil_iff]
      intro e he hea
      obtain ⟨b, hb⟩ := h.outk e he
      simp only [beq_iff_eq] at hea
      exact ha ⟨b, hea ▸ hb⟩
    rw [this]; simp

/-- the map of maps, of which the inner ones hold what F says -/
structure MapM (w : World) (mb : Nat) (L : List (Int × Nat)) (F : Int → List (Int × Value)) : Prop where
  out : MapI kI w mb (L.map fun o => (o.1, .map (some o.2)))
  inn : ∀ o ∈ L, MapI kI w o.2 (F o.1)
  nd : (mb :: L.map (·.2)).Nodup

theorem MapM.ext {S : Nat → Prop} {w w' : World} {mb : Nat} {L : List (Int × Nat)} {F : Int → List (Int × Value)} (h : MapM w mb L F) (he : Ext S w w') (hS : ∀ c ∈ mb :: L.map (·.2), ¬ S c) : MapM w' mb L F :=
  ⟨h.out.ext he (hS _ List.mem_cons_self), fun o ho => (h.inn o ho).ext he (hS _ (List.mem_cons_of_mem _ (List.mem_map.2 ⟨o, ho, rfl⟩))), h.nd⟩
theorem MapM.keys {w : World} {mb : Nat} {L : List (Int × Nat)} {F : Int → List (Int × Value)} (h : MapM w mb L F) : (L.map (·.1)).Nodup := by
  have := h.out.nodup; rwa [keys_map (fun v => Value.map (some v.2))] at this

theorem MapM.lt {w : World} {mb : Nat} {L : List (Int × Nat)} {F : Int → List (Int × Value)} (h : MapM w mb L F) : ∀ c ∈ mb :: L.map (·.2), c < w.heap.size := by
  intro c hc
  rcases List.mem_cons.1 hc with rfl | hc
  · exact h.out.lt
  · obtain ⟨o, ho, rfl⟩ := List.mem_map.1 hc
    exact (h.inn o ho).lt

theorem outOf_nil : outOf [] = fun _ => [] := rfl

/-- What AdjacencyMap leaves. -/
def Adj (σ : St) (w : World) (r : Ending) (w' : World) : Prop :=
  ∃ (mb : Nat) (L : List (Int × Nat)) (E' : List EdgeR), r = .returned (.tuple #[.map (some mb), .nilIface]) ∧ (L.map (·.1)).Perm (σ.V.map (·.1)) ∧ E'.Perm σ.E ∧ MapM w' mb L (outOf E') ∧ (∀ c ∈ mb :: L.map (·.2), w.heap.size ≤ c) ∧ Ext No w w'

/-- one more vertex -/
theorem MapM.more {w w1 : World} {mb : Nat} {L : List (Int × Nat)} {k : Int} (h : MapM w mb L (fun _ => [])) (hk : k ∉ L.map (·.1))
    (hm : MapI kI w1 mb (setA k (.map (some w.heap.size)) (L.map fun o => (o.1, .map (some o.2))))) (ho : Only mb (w.alloc (.map #[] 0)) w1) : MapM w1 mb (L ++ [(k, w.heap.size)]) (fun _ => []) := by
  have hl : (L.map fun o => (o.1, Value.map (some o.2))).lookup k = none := lookup_not (f := fun o => .map (some o.2)) fun b hb => hk (List.mem_map.2 ⟨_, hb, rfl⟩)
  have hlt := h.lt
  have he : Ext (fun c => c = mb) w w1 := ((Ext.refl _ w).alloc _).only ho (fun _ => rfl)
  have hnd := h.nd
  rw [List.nodup_cons] at hnd
  refine ⟨by rw [setA_new hl] at hm; simpa using hm, fun o ho' => ?_, ?_⟩
  · rcases List.mem_append.1 ho' with ho' | ho'
    · exact (h.inn o ho').ext he (fun e => hnd.1 (e ▸ List.mem_map.2 ⟨o, ho', rfl⟩))
    · simp only [List.mem_singleton] at ho'
      subst ho'
      refine MapI.empty (clk := 0) ?_
      have := hlt mb List.mem_cons_self
      rw [ho.other _ (by show w.heap.size ≠ mb; omega)]; exact (heap_alloc w _).1
  · have h1 : w.heap.size ∉ mb :: L.map (·.2) := fun hm' => by have := hlt _ hm'; omega
    simp only [List.map_append, List.map_cons, List.map_nil]
    rw [← List.cons_append, List.nodup_append]
    refine ⟨h.nd, by simp, fun a ha b hb => ?_⟩
    simp only [List.mem_singleton] at hb
    subst hb
    exact fun e => h1 (e ▸ ha)

/-- one more edge -/
theorem MapM.edge {w w1 : World} {mb ob : Nat} {L : List (Int × Nat)} {E : List EdgeR} {e : EdgeR} (h : MapM w mb L (outOf E)) (hk : (e.src, ob) ∈ L) (hne : ∀ e' ∈ E, ¬ (e'.src = e.src ∧ e'.dst = e.dst))
    (hm : MapI kI w1 ob (setA e.dst e.val (outOf E e.src))) (ho : Only ob w w1) : MapM w1 mb L (outOf (E ++ [e])) := by
  have hnd := h.nd
  rw [List.nodup_cons] at hnd
  have hl : (outOf E e.src).lookup e.dst = none := by
    unfold outOf
    refine lookup_of_not fun v hv => ?_
    simp only [List.mem_map, List.mem_filter, beq_iff_eq, Prod.mk.injEq] at hv
    obtain ⟨e', ⟨h1, h2⟩, h3, -⟩ := hv
    exact hne e' h1 ⟨h2, h3⟩
  refine ⟨ho.mapI (fun he => hnd.1 (by rw [he]; exact List.mem_map.2 ⟨_, hk, rfl⟩)) h.out, fun o ho' => ?_, h.nd⟩
  by_cases hx : o.1 = e.src
  · have : o = (e.src, ob) := uniq_of (·.1) L h.keys o ho' _ hk hx
    subst this
    rw [outOf_snoc, ← setA_new hl]; exact hm
  · rw [outOf_snoc_ne _ _ hx]
    refine ho.mapI (fun he => hx ?_) (h.inn o ho')
    have := uniq_of (·.2) L hnd.2 o ho' _ hk he
    rw [this]

theorem makeMap105 (n : Int) (w : World) : (Instr.makeMap 105 (some (.int .i64 n))).run Tryz.prog w = .ok (.map (some w.heap.size)) (w.alloc (.map #[] 0)) := by
  simp [Instr.makeMap, run_underlying U105, asInt, asIntOf, Result.andThen]

/-- round over the vertices -/
def AM1 (w : World) (mb : Nat) (l : List Int) (E' : List EdgeR) (v1 v2 : Value) (B2 : Nat) (k : Nat) (v : Value) (wr : World) : Prop :=
  ∃ (i : Nat) (L : List (Int × Nat)), v = .int .i64 i ∧ i + k = l.length ∧ L.map (·.1) = l.take i ∧ MapM wr mb L (fun _ => []) ∧ (∀ c ∈ mb :: L.map (·.2), w.heap.size ≤ c) ∧
    wr.ownsRow w.heap.size 2 1 v1 l.length (l.flatMap fun k => [kI k]) ∧ wr.ownsRow B2 97 5 v2 E'.length (E'.flatMap EdgeR.cells) ∧ Ext No w wr

/-- round over the edges -/
def AM2 (w : World) (mb : Nat) (L : List (Int × Nat)) (E' : List EdgeR) (v2 : Value) (B2 : Nat) (k : Nat) (v : Value) (wr : World) : Prop :=
  ∃ (i : Nat), v = .int .i64 i ∧ i + k = E'.length ∧ MapM wr mb L (outOf (E'.take i)) ∧
    wr.ownsRow B2 97 5 v2 E'.length (E'.flatMap EdgeR.cells) ∧ Ext No w wr

set_option maxRecDepth 100000 in
set_option maxHeartbeats 1000000 in
theorem d_adjacency {w : World} {H : Hd} {τ : Tr} {σ : St} (h : Gr w H τ σ) (hV : σ.V.length < 1000000) (hE : σ.E.length < 1000000) :
    Calls Tryz.prog 105 #[.pointer (some ⟨H.d, 0, none⟩)] w (Adj σ w) := by
  have d2 := h.d2
  have ld := h.lt
  have HG := Lib.hid (And.intro h (And.intro hV hE))
  clear h hV hE
  have hM1 := M145_ListVertices
  have hM2 := M145_ListEdges
  go_enter Tryz.func105, Tryz.ntmps105
  go_wp2_with fail
  refine (listVertices (A := H.A) (σ := σ) HG.out.1.st HG.out.2.1).mono ?_
  rintro e1 w1 ⟨v1, l, rfl, hl, ho1, h1⟩
  obtain ⟨q1, cap1, rfl, -⟩ := own_read (f := fun k : Int => [kI k]) (fun _ => rfl) ho1
  have HL := Lib.hid (And.intro hl (And.intro ho1 h1))
  have d2 := h1.cellv d2 id
  have ld := World.block_lt_of_cell? _ _ d2
  clear hl ho1 h1
  go_wp2_with fail
  refine (listEdges (A := H.A) (σ := σ) (HG.out.1.st.ext HL.out.2.2 (fun _ _ h => h)) HG.out.2.2).mono ?_
  rintro e2 w2 ⟨v2, E', rfl, hE', ho2, h2⟩
  obtain ⟨q2, cap2, rfl, -⟩ := own_read (f := EdgeR.cells) (fun _ => rfl) ho2
  have HL2 := Lib.hid (And.intro hE' (And.intro ho2 h2))
  clear hE' ho2 h2
  have hmk := makeMap105
  go_wp2_with fail
  have ho1 : (w2.alloc (.map #[] 0)).ownsRow w.heap.size 2 1 (.slice q1 l.length cap1) l.length (l.flatMap fun k => [kI k]) := ownsRow_ext HL.out.2.1 (HL2.out.2.2.alloc _) (fun _ _ h => h)
  have ho2 : (w2.alloc (.map #[] 0)).ownsRow w1.heap.size 97 5 (.slice q2 E'.length cap2) E'.length (E'.flatMap EdgeR.cells) := ownsRow_ext HL2.out.2.1 ((Ext.refl No _).alloc _) (fun _ _ h => h)
  have he : Ext No w (w2.alloc (.map #[] 0)) := (HL.out.2.2.trans HL2.out.2.2).alloc _
  have HS := Lib.hid (And.intro ho1 (And.intro ho2 he))
  have hsz : w.heap.size ≤ w2.heap.size := (HL.out.2.2.trans HL2.out.2.2).size
  have HZ := Lib.hid hsz
  clear ho1 ho2 he hsz d2 ld
  try go_frame
  go_loopg [41] l.length (fun k v wr => AM1 w w2.heap.size l E' (.slice q1 l.length cap1) (.slice q2 E'.length cap2) w1.heap.size k v wr)
  case atStart =>
    exact ⟨0, [], rfl, by simp, by simp, ⟨MapI.empty (heap_alloc w2 _).1, by simp, by simp⟩, by simpa using HZ.out, HS.out⟩
  case round =>
    obtain ⟨i, L, rfl, hk, hLk, hM, hb, ho1, ho2, he⟩ := hrel
    by_cases hlt : i < l.length
    · obtain ⟨g, rfl, hg, hc⟩ := own_at (f := fun k : Int => [kI k]) (fun _ => rfl) ho1 hlt
      have hx : wr.cell? ⟨g, i, none⟩ = some (kI (l[i]'hlt)) := by have := hc 0 (by decide); simpa using this
      have hlt' : (i : Int) < (l.length : Int) := by omega
      have HR := Lib.hid (And.intro hk (And.intro hLk (And.intro hM (And.intro hb (And.intro ho1 (And.intro ho2 he))))))
      have hmm := makeMapR Tryz.prog
      have hm := hM.out.alloc (.map #[] 0)
      clear hk hLk hM hb ho1 ho2 he hc
      go_wp2_with (first | (at_mapUpdate; (refine wpL_mapUpdate rfl rfl U105 K2 rfl rfl (.map (some wr.heap.size)) rfl hm ?_); intro w3 hm3 hon3))
      go_roundg (l.length - (i + 1))
      case measure => have := HR.out.1; omega
      case rel =>
        obtain ⟨hk, hLk, hM, hb, ho1, ho2, he⟩ := HR.out
        have hnl : l.Nodup := HL.out.1.nodup_iff.2 HG.out.1.st.keys
        have hnew : l[i]'hlt ∉ L.map (·.1) := by
          rw [hLk]; intro hm4
          obtain ⟨j, hj, hj2⟩ := List.mem_take_iff_getElem.1 hm4
          exact List.pairwise_iff_getElem.1 hnl j i (by omega) hlt (by omega) hj2
        have hM3 := hM.more hnew hm3 hon3
        have e3 : Ext (fun c => c = w2.heap.size) wr w3 := ((Ext.refl _ wr).alloc _).only hon3 (fun _ => rfl)
        have hwr := he.size
        have hll : l.length < 1000000 := by have := HL.out.1.length_eq; have h2 := HG.out.2.1; simp only [List.length_map] at this; omega
        refine ⟨i + 1, L ++ [(l[i]'hlt, wr.heap.size)], by rw [w64 (by omega)], by omega, ?_, hM3, ?_, ownsRow_ext ho1 e3 (fun c hc e => ?_), ownsRow_ext ho2 e3 (fun c hc e => ?_), he.then e3 (fun c hc e => ?_)⟩
        · rw [List.map_append, hLk, List.take_add_one, List.getElem?_eq_getElem hlt]; rfl
        · intro c hc
          simp only [List.map_append, List.map_cons, List.map_nil, List.mem_cons, List.mem_append, List.not_mem_nil, or_false] at hc
          rcases hc with hc | hc | hc
          · exact hb c (by rw [hc]; exact List.mem_cons_self)
          · exact hb c (List.mem_cons_of_mem _ hc)
          · omega
        · exact hM.out.not_row ho1 (by rw [hc, e])
        · exact hM.out.not_row ho2 (by rw [hc, e])
        · have := HZ.out; omega
    · have hnlt : ¬ (i : Int) < (l.length : Int) := by omega
      have hi : i = l.length := by omega
      subst hi
      rw [List.take_length] at hLk
      have HR := Lib.hid (And.intro hLk (And.intro hM (And.intro hb (And.intro ho2 he))))
      clear hLk hM hb ho1 ho2 he hk hlt
      go_wp2_with fail
      try go_frame
      go_loopg [51] E'.length (fun k v wq => AM2 w w2.heap.size L E' (.slice q2 E'.length cap2) w1.heap.size k v wq)
      case atStart => 
        obtain ⟨hLk, hM, hb, ho2, he⟩ := HR.out
        exact ⟨0, rfl, by simp, by rw [List.take_zero, outOf_nil]; exact hM, ho2, he⟩
      case round =>
        obtain ⟨i, rfl, hk, hM, ho2, he⟩ := hrel
        by_cases hlt : i < E'.length
        · obtain ⟨g, rfl, hg, hc⟩ := own_at (f := EdgeR.cells) (fun _ => rfl) ho2 hlt
          have c0 : wr.cell? ⟨g, i * 5, none⟩ = some (kI (E'[i]'hlt).src) := hc 0 (by decide)
          have c1 : wr.cell? ⟨g, i * 5 + 1, none⟩ = some (kI (E'[i]'hlt).dst) := hc 1 (by decide)
          have c2 : wr.cell? ⟨g, i * 5 + 2, none⟩ = some (.map (some (E'[i]'hlt).att)) := hc 2 (by decide)
          have c3 : wr.cell? ⟨g, i * 5 + 3, none⟩ = some (.int .i64 (E'[i]'hlt).wt) := hc 3 (by decide)
          have c4 : wr.cell? ⟨g, i * 5 + 4, none⟩ = some .nilIface := hc 4 (by decide)
          have hlt' : (i : Int) < (E'.length : Int) := by omega
          have HR2 := Lib.hid (And.intro hk (And.intro hM (And.intro ho2 he)))
          have hem : E'[i]'hlt ∈ σ.E := HL2.out.1.mem_iff.1 (List.getElem_mem hlt)
          have hob : ∃ ob, ((E'[i]'hlt).src, ob) ∈ L := by
            obtain ⟨⟨n, hn⟩, -⟩ := HG.out.1.st.ends _ hem
            have : (E'[i]'hlt).src ∈ L.map (·.1) := by rw [HR.out.1]; exact HL.out.1.mem_iff.2 (List.mem_map.2 ⟨_, hn, rfl⟩)
            obtain ⟨o, ho, h1⟩ := List.mem_map.1 this
            exact ⟨o.2, by rw [← h1]; exact ho⟩
          obtain ⟨ob, hob⟩ := hob
          have hm := hM.out.alloc (.cells (E'[i]'hlt).cells.toArray 97)
          have hmi := (hM.inn _ hob).alloc (.cells (E'[i]'hlt).cells.toArray 97)
          have l1 := lookup_mem (f := fun o => .map (some o.2)) hM.keys hob
          clear hk hM ho2 he hc hem
          go_wp2_with (first | (at_lookup; (refine wpL_lookup rfl rfl U105 K2 Z107 rfl rfl hm ?_); rw [l1]) | (at_mapUpdate; (refine wpL_mapUpdate rfl rfl U107 K2 rfl rfl (E'[i]'hlt).val rfl hmi ?_); intro w3 hm3 hon3))
          go_roundg (E'.length - (i + 1))
          case measure => have := HR2.out.1; omega
          case rel =>
            obtain ⟨hk, hM, ho2, he⟩ := HR2.out
            have hlen : E'.length < 1000000 := by have := HL2.out.1.length_eq; have h2 := HG.out.2.2; omega
            have hu : (E'.map fun e => (e.src, e.dst)).Nodup := (HL2.out.1.map _).nodup_iff.2 HG.out.1.st.euniq
            have hne : ∀ e' ∈ E'.take i, ¬ (e'.src = (E'[i]'hlt).src ∧ e'.dst = (E'[i]'hlt).dst) := by
              intro e' he' ⟨h1, h2⟩
              obtain ⟨j, hj, rfl⟩ := List.mem_take_iff_getElem.1 he'
              have := List.pairwise_iff_getElem.1 hu j i (by simp; omega) (by simpa using hlt) (by omega)
              simp only [List.getElem_map, ne_eq, Prod.mk.injEq] at this
              exact this ⟨h1, h2⟩
            have eA : Ext No wr (wr.alloc (.cells (E'[i]'hlt).cells.toArray 97)) := (Ext.refl _ wr).alloc _
            have hM3 := (hM.ext eA (fun _ _ => id)).edge hob hne hm3 hon3
            have e3 : Ext (fun c => c = ob) wr w3 := ((Ext.refl _ wr).alloc _).only hon3 (fun _ => rfl)
            have hbo : w.heap.size ≤ ob := HR.out.2.2.1 ob (List.mem_cons_of_mem _ (List.mem_map.2 ⟨_, hob, rfl⟩))
            refine ⟨i + 1, by rw [w64 (by omega)], by omega, ?_, ownsRow_ext ho2 e3 (fun c hc e => ?_), he.then e3 (fun c hc e => ?_)⟩
            · rw [List.take_add_one, List.getElem?_eq_getElem hlt]; exact hM3
            · exact (hM.inn _ hob).not_row ho2 (by rw [hc, e])
            · omega
        · have hnlt : ¬ (i : Int) < (E'.length : Int) := by omega
          have hi : i = E'.length := by omega
          subst hi
          rw [List.take_length] at hM
          have HR2 := Lib.hid (And.intro hM he)
          clear hk hM ho2 he
          go_wp2
          go_ret2
          exact ⟨w2.heap.size, L, E', rfl, by rw [HR.out.1]; exact HL.out.1, HL2.out.1, HR2.out.1, HR.out.2.2.1, HR2.out.2⟩
end Go.Proofs.YtcenebjdhbdejaaGreatDoor

namespace Go.Proofs.YtcenebjdhbdejaaGreatDoor
open Go.MapKept

set_option maxRecDepth 100000 in
set_option maxHeartbeats 400000 in
theorem u_addVertex_new {w : World} {H : Hd} {τ : Tr} {σ : St} {k : Int} (h : Gr w H τ σ) (hk : ∀ a, (k, a) ∉ σ.V) :
    Calls Tryz.prog 128 #[.pointer (some ⟨H.d, 0, none⟩), kI k, .slice none 0 0] w fun e w' => e = .returned .nilIface ∧ ∃ a, Turned H τ σ { σ with V := σ.V ++ [(k, a)] } w w' := by
  have hlt := h.lt
  have d0 := h.d0
  have d2 := h.d2
  have HG := Lib.hid h
  clear h
  go_enter Tryz.func128, Tryz.ntmps128
  have hmm := makeMapR Tryz.prog
  go_wp2_with (go_at_call 34; refine (hash_any _ _).mono ?_; rintro e w' ⟨rfl, rfl⟩)
  refine wp_loop_rounds 1 ?_
  rw [rounds_succ]
  go_wp2
  have q0 : ((w.alloc (.map #[] 0)).alloc (.cells #[.map (some w.heap.size), .int .i64 0] 213)).cell? ⟨H.d, 2, none⟩ = some (storeV H.A) := (((Ext.refl No w).alloc _).alloc _).cellv d2 id
  have q1 : ((w.alloc (.map #[] 0)).alloc (.cells #[.map (some w.heap.size), .int .i64 0] 213)).cell? ⟨w.heap.size + 1, 0, none⟩ = some (.map (some w.heap.size)) := by rw [cell_of_row _ _ _ _ _ _ (two_new _ _ _)]; rfl
  have q2 : ((w.alloc (.map #[] 0)).alloc (.cells #[.map (some w.heap.size), .int .i64 0] 213)).cell? ⟨w.heap.size + 1, 1, none⟩ = some (.int .i64 0) := by rw [cell_of_row _ _ _ _ _ _ (two_new _ _ _)]; rfl
  have e1 : Ext No w ((w.alloc (.map #[] 0)).alloc (.cells #[.map (some w.heap.size), .int .i64 0] 213)) := ((Ext.refl No w).alloc _).alloc _
  have m1 : ((w.alloc (.map #[] 0)).alloc (.cells #[.map (some w.heap.size), .int .i64 0] 213)).heap[w.heap.size]? = some (.map #[] 0) := by
    rw [(heap_alloc (w.alloc (.map #[] 0)) _).2 _ (by simp)]; exact (heap_alloc w _).1
  revert q0 q1 q2 e1 m1
  generalize (w.alloc (.map #[] 0)).alloc (.cells #[.map (some w.heap.size), .int .i64 0] 213) = W
  intro q0 q1 q2 e1 m1
  go_still_tail 7, (by kernel_rfl)
  have hM := M145_AddVertex
  have hS : Store W.drew H.A σ := HG.out.st.ext e1.drew (fun _ _ => id)
  have hS' := Lib.hid hS
  clear hS
  have hnf : ¬ σ.foot H.A w.heap.size := fun hf => by have := HG.out.st.foot_lt hf; omega
  go_wp2_with (go_at_call 145; refine (addVertex_new hS'.out hk hnf m1).mono ?_; rintro e w' ⟨rfl, h1, h2⟩)
  go_ret
  have h := HG.out
  refine ⟨rfl, w.heap.size, h.turn (e1.drew.no.then h2 ?_) h1 (fun c hc => ?_)⟩
  · rintro c - (rfl | rfl) <;> exact Or.inl (by simp [St.blocks])
  · rcases hc with hc | hc
    · exact Or.inl (Or.inl hc)
    · simp only [St.atts, List.map_append, List.map_cons, List.map_nil, List.mem_append, List.mem_cons, List.not_mem_nil, or_false] at hc
      rcases hc with (hc | hc) | hc
      · exact Or.inl (Or.inr (List.mem_append_left _ hc))
      · exact Or.inr (Nat.le_of_eq hc.symm)
      · exact Or.inl (Or.inr (List.mem_append_right _ hc))

set_option maxRecDepth 100000 in
set_option maxHeartbeats 400000 in
theorem u_addVertex_old {w : World} {H : Hd} {τ : Tr} {σ : St} {k : Int} {b : Nat} {p : Nat → Addr} (h : Gr w H τ σ) (hp : Sent w p) {B : Nat} (hB : Below6 B p) (hk : (k, b) ∈ σ.V) :
    Calls Tryz.prog 128 #[.pointer (some ⟨H.d, 0, none⟩), kI k, .slice none 0 0] w fun e w' => e = .returned (errv p 0) ∧ Ext No w w' := by
  have hlt := h.lt
  have d0 := h.d0
  have d2 := h.d2
  have HG := Lib.hid (And.intro h hp)
  clear h hp
  go_enter Tryz.func128, Tryz.ntmps128
  have hmm := makeMapR Tryz.prog
  go_wp2_with (go_at_call 34; refine (hash_any _ _).mono ?_; rintro e w' ⟨rfl, rfl⟩)
  refine wp_loop_rounds 1 ?_
  rw [rounds_succ]
  go_wp2
  have q0 : ((w.alloc (.map #[] 0)).alloc (.cells #[.map (some w.heap.size), .int .i64 0] 213)).cell? ⟨H.d, 2, none⟩ = some (storeV H.A) := (((Ext.refl No w).alloc _).alloc _).cellv d2 id
  have q1 : ((w.alloc (.map #[] 0)).alloc (.cells #[.map (some w.heap.size), .int .i64 0] 213)).cell? ⟨w.heap.size + 1, 0, none⟩ = some (.map (some w.heap.size)) := by rw [cell_of_row _ _ _ _ _ _ (two_new _ _ _)]; rfl
  have q2 : ((w.alloc (.map #[] 0)).alloc (.cells #[.map (some w.heap.size), .int .i64 0] 213)).cell? ⟨w.heap.size + 1, 1, none⟩ = some (.int .i64 0) := by rw [cell_of_row _ _ _ _ _ _ (two_new _ _ _)]; rfl
  have e1 : Ext No w ((w.alloc (.map #[] 0)).alloc (.cells #[.map (some w.heap.size), .int .i64 0] 213)) := ((Ext.refl No w).alloc _).alloc _
  revert q0 q1 q2 e1
  generalize (w.alloc (.map #[] 0)).alloc (.cells #[.map (some w.heap.size), .int .i64 0] 213) = W
  intro q0 q1 q2 e1
  go_still_tail 7, (by kernel_rfl)
  have hM := M145_AddVertex
  have hS' : RowKit.Hid (Store W.drew H.A σ) := Lib.hid (HG.out.1.st.ext e1.drew (fun _ _ => id))
  have hP' : RowKit.Hid (Sent W.drew p) := Lib.hid (HG.out.2.ext hB e1.drew (fun _ h => h.elim))
  go_wp2_with (go_at_call 145; refine (addVertex_old hS'.out hP'.out hk).mono ?_; rintro e w' ⟨rfl, h2⟩)
  go_ret
  exact ⟨rfl, e1.drew.trans h2⟩

set_option maxRecDepth 100000 in
set_option maxHeartbeats 1000000 in
theorem u_adjacency {w : World} {H : Hd} {τ : Tr} {σ : St} (h : Gr w H τ σ) (hV : σ.V.length < 1000000) (hE : σ.E.length < 1000000) :
    Calls Tryz.prog 130 #[.pointer (some ⟨H.d, 0, none⟩)] w (Adj σ w) := by
  have d2 := h.d2
  have ld := h.lt
  have HG := Lib.hid (And.intro h (And.intro hV hE))
  clear h hV hE
  have hM1 := M145_ListVertices
  have hM2 := M145_ListEdges
  go_enter Tryz.func130, Tryz.ntmps130
  go_wp2_with fail
  refine (listVertices (A := H.A) (σ := σ) HG.out.1.st HG.out.2.1).mono ?_
  rintro e1 w1 ⟨v1, l, rfl, hl, ho1, h1⟩
  obtain ⟨q1, cap1, rfl, -⟩ := own_read (f := fun k : Int => [kI k]) (fun _ => rfl) ho1
  have HL := Lib.hid (And.intro hl (And.intro ho1 h1))
  have d2 := h1.cellv d2 id
  have ld := World.block_lt_of_cell? _ _ d2
  clear hl ho1 h1
  go_wp2_with fail
  refine (listEdges (A := H.A) (σ := σ) (HG.out.1.st.ext HL.out.2.2 (fun _ _ h => h)) HG.out.2.2).mono ?_
  rintro e2 w2 ⟨v2, E', rfl, hE', ho2, h2⟩
  obtain ⟨q2, cap2, rfl, -⟩ := own_read (f := EdgeR.cells) (fun _ => rfl) ho2
  have HL2 := Lib.hid (And.intro hE' (And.intro ho2 h2))
  clear hE' ho2 h2
  have hmk := makeMap105
  go_wp2_with fail
  have ho1 : (w2.alloc (.map #[] 0)).ownsRow w.heap.size 2 1 (.slice q1 l.length cap1) l.length (l.flatMap fun k => [kI k]) := ownsRow_ext HL.out.2.1 (HL2.out.2.2.alloc _) (fun _ _ h => h)
  have ho2 : (w2.alloc (.map #[] 0)).ownsRow w1.heap.size 97 5 (.slice q2 E'.length cap2) E'.length (E'.flatMap EdgeR.cells) := ownsRow_ext HL2.out.2.1 ((Ext.refl No _).alloc _) (fun _ _ h => h)
  have he : Ext No w (w2.alloc (.map #[] 0)) := (HL.out.2.2.trans HL2.out.2.2).alloc _
  have HS := Lib.hid (And.intro ho1 (And.intro ho2 he))
  have hsz : w.heap.size ≤ w2.heap.size := (HL.out.2.2.trans HL2.out.2.2).size
  have HZ := Lib.hid hsz
  clear ho1 ho2 he hsz d2 ld
  try go_frame
  go_loopg [41] l.length (fun k v wr => AM1 w w2.heap.size l E' (.slice q1 l.length cap1) (.slice q2 E'.length cap2) w1.heap.size k v wr)
  case atStart =>
    exact ⟨0, [], rfl, by simp, by simp, ⟨MapI.empty (heap_alloc w2 _).1, by simp, by simp⟩, by simpa using HZ.out, HS.out⟩
  case round =>
    obtain ⟨i, L, rfl, hk, hLk, hM, hb, ho1, ho2, he⟩ := hrel
    by_cases hlt : i < l.length
    · obtain ⟨g, rfl, hg, hc⟩ := own_at (f := fun k : Int => [kI k]) (fun _ => rfl) ho1 hlt
      have hx : wr.cell? ⟨g, i, none⟩ = some (kI (l[i]'hlt)) := by have := hc 0 (by decide); simpa using this
      have hlt' : (i : Int) < (l.length : Int) := by omega
      have HR := Lib.hid (And.intro hk (And.intro hLk (And.intro hM (And.intro hb (And.intro ho1 (And.intro ho2 he))))))
      have hmm := makeMapR Tryz.prog
      have hm := hM.out.alloc (.map #[] 0)
      clear hk hLk hM hb ho1 ho2 he hc
      go_wp2_with (first | (at_mapUpdate; (refine wpL_mapUpdate rfl rfl U105 K2 rfl rfl (.map (some wr.heap.size)) rfl hm ?_); intro w3 hm3 hon3))
      go_roundg (l.length - (i + 1))
      case measure => have := HR.out.1; omega
      case rel =>
        obtain ⟨hk, hLk, hM, hb, ho1, ho2, he⟩ := HR.out
        have hnl : l.Nodup := HL.out.1.nodup_iff.2 HG.out.1.st.keys
        have hnew : l[i]'hlt ∉ L.map (·.1) := by
          rw [hLk]; intro hm4
          obtain ⟨j, hj, hj2⟩ := List.mem_take_iff_getElem.1 hm4
          exact List.pairwise_iff_getElem.1 hnl j i (by omega) hlt (by omega) hj2
        have hM3 := hM.more hnew hm3 hon3
        have e3 : Ext (fun c => c = w2.heap.size) wr w3 := ((Ext.refl _ wr).alloc _).only hon3 (fun _ => rfl)
        have hwr := he.size
        have hll : l.length < 1000000 := by have := HL.out.1.length_eq; have h2 := HG.out.2.1; simp only [List.length_map] at this; omega
        refine ⟨i + 1, L ++ [(l[i]'hlt, wr.heap.size)], by rw [w64 (by omega)], by omega, ?_, hM3, ?_, ownsRow_ext ho1 e3 (fun c hc e => ?_), ownsRow_ext ho2 e3 (fun c hc e => ?_), he.then e3 (fun c hc e => ?_)⟩
        · rw [List.map_append, hLk, List.take_add_one, List.getElem?_eq_getElem hlt]; rfl
        · intro c hc
          simp only [List.map_append, List.map_cons, List.map_nil, List.mem_cons, List.mem_append, List.not_mem_nil, or_false] at hc
          rcases hc with hc | hc | hc
          · exact hb c (by rw [hc]; exact List.mem_cons_self)
          · exact hb c (List.mem_cons_of_mem _ hc)
          · omega
        · exact hM.out.not_row ho1 (by rw [hc, e])
        · exact hM.out.not_row ho2 (by rw [hc, e])
        · have := HZ.out; omega
    · have hnlt : ¬ (i : Int) < (l.length : Int) := by omega
      have hi : i = l.length := by omega
      subst hi
      rw [List.take_length] at hLk
      have HR := Lib.hid (And.intro hLk (And.intro hM (And.intro hb (And.intro ho2 he))))
      clear hLk hM hb ho1 ho2 he hk hlt
      go_wp2_with fail
      try go_frame
      go_loopg [51] E'.length (fun k v wq => AM2 w w2.heap.size L E' (.slice q2 E'.length cap2) w1.heap.size k v wq)
      case atStart => 
        obtain ⟨hLk, hM, hb, ho2, he⟩ := HR.out
        exact ⟨0, rfl, by simp, by rw [List.take_zero, outOf_nil]; exact hM, ho2, he⟩
      case round =>
        obtain ⟨i, rfl, hk, hM, ho2, he⟩ := hrel
        by_cases hlt : i < E'.length
        · obtain ⟨g, rfl, hg, hc⟩ := own_at (f := EdgeR.cells) (fun _ => rfl) ho2 hlt
          have c0 : wr.cell? ⟨g, i * 5, none⟩ = some (kI (E'[i]'hlt).src) := hc 0 (by decide)
          have c1 : wr.cell? ⟨g, i * 5 + 1, none⟩ = some (kI (E'[i]'hlt).dst) := hc 1 (by decide)
          have c2 : wr.cell? ⟨g, i * 5 + 2, none⟩ = some (.map (some (E'[i]'hlt).att)) := hc 2 (by decide)
          have c3 : wr.cell? ⟨g, i * 5 + 3, none⟩ = some (.int .i64 (E'[i]'hlt).wt) := hc 3 (by decide)
          have c4 : wr.cell? ⟨g, i * 5 + 4, none⟩ = some .nilIface := hc 4 (by decide)
          have hlt' : (i : Int) < (E'.length : Int) := by omega
          have HR2 := Lib.hid (And.intro hk (And.intro hM (And.intro ho2 he)))
          have hem : E'[i]'hlt ∈ σ.E := HL2.out.1.mem_iff.1 (List.getElem_mem hlt)
          have hob : ∃ ob, ((E'[i]'hlt).src, ob) ∈ L := by
            obtain ⟨⟨n, hn⟩, -⟩ := HG.out.1.st.ends _ hem
            have : (E'[i]'hlt).src ∈ L.map (·.1) := by rw [HR.out.1]; exact HL.out.1.mem_iff.2 (List.mem_map.2 ⟨_, hn, rfl⟩)
            obtain ⟨o, ho, h1⟩ := List.mem_map.1 this
            exact ⟨o.2, by rw [← h1]; exact ho⟩
          obtain ⟨ob, hob⟩ := hob
          have hm := hM.out.alloc (.cells (E'[i]'hlt).cells.toArray 97)
          have hmi := (hM.inn _ hob).alloc (.cells (E'[i]'hlt).cells.toArray 97)
          have l1 := lookup_mem (f := fun o => .map (some o.2)) hM.keys hob
          clear hk hM ho2 he hc hem
          go_wp2_with (first | (at_lookup; (refine wpL_lookup rfl rfl U105 K2 Z107 rfl rfl hm ?_); rw [l1]) | (at_mapUpdate; (refine wpL_mapUpdate rfl rfl U107 K2 rfl rfl (E'[i]'hlt).val rfl hmi ?_); intro w3 hm3 hon3))
          go_roundg (E'.length - (i + 1))
          case measure => have := HR2.out.1; omega
          case rel =>
            obtain ⟨hk, hM, ho2, he⟩ := HR2.out
            have hlen : E'.length < 1000000 := by have := HL2.out.1.length_eq; have h2 := HG.out.2.2; omega
            have hu : (E'.map fun e => (e.src, e.dst)).Nodup := (HL2.out.1.map _).nodup_iff.2 HG.out.1.st.euniq
            have hne : ∀ e' ∈ E'.take i, ¬ (e'.src = (E'[i]'hlt).src ∧ e'.dst = (E'[i]'hlt).dst) := by
              intro e' he' ⟨h1, h2⟩
              obtain ⟨j, hj, rfl⟩ := List.mem_take_iff_getElem.1 he'
              have := List.pairwise_iff_getElem.1 hu j i (by simp; omega) (by simpa using hlt) (by omega)
              simp only [List.getElem_map, ne_eq, Prod.mk.injEq] at this
              exact this ⟨h1, h2⟩
            have eA : Ext No wr (wr.alloc (.cells (E'[i]'hlt).cells.toArray 97)) := (Ext.refl _ wr).alloc _
            have hM3 := (hM.ext eA (fun _ _ => id)).edge hob hne hm3 hon3
            have e3 : Ext (fun c => c = ob) wr w3 := ((Ext.refl _ wr).alloc _).only hon3 (fun _ => rfl)
            have hbo : w.heap.size ≤ ob := HR.out.2.2.1 ob (List.mem_cons_of_mem _ (List.mem_map.2 ⟨_, hob, rfl⟩))
            refine ⟨i + 1, by rw [w64 (by omega)], by omega, ?_, ownsRow_ext ho2 e3 (fun c hc e => ?_), he.then e3 (fun c hc e => ?_)⟩
            · rw [List.take_add_one, List.getElem?_eq_getElem hlt]; exact hM3
            · exact (hM.inn _ hob).not_row ho2 (by rw [hc, e])
            · omega
        · have hnlt : ¬ (i : Int) < (E'.length : Int) := by omega
          have hi : i = E'.length := by omega
          subst hi
          rw [List.take_length] at hM
          have HR2 := Lib.hid (And.intro hM he)
          clear hk hM ho2 he
          go_wp2
          go_ret2
          exact ⟨w2.heap.size, L, E', rfl, by rw [HR.out.1]; exact HL.out.1, HL2.out.1, HR2.out.1, HR.out.2.2.1, HR2.out.2⟩

end Go.Proofs.YtcenebjdhbdejaaGreatDoor

namespace Go.Proofs.YtcenebjdhbdejaaGreatDoor
open Go.MapKept

set_option maxRecDepth 100000 in
theorem vertexCount {w : World} {A : Ad} {σ : St} (h : Store w A σ) :
    Calls Tryz.prog 154 #[.pointer (some ⟨A.s, 0, none⟩)] w fun r w' => r = .returned (.tuple #[.int .i64 σ.V.length, .nilIface]) ∧ w = w' := by
  have hlt := h.lt
  have c0 := h.c0
  have hv := h.vm
  clear h
  go_enter Tryz.func154, Tryz.ntmps154
  go_wp2_with (first | (at_len; refine wpL_len rfl rfl U146 rfl hv ?_; simp only [List.length_map]))
  go_ret2
  exact ⟨rfl, rfl⟩

set_option maxRecDepth 100000 in
theorem d_order {w : World} {H : Hd} {τ : Tr} {σ : St} (h : Gr w H τ σ) :
    Calls Tryz.prog 109 #[.pointer (some ⟨H.d, 0, none⟩)] w fun r w' => r = .returned (.tuple #[.int .i64 σ.V.length, .nilIface]) ∧ w = w' := by
  have d2 := h.d2
  have ld := h.lt
  have HG := Lib.hid h
  clear h
  have hM1 := M145_VertexCount
  go_enter Tryz.func109, Tryz.ntmps109
  go_wp2_with fail
  refine (vertexCount (A := H.A) (σ := σ) HG.out.st).mono ?_
  rintro e1 w1 ⟨rfl, rfl⟩
  go_wp2_with fail
  go_ret2
  exact ⟨rfl, rfl⟩

/-- a round of Size -/
def SZ (w : World) (mb r : Nat) (L : List (Int × Nat)) (E' : List EdgeR) (k : Nat) (sv : Value) (wr : World) : Prop :=
  ∃ (done left : List (Int × Nat)) (cur : Option (Int × Value)), left.length = k ∧ (done ++ left).Perm L ∧ IterI kI wr r mb (L.map fun o => (o.1, .map (some o.2))) (left.map fun o => (o.1, .map (some o.2))) cur ∧
    sv = .int .i64 ((fan E' (done.map (·.1))).length) ∧ MapM wr mb L (outOf E') ∧ Ext No w wr

theorem fan_snoc (E : List EdgeR) (l : List Int) (a : Int) : (fan E (l ++ [a])).length = (fan E l).length + (outOf E a).length := by simp [fan, outOf]

/-- what Size leaves -/
def Sized (n : Int) (w : World) (r : Ending) (w' : World) : Prop := r = .returned (.tuple #[.int .i64 n, .nilIface]) ∧ Ext No w w'

theorem MapM.iter_ne {w : World} {mb r : Nat} {L : List (Int × Nat)} {F : Int → List (Int × Value)} {M left : List (Int × Value)} {cur : Option (Int × Value)} (h : MapM w mb L F) (hI : IterI kI w r mb M left cur) : ∀ c ∈ mb :: L.map (·.2), c ≠ r := by
  obtain ⟨⟨es, clk, since, seen, h1, h2, h3, h4, h5, h6⟩, h7⟩ := hI
  intro c hc e
  subst e
  rcases List.mem_cons.1 hc with rfl | hc
  · exact h7 rfl
  · obtain ⟨o, ho, rfl⟩ := List.mem_map.1 hc
    obtain ⟨⟨es', clk', g1, -⟩, -⟩ := h.inn o ho
    rw [h5] at g1; cases g1

set_option maxRecDepth 100000 in
set_option maxHeartbeats 1000000 in
theorem d_size {w : World} {H : Hd} {τ : Tr} {σ : St} (h : Gr w H τ σ) (hV : σ.V.length < 1000000) (hE : σ.E.length < 1000000) :
    Calls Tryz.prog 113 #[.pointer (some ⟨H.d, 0, none⟩)] w (Sized σ.E.length w) := by
  have HG := Lib.hid (And.intro h (And.intro hV hE))
  clear h hV hE
  go_enter Tryz.func113, Tryz.ntmps113
  go_wp2_with fail
  refine (d_adjacency HG.out.1 HG.out.2.1 HG.out.2.2).mono ?_
  rintro e1 w1 ⟨mb, L, E', rfl, hL, hE2, hM, hb, he⟩
  have HL := Lib.hid (And.intro hL (And.intro hE2 (And.intro hM (And.intro hb he))))
  have hm := hM.out
  clear hL hE2 hM hb he
  go_wp2_with (first | (at_range; (refine wpL_range rfl rfl U105 rfl hm ?_); intro w2 hI2 hs2 he2; have HI2 := Lib.hid (And.intro hI2 (And.intro hs2 he2)); clear hI2 hs2 he2))
  clear hm
  try go_frame
  go_loopg [4] L.length (fun k v wr => SZ w mb w1.heap.size L E' k v wr)
  case atStart =>
    obtain ⟨hL, hE2, hM, hb, he⟩ := HL.out
    exact ⟨[], L, _, rfl, by simp, HI2.out.1, by simp [fan], hM.ext HI2.out.2.2 (fun _ _ h => h), he.trans HI2.out.2.2⟩
  case round =>
    obtain ⟨done, left, cur, hl, hperm, hI, rfl, hM, he⟩ := hrel
    have hbd : (fan E' (done.map (·.1))).length ≤ E'.length := by
      obtain ⟨hL, hE2, hM0, hb, he0⟩ := HL.out
      have h1 : (fan E' ((done ++ left).map (·.1))).Perm (fan E' (L.map (·.1))) := fan_perm_of (hperm.map _)
      have h2 : (fan E' (L.map (·.1))).Perm E' := fan_perm hM0.keys (fun e he => by
        obtain ⟨⟨n, hn⟩, -⟩ := HG.out.1.st.ends e (hE2.mem_iff.1 he)
        exact hL.mem_iff.2 (List.mem_map.2 ⟨_, hn, rfl⟩))
      have h3 := (h1.trans h2).length_eq
      simp only [fan, List.map_append, List.flatMap_append, List.length_append] at h3 ⊢
      omega
    have hbd2 : E'.length < 1000000 := by have := HL.out.2.1.length_eq; have h2 := HG.out.2.2; omega
    have HR := Lib.hid (And.intro hl (And.intro hperm (And.intro hM he)))
    clear hl hperm hM he
    have hb3 : ∀ o ∈ L, (fan E' (done.map (·.1))).length + (outOf E' o.1).length < 2000000 := by
      intro o _
      have : (outOf E' o.1).length ≤ E'.length := by unfold outOf; rw [List.length_map]; exact List.length_filter_le _ _
      omega
    have HB := Lib.hid hb3
    clear hb3
    go_wp2_with (first
      | (at_next; (refine wpL_nextM (g := fun o : Int × Nat => (o.1, Value.map (some o.2))) rfl rfl rfl hI ?_ ?_); intro h0; rotate_left; intro l1 y l2 wn h1 hIn hsn hen hE; have hmem : y ∈ L := HR.out.2.1.mem_iff.1 (by rw [h1]; simp); have hMn := HR.out.2.2.1.ext hen (fun c hc e => HR.out.2.2.1.iter_ne hI c hc e); have hin := hMn.inn y hmem; have hb4 := HB.out y hmem; have HS := Lib.hid (And.intro hsn (And.intro h1 (And.intro hMn (And.intro hmem (And.intro hIn hen))))); clear hsn h1 hMn hmem hIn hen; rotate_left)
      | (at_len; refine wpL_len rfl rfl U107 rfl hin ?_))
    · go_ret2
      subst h0
      obtain ⟨hl, hperm, hM, he⟩ := HR.out
      refine ⟨?_, he⟩
      obtain ⟨hL, hE2, hM0, hb, he0⟩ := HL.out
      have h2 : (fan E' (L.map (·.1))).Perm E' := fan_perm hM0.keys (fun e he => by
        obtain ⟨⟨n, hn⟩, -⟩ := HG.out.1.st.ends e (hE2.mem_iff.1 he)
        exact hL.mem_iff.2 (List.mem_map.2 ⟨_, hn, rfl⟩))
      have hp : (done.map (·.1)).Perm (L.map (·.1)) := by simpa using hperm.map (·.1)
      have h3 := ((fan_perm_of (E := E') hp).trans (h2.trans hE2)).length_eq
      rw [h3]; rfl
    · go_roundg (l1 ++ l2).length
      case measure => have h1 := HR.out.1; have h2 := HS.out.2.1; subst h2; simp at h1 ⊢; omega
      case rel =>
        obtain ⟨hl, hperm, hM, he⟩ := HR.out
        obtain ⟨hsn, h1, hMn, hmem, hIn, hen⟩ := HS.out
        have hr : w.heap.size ≤ w1.heap.size := HL.out.2.2.2.2.size
        refine ⟨done ++ [y], l1 ++ l2, _, rfl, ?_, hIn, by rw [List.map_append, List.map_cons, List.map_nil, fan_snoc]; simp, hMn, he.then hen (fun c hc e => by omega)⟩
        rw [h1] at hperm
        refine List.Perm.trans ?_ hperm
        simp only [List.append_assoc, List.singleton_append]
        exact List.Perm.append_left _ List.perm_middle.symm
end Go.Proofs.YtcenebjdhbdejaaGreatDoor
namespace Go.Proofs.YtcenebjdhbdejaaGreatDoor
open Go.MapKept

set_option maxRecDepth 100000 in
theorem u_order {w : World} {H : Hd} {τ : Tr} {σ : St} (h : Gr w H τ σ) :
    Calls Tryz.prog 134 #[.pointer (some ⟨H.d, 0, none⟩)] w fun r w' => r = .returned (.tuple #[.int .i64 σ.V.length, .nilIface]) ∧ w = w' := by
  have d2 := h.d2
  have ld := h.lt
  have HG := Lib.hid h
  clear h
  have hM1 := M145_VertexCount
  go_enter Tryz.func134, Tryz.ntmps134
  go_wp2_with fail
  refine (vertexCount (A := H.A) (σ := σ) HG.out.st).mono ?_
  rintro e1 w1 ⟨rfl, rfl⟩
  go_wp2_with fail
  go_ret2
  exact ⟨rfl, rfl⟩

set_option maxRecDepth 100000 in
set_option maxHeartbeats 1000000 in
theorem u_size {w : World} {H : Hd} {τ : Tr} {σ : St} (h : Gr w H τ σ) (hV : σ.V.length < 1000000) (hE : σ.E.length < 1000000) :
    Calls Tryz.prog 138 #[.pointer (some ⟨H.d, 0, none⟩)] w (Sized ((σ.E.length : Int) / 2) w) := by
  have HG := Lib.hid (And.intro h (And.intro hV hE))
  clear h hV hE
  go_enter Tryz.func138, Tryz.ntmps138
  go_wp2_with fail
  refine (u_adjacency HG.out.1 HG.out.2.1 HG.out.2.2).mono ?_
  rintro e1 w1 ⟨mb, L, E', rfl, hL, hE2, hM, hb, he⟩
  have HL := Lib.hid (And.intro hL (And.intro hE2 (And.intro hM (And.intro hb he))))
  have hm := hM.out
  clear hL hE2 hM hb he
  go_wp2_with (first | (at_range; (refine wpL_range rfl rfl U105 rfl hm ?_); intro w2 hI2 hs2 he2; have HI2 := Lib.hid (And.intro hI2 (And.intro hs2 he2)); clear hI2 hs2 he2))
  clear hm
  try go_frame
  go_loopg [4] L.length (fun k v wr => SZ w mb w1.heap.size L E' k v wr)
  case atStart =>
    obtain ⟨hL, hE2, hM, hb, he⟩ := HL.out
    exact ⟨[], L, _, rfl, by simp, HI2.out.1, by simp [fan], hM.ext HI2.out.2.2 (fun _ _ h => h), he.trans HI2.out.2.2⟩
  case round =>
    obtain ⟨done, left, cur, hl, hperm, hI, rfl, hM, he⟩ := hrel
    have hbd : (fan E' (done.map (·.1))).length ≤ E'.length := by
      obtain ⟨hL, hE2, hM0, hb, he0⟩ := HL.out
      have h1 : (fan E' ((done ++ left).map (·.1))).Perm (fan E' (L.map (·.1))) := fan_perm_of (hperm.map _)
      have h2 : (fan E' (L.map (·.1))).Perm E' := fan_perm hM0.keys (fun e he => by
        obtain ⟨⟨n, hn⟩, -⟩ := HG.out.1.st.ends e (hE2.mem_iff.1 he)
        exact hL.mem_iff.2 (List.mem_map.2 ⟨_, hn, rfl⟩))
      have h3 := (h1.trans h2).length_eq
      simp only [fan, List.map_append, List.flatMap_append, List.length_append] at h3 ⊢
      omega
    have hbd2 : E'.length < 1000000 := by have := HL.out.2.1.length_eq; have h2 := HG.out.2.2; omega
    have HR := Lib.hid (And.intro hl (And.intro hperm (And.intro hM he)))
    clear hl hperm hM he
    have hb3 : ∀ o ∈ L, (fan E' (done.map (·.1))).length + (outOf E' o.1).length < 2000000 := by
      intro o _
      have : (outOf E' o.1).length ≤ E'.length := by unfold outOf; rw [List.length_map]; exact List.length_filter_le _ _
      omega
    have HB := Lib.hid hb3
    clear hb3
    go_wp2_with (first
      | (at_next; (refine wpL_nextM (g := fun o : Int × Nat => (o.1, Value.map (some o.2))) rfl rfl rfl hI ?_ ?_); intro h0; rotate_left; intro l1 y l2 wn h1 hIn hsn hen hE; have hmem : y ∈ L := HR.out.2.1.mem_iff.1 (by rw [h1]; simp); have hMn := HR.out.2.2.1.ext hen (fun c hc e => HR.out.2.2.1.iter_ne hI c hc e); have hin := hMn.inn y hmem; have hb4 := HB.out y hmem; have HS := Lib.hid (And.intro hsn (And.intro h1 (And.intro hMn (And.intro hmem (And.intro hIn hen))))); clear hsn h1 hMn hmem hIn hen; rotate_left)
      | (at_len; refine wpL_len rfl rfl U107 rfl hin ?_))
    · go_ret2
      subst h0
      obtain ⟨hl, hperm, hM, he⟩ := HR.out
      refine ⟨?_, he⟩
      obtain ⟨hL, hE2, hM0, hb, he0⟩ := HL.out
      have h2 : (fan E' (L.map (·.1))).Perm E' := fan_perm hM0.keys (fun e he => by
        obtain ⟨⟨n, hn⟩, -⟩ := HG.out.1.st.ends e (hE2.mem_iff.1 he)
        exact hL.mem_iff.2 (List.mem_map.2 ⟨_, hn, rfl⟩))
      have hp : (done.map (·.1)).Perm (L.map (·.1)) := by simpa using hperm.map (·.1)
      have h3 := ((fan_perm_of (E := E') hp).trans (h2.trans hE2)).length_eq
      rw [h3]; rfl
    · go_roundg (l1 ++ l2).length
      case measure => have h1 := HR.out.1; have h2 := HS.out.2.1; subst h2; simp at h1 ⊢; omega
      case rel =>
        obtain ⟨hl, hperm, hM, he⟩ := HR.out
        obtain ⟨hsn, h1, hMn, hmem, hIn, hen⟩ := HS.out
        have hr : w.heap.size ≤ w1.heap.size := HL.out.2.2.2.2.size
        refine ⟨done ++ [y], l1 ++ l2, _, rfl, ?_, hIn, by rw [List.map_append, List.map_cons, List.map_nil, fan_snoc]; simp, hMn, he.then hen (fun c hc e => by omega)⟩
        rw [h1] at hperm
        refine List.Perm.trans ?_ hperm
        simp only [List.append_assoc, List.singleton_append]
        exact List.Perm.append_left _ List.perm_middle.symm

end Go.Proofs.YtcenebjdhbdejaaGreatDoor

namespace Go.Proofs.YtcenebjdhbdejaaGreatDoor
open Go.MapKept

theorem inOf_nil0 : inOf [] = fun _ => [] := rfl

/-- What PredecessorMap leaves. -/
def Pred (σ : St) (w : World) (r : Ending) (w' : World) : Prop :=
  ∃ (mb : Nat) (L : List (Int × Nat)) (E' : List EdgeR), r = .returned (.tuple #[.map (some mb), .nilIface]) ∧ (L.map (·.1)).Perm (σ.V.map (·.1)) ∧ E'.Perm σ.E ∧ MapM w' mb L (inOf E') ∧ (∀ c ∈ mb :: L.map (·.2), w.heap.size ≤ c) ∧ Ext No w w'

/-- one more edge -/
theorem MapM.edgeI {w w1 : World} {mb ob : Nat} {L : List (Int × Nat)} {E : List EdgeR} {e : EdgeR} (h : MapM w mb L (inOf E)) (hk : (e.dst, ob) ∈ L) (hne : ∀ e' ∈ E, ¬ (e'.src = e.src ∧ e'.dst = e.dst))
    (hm : MapI kI w1 ob (setA e.src e.val (inOf E e.dst))) (ho : Only ob w w1) : MapM w1 mb L (inOf (E ++ [e])) := by
  have hnd := h.nd
  rw [List.nodup_cons] at hnd
  have hl : (inOf E e.dst).lookup e.src = none := by
    unfold inOf
    refine lookup_of_not fun v hv => ?_
    simp only [List.mem_map, List.mem_filter, beq_iff_eq, Prod.mk.injEq] at hv
    obtain ⟨e', ⟨h1, h2⟩, h3, -⟩ := hv
    exact hne e' h1 ⟨h3, h2⟩
  refine ⟨ho.mapI (fun he => hnd.1 (by rw [he]; exact List.mem_map.2 ⟨_, hk, rfl⟩)) h.out, fun o ho' => ?_, h.nd⟩
  by_cases hx : o.1 = e.dst
  · have : o = (e.dst, ob) := uniq_of (·.1) L h.keys o ho' _ hk hx
    subst this
    rw [inOf_snoc, ← setA_new hl]; exact hm
  · rw [inOf_snoc_ne _ _ hx]
    refine ho.mapI (fun he => hx ?_) (h.inn o ho')
    have := uniq_of (·.2) L hnd.2 o ho' _ hk he
    rw [this]

/-- round over the edges -/
def PM2 (w : World) (mb : Nat) (L : List (Int × Nat)) (E' : List EdgeR) (v2 : Value) (B2 : Nat) (k : Nat) (v : Value) (wr : World) : Prop :=
  ∃ (i : Nat), v = .int .i64 i ∧ i + k = E'.length ∧ MapM wr mb L (inOf (E'.take i)) ∧
    wr.ownsRow B2 97 5 v2 E'.length (E'.flatMap EdgeR.cells) ∧ Ext No w wr

set_option maxRecDepth 100000 in
set_option maxHeartbeats 1000000 in
theorem d_predecessor {w : World} {H : Hd} {τ : Tr} {σ : St} (h : Gr w H τ σ) (hV : σ.V.length < 1000000) (hE : σ.E.length < 1000000) :
    Calls Tryz.prog 110 #[.pointer (some ⟨H.d, 0, none⟩)] w (Pred σ w) := by
  have d2 := h.d2
  have ld := h.lt
  have HG := Lib.hid (And.intro h (And.intro hV hE))
  clear h hV hE
  have hM1 := M145_ListVertices
  have hM2 := M145_ListEdges
  go_enter Tryz.func110, Tryz.ntmps110
  go_wp2_with fail
  refine (listVertices (A := H.A) (σ := σ) HG.out.1.st HG.out.2.1).mono ?_
  rintro e1 w1 ⟨v1, l, rfl, hl, ho1, h1⟩
  obtain ⟨q1, cap1, rfl, -⟩ := own_read (f := fun k : Int => [kI k]) (fun _ => rfl) ho1
  have HL := Lib.hid (And.intro hl (And.intro ho1 h1))
  have d2 := h1.cellv d2 id
  have ld := World.block_lt_of_cell? _ _ d2
  clear hl ho1 h1
  go_wp2_with fail
  refine (listEdges (A := H.A) (σ := σ) (HG.out.1.st.ext HL.out.2.2 (fun _ _ h => h)) HG.out.2.2).mono ?_
  rintro e2 w2 ⟨v2, E', rfl, hE', ho2, h2⟩
  obtain ⟨q2, cap2, rfl, -⟩ := own_read (f := EdgeR.cells) (fun _ => rfl) ho2
  have HL2 := Lib.hid (And.intro hE' (And.intro ho2 h2))
  clear hE' ho2 h2
  have hmk := makeMap105
  go_wp2_with fail
  have ho1 : (w2.alloc (.map #[] 0)).ownsRow w.heap.size 2 1 (.slice q1 l.length cap1) l.length (l.flatMap fun k => [kI k]) := ownsRow_ext HL.out.2.1 (HL2.out.2.2.alloc _) (fun _ _ h => h)
  have ho2 : (w2.alloc (.map #[] 0)).ownsRow w1.heap.size 97 5 (.slice q2 E'.length cap2) E'.length (E'.flatMap EdgeR.cells) := ownsRow_ext HL2.out.2.1 ((Ext.refl No _).alloc _) (fun _ _ h => h)
  have he : Ext No w (w2.alloc (.map #[] 0)) := (HL.out.2.2.trans HL2.out.2.2).alloc _
  have HS := Lib.hid (And.intro ho1 (And.intro ho2 he))
  have hsz : w.heap.size ≤ w2.heap.size := (HL.out.2.2.trans HL2.out.2.2).size
  have HZ := Lib.hid hsz
  clear ho1 ho2 he hsz d2 ld
  try go_frame
  go_loopg [43] l.length (fun k v wr => AM1 w w2.heap.size l E' (.slice q1 l.length cap1) (.slice q2 E'.length cap2) w1.heap.size k v wr)
  case atStart =>
    exact ⟨0, [], rfl, by simp, by simp, ⟨MapI.empty (heap_alloc w2 _).1, by simp, by simp⟩, by simpa using HZ.out, HS.out⟩
  case round =>
    obtain ⟨i, L, rfl, hk, hLk, hM, hb, ho1, ho2, he⟩ := hrel
    by_cases hlt : i < l.length
    · obtain ⟨g, rfl, hg, hc⟩ := own_at (f := fun k : Int => [kI k]) (fun _ => rfl) ho1 hlt
      have hx : wr.cell? ⟨g, i, none⟩ = some (kI (l[i]'hlt)) := by have := hc 0 (by decide); simpa using this
      have hlt' : (i : Int) < (l.length : Int) := by omega
      have HR := Lib.hid (And.intro hk (And.intro hLk (And.intro hM (And.intro hb (And.intro ho1 (And.intro ho2 he))))))
      have hmm := makeMapR Tryz.prog
      have hm := hM.out.alloc (.map #[] 0)
      clear hk hLk hM hb ho1 ho2 he hc
      go_wp2_with (first | (at_mapUpdate; (refine wpL_mapUpdate rfl rfl U105 K2 rfl rfl (.map (some wr.heap.size)) rfl hm ?_); intro w3 hm3 hon3))
      go_roundg (l.length - (i + 1))
      case measure => have := HR.out.1; omega
      case rel =>
        obtain ⟨hk, hLk, hM, hb, ho1, ho2, he⟩ := HR.out
        have hnl : l.Nodup := HL.out.1.nodup_iff.2 HG.out.1.st.keys
        have hnew : l[i]'hlt ∉ L.map (·.1) := by
          rw [hLk]; intro hm4
          obtain ⟨j, hj, hj2⟩ := List.mem_take_iff_getElem.1 hm4
          exact List.pairwise_iff_getElem.1 hnl j i (by omega) hlt (by omega) hj2
        have hM3 := hM.more hnew hm3 hon3
        have e3 : Ext (fun c => c = w2.heap.size) wr w3 := ((Ext.refl _ wr).alloc _).only hon3 (fun _ => rfl)
        have hwr := he.size
        have hll : l.length < 1000000 := by have := HL.out.1.length_eq; have h2 := HG.out.2.1; simp only [List.length_map] at this; omega
        refine ⟨i + 1, L ++ [(l[i]'hlt, wr.heap.size)], by rw [w64 (by omega)], by omega, ?_, hM3, ?_, ownsRow_ext ho1 e3 (fun c hc e => ?_), ownsRow_ext ho2 e3 (fun c hc e => ?_), he.then e3 (fun c hc e => ?_)⟩
        · rw [List.map_append, hLk, List.take_add_one, List.getElem?_eq_getElem hlt]; rfl
        · intro c hc
          simp only [List.map_append, List.map_cons, List.map_nil, List.mem_cons, List.mem_append, List.not_mem_nil, or_false] at hc
          rcases hc with hc | hc | hc
          · exact hb c (by rw [hc]; exact List.mem_cons_self)
          · exact hb c (List.mem_cons_of_mem _ hc)
          · omega
        · exact hM.out.not_row ho1 (by rw [hc, e])
        · exact hM.out.not_row ho2 (by rw [hc, e])
        · have := HZ.out; omega
    · have hnlt : ¬ (i : Int) < (l.length : Int) := by omega
      have hi : i = l.length := by omega
      subst hi
      rw [List.take_length] at hLk
      have HR := Lib.hid (And.intro hLk (And.intro hM (And.intro hb (And.intro ho2 he))))
      clear hLk hM hb ho1 ho2 he hk hlt
      go_wp2_with fail
      try go_frame
      go_loopg [53] E'.length (fun k v wq => PM2 w w2.heap.size L E' (.slice q2 E'.length cap2) w1.heap.size k v wq)
      case atStart => 
        obtain ⟨hLk, hM, hb, ho2, he⟩ := HR.out
        exact ⟨0, rfl, by simp, by rw [List.take_zero, inOf_nil0]; exact hM, ho2, he⟩
      case round =>
        obtain ⟨i, rfl, hk, hM, ho2, he⟩ := hrel
        by_cases hlt : i < E'.length
        · obtain ⟨g, rfl, hg, hc⟩ := own_at (f := EdgeR.cells) (fun _ => rfl) ho2 hlt
          have c0 : wr.cell? ⟨g, i * 5, none⟩ = some (kI (E'[i]'hlt).src) := hc 0 (by decide)
          have c1 : wr.cell? ⟨g, i * 5 + 1, none⟩ = some (kI (E'[i]'hlt).dst) := hc 1 (by decide)
          have c2 : wr.cell? ⟨g, i * 5 + 2, none⟩ = some (.map (some (E'[i]'hlt).att)) := hc 2 (by decide)
          have c3 : wr.cell? ⟨g, i * 5 + 3, none⟩ = some (.int .i64 (E'[i]'hlt).wt) := hc 3 (by decide)
          have c4 : wr.cell? ⟨g, i * 5 + 4, none⟩ = some .nilIface := hc 4 (by decide)
          have hlt' : (i : Int) < (E'.length : Int) := by omega
          have HR2 := Lib.hid (And.intro hk (And.intro hM (And.intro ho2 he)))
          have hem : E'[i]'hlt ∈ σ.E := HL2.out.1.mem_iff.1 (List.getElem_mem hlt)
          have hob : ∃ ob, ((E'[i]'hlt).dst, ob) ∈ L := by
            obtain ⟨-, n, hn⟩ := HG.out.1.st.ends _ hem
            have : (E'[i]'hlt).dst ∈ L.map (·.1) := by rw [HR.out.1]; exact HL.out.1.mem_iff.2 (List.mem_map.2 ⟨_, hn, rfl⟩)
            obtain ⟨o, ho, h1⟩ := List.mem_map.1 this
            exact ⟨o.2, by rw [← h1]; exact ho⟩
          obtain ⟨ob, hob⟩ := hob
          have hm := hM.out.alloc (.cells (E'[i]'hlt).cells.toArray 97)
          have hmi := (hM.inn _ hob).alloc (.cells (E'[i]'hlt).cells.toArray 97)
          have l1 := lookup_mem (f := fun o => .map (some o.2)) hM.keys hob
          clear hk hM ho2 he hc hem
          go_wp2_with (first | (at_lookup; (refine wpL_lookup_ok rfl rfl U105 K2 Z107 rfl rfl hm ?_); rw [l1]) | (at_lookup; (refine wpL_lookup rfl rfl U105 K2 Z107 rfl rfl hm ?_); rw [l1]) | (at_mapUpdate; (refine wpL_mapUpdate rfl rfl U107 K2 rfl rfl (E'[i]'hlt).val rfl hmi ?_); intro w3 hm3 hon3))
          go_roundg (E'.length - (i + 1))
          case measure => have := HR2.out.1; omega
          case rel =>
            obtain ⟨hk, hM, ho2, he⟩ := HR2.out
            have hlen : E'.length < 1000000 := by have := HL2.out.1.length_eq; have h2 := HG.out.2.2; omega
            have hu : (E'.map fun e => (e.src, e.dst)).Nodup := (HL2.out.1.map _).nodup_iff.2 HG.out.1.st.euniq
            have hne : ∀ e' ∈ E'.take i, ¬ (e'.src = (E'[i]'hlt).src ∧ e'.dst = (E'[i]'hlt).dst) := by
              intro e' he' ⟨h1, h2⟩
              obtain ⟨j, hj, rfl⟩ := List.mem_take_iff_getElem.1 he'
              have := List.pairwise_iff_getElem.1 hu j i (by simp; omega) (by simpa using hlt) (by omega)
              simp only [List.getElem_map, ne_eq, Prod.mk.injEq] at this
              exact this ⟨h1, h2⟩
            have eA : Ext No wr (wr.alloc (.cells (E'[i]'hlt).cells.toArray 97)) := (Ext.refl _ wr).alloc _
            have hM3 := (hM.ext eA (fun _ _ => id)).edgeI hob hne hm3 hon3
            have e3 : Ext (fun c => c = ob) wr w3 := ((Ext.refl _ wr).alloc _).only hon3 (fun _ => rfl)
            have hbo : w.heap.size ≤ ob := HR.out.2.2.1 ob (List.mem_cons_of_mem _ (List.mem_map.2 ⟨_, hob, rfl⟩))
            refine ⟨i + 1, by rw [w64 (by omega)], by omega, ?_, ownsRow_ext ho2 e3 (fun c hc e => ?_), he.then e3 (fun c hc e => ?_)⟩
            · rw [List.take_add_one, List.getElem?_eq_getElem hlt]; exact hM3
            · exact (hM.inn _ hob).not_row ho2 (by rw [hc, e])
            · omega
        · have hnlt : ¬ (i : Int) < (E'.length : Int) := by omega
          have hi : i = E'.length := by omega
          subst hi
          rw [List.take_length] at hM
          have HR2 := Lib.hid (And.intro hM he)
          clear hk hM ho2 he
          go_wp2
          go_ret2
          exact ⟨w2.heap.size, L, E', rfl, by rw [HR.out.1]; exact HL.out.1, HL2.out.1, HR2.out.1, HR.out.2.2.1, HR2.out.2⟩
end Go.Proofs.YtcenebjdhbdejaaGreatDoor
