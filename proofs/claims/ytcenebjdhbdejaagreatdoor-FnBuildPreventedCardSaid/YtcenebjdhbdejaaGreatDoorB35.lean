/- Edges of either kind: of an undirected graph each edge once. Traits of either kind. -/
import Derived.Test.YtcenebjdhbdejaaGreatDoorB09
import Derived.Test.YtcenebjdhbdejaaGreatDoorB34
namespace Go.Proofs.YtcenebjdhbdejaaGreatDoor
open Go.MapKept

abbrev prE (e : EdgeR) : Int × Int := (e.src, e.dst)
/-- an edge whose other direction is among those already -/
def turnedIn (acc : List EdgeR) (e : EdgeR) : Bool := acc.any fun x => decide (prE x = (e.dst, e.src))
/-- the edges that Edges keeps -/
def keepU : List EdgeR → List EdgeR → List EdgeR
  | acc, [] => acc
  | acc, e :: S => if turnedIn acc e then keepU acc S else keepU (acc ++ [e]) S

theorem keepU_sub : ∀ (S acc : List EdgeR), (keepU acc S).Sublist (acc ++ S)
  | [], acc => by simp [keepU]
  | e :: S, acc => by
    unfold keepU
    split
    · exact (keepU_sub S acc).trans (List.Sublist.append_left (List.sublist_cons_self e S) acc)
    · have := keepU_sub S (acc ++ [e])
      rwa [List.append_assoc] at this
theorem keepU_acc : ∀ (S acc : List EdgeR), ∀ x ∈ acc, x ∈ keepU acc S
  | [], _, _, h => h
  | e :: S, acc, x, h => by
    unfold keepU
    split
    · exact keepU_acc S acc x h
    · exact keepU_acc S (acc ++ [e]) x (List.mem_append_left _ h)
theorem keepU_cov : ∀ (S acc : List EdgeR), ∀ e ∈ S, e ∈ keepU acc S ∨ ∃ x ∈ keepU acc S, prE x = (e.dst, e.src)
  | [], _, _, h => by cases h
  | e :: S, acc, y, h => by
    unfold keepU
    split
    · next ht =>
      rcases List.mem_cons.1 h with rfl | h
      · simp only [turnedIn, List.any_eq_true, decide_eq_true_eq] at ht
        obtain ⟨x, hx, h1⟩ := ht
        exact Or.inr ⟨x, keepU_acc S acc x hx, h1⟩
      · exact keepU_cov S acc y h
    · rcases List.mem_cons.1 h with rfl | h
      · exact Or.inl (keepU_acc S _ _ (by simp))
      · exact keepU_cov S _ y h
theorem keepU_apart : ∀ (S acc : List EdgeR), acc.Pairwise (fun x y => prE x ≠ (y.dst, y.src)) → (keepU acc S).Pairwise (fun x y => prE x ≠ (y.dst, y.src))
  | [], _, h => h
  | e :: S, acc, h => by
    unfold keepU
    split
    · exact keepU_apart S acc h
    · next ht =>
      refine keepU_apart S _ ?_
      rw [List.pairwise_append]
      refine ⟨h, by simp, fun x hx y hy e1 => ht ?_⟩
      simp only [List.mem_singleton] at hy
      subst hy
      simp only [turnedIn, List.any_eq_true, decide_eq_true_eq]
      exact ⟨x, hx, e1⟩

theorem keepU_split {S : List EdgeR} : ∀ {i : Nat} (hi : i < S.length) (acc : List EdgeR), keepU acc (S.drop i) = if turnedIn acc S[i] then keepU acc (S.drop (i + 1)) else keepU (acc ++ [S[i]]) (S.drop (i + 1)) := by
  intro i hi acc
  rw [List.drop_eq_getElem_cons hi]
  rfl

/-- What Edges of an undirected graph leaves. -/
def ListedU (σ : St) (w : World) (r : Ending) (w' : World) : Prop :=
  ∃ (v : Value) (S : List EdgeR), r = .returned (.tuple #[v, .nilIface]) ∧ S.Perm σ.E ∧ w'.ownsRow w.heap.size 97 5 v (keepU [] S).length ((keepU [] S).flatMap EdgeR.cells) ∧ Ext No w w'

set_option maxRecDepth 100000 in
theorem d_traits {w : World} {H : Hd} {τ : Tr} {σ : St} (h : Gr w H τ σ) : Calls Tryz.prog 114 #[.pointer (some ⟨H.d, 0, none⟩)] w fun r w' => r = .returned (.pointer (some ⟨H.t, 0, none⟩)) ∧ w' = w := by
  have hlt := h.lt
  have d1 := h.d1
  clear h
  go_enter Tryz.func114, Tryz.ntmps114
  go_wp2
  go_ret
  exact ⟨rfl, rfl⟩
set_option maxRecDepth 100000 in
theorem u_traits {w : World} {H : Hd} {τ : Tr} {σ : St} (h : Gr w H τ σ) : Calls Tryz.prog 139 #[.pointer (some ⟨H.d, 0, none⟩)] w fun r w' => r = .returned (.pointer (some ⟨H.t, 0, none⟩)) ∧ w' = w := by
  have hlt := h.lt
  have d1 := h.d1
  clear h
  go_enter Tryz.func139, Tryz.ntmps139
  go_wp2
  go_ret
  exact ⟨rfl, rfl⟩

set_option maxRecDepth 100000 in
set_option maxHeartbeats 400000 in
theorem d_edges {w : World} {H : Hd} {τ : Tr} {σ : St} (h : Gr w H τ σ) (hE : σ.E.length < 1000000) :
    Calls Tryz.prog 108 #[.pointer (some ⟨H.d, 0, none⟩)] w (ListedE σ w) := by
  have hlt := h.lt
  have d2 := h.d2
  have hc := listEdges h.st hE
  clear h
  go_enter Tryz.func108, Tryz.ntmps108
  have hM := M145_ListEdges
  go_wp2_with (first | (go_at_call 148; refine hc.mono ?_; rintro r w1 ⟨v, l, rfl, hl, ho, he⟩; obtain ⟨q, cap, rfl, -⟩ := own_read (f := EdgeR.cells) (fun _ => rfl) ho))
  go_ret2
  exact ⟨_, l, rfl, hl, ho, he⟩

/-- a round of Edges -/
def UR (_w0 w1 : World) (S : List EdgeR) (mb : Nat) (k : Nat) (kv iv : Value) (wr : World) : Prop :=
  ∃ (i : Nat) (K : List EdgeR), iv = .int .i64 i ∧ i + k = S.length ∧ keepU K (S.drop i) = keepU [] S ∧ K.Sublist (S.take i) ∧ MapI kT wr mb (K.map fun e => (prE e, .agg #[])) ∧ wr.ownsRow w1.heap.size 97 5 kv K.length (K.flatMap EdgeR.cells) ∧
    Ext No w1 wr

/-- the lookup that the model's maps use -/
abbrev lkP (k : Int × Int) (M : List ((Int × Int) × Value)) : Option Value := @List.lookup (Int × Int) Value instBEqOfDecidableEq k M
theorem lkP_cons (k : Int × Int) (p : (Int × Int) × Value) (M : List ((Int × Int) × Value)) : lkP k (p :: M) = if k = p.1 then some p.2 else lkP k M := by
  by_cases h : k = p.1
  · have hk : (@BEq.beq (Int × Int) instBEqOfDecidableEq k p.1) = true := by simpa using h
    rw [if_pos h]
    simp only [lkP, List.lookup, hk]
  · have hk : (@BEq.beq (Int × Int) instBEqOfDecidableEq k p.1) = false := by simpa using h
    rw [if_neg h]
    simp only [lkP, List.lookup, hk]

theorem turned_lookup {K : List EdgeR} {e : EdgeR} (h : turnedIn K e = true) : lkP (e.dst, e.src) (K.map fun e => (prE e, Value.agg #[])) = some (.agg #[]) := by
  induction K with
  | nil => cases h
  | cons x K ih =>
    rw [List.map_cons, lkP_cons]
    by_cases h1 : (e.dst, e.src) = prE x
    · rw [if_pos h1]
    · rw [if_neg h1]
      refine ih ?_
      have h2 : ¬ prE x = (e.dst, e.src) := fun h => h1 h.symm
      unfold turnedIn at h ⊢
      rw [List.any_cons, decide_eq_false h2] at h
      simpa using h
theorem not_turned_lookup {K : List EdgeR} {e : EdgeR} (h : turnedIn K e = false) : lkP (e.dst, e.src) (K.map fun e => (prE e, Value.agg #[])) = none := by
  induction K with
  | nil => rfl
  | cons x K ih =>
    unfold turnedIn at h
    rw [List.any_cons, Bool.or_eq_false_iff] at h
    have h3 : ¬ (e.dst, e.src) = prE x := fun h4 => by have := h.1; rw [decide_eq_true h4.symm] at this; cases this
    rw [List.map_cons, lkP_cons, if_neg h3]
    exact ih h.2

theorem setP_new {k : Int × Int} {v : Value} : ∀ {M : List ((Int × Int) × Value)}, (∀ p ∈ M, p.1 ≠ k) → setA k v M = M ++ [(k, v)]
  | [], _ => rfl
  | p :: M, h => by
    have h1 : ¬ k = p.1 := fun e => h p List.mem_cons_self e.symm
    rw [setA, if_neg h1, setP_new (fun q hq => h q (List.mem_cons_of_mem _ hq))]
    rfl

theorem ownsRow_lower {w : World} {B B' e size n : Nat} {v : Value} {xs : List Value} (h : w.ownsRow B e size v n xs) (hb : B' ≤ B) : w.ownsRow B' e size v n xs := by
  refine ⟨h.1, ?_⟩
  rcases h.2 with hn | ⟨g, cap, cur, hv, hg, rest⟩
  · exact Or.inl hn
  · exact Or.inr ⟨g, cap, cur, hv, Nat.le_trans hb hg, rest⟩
theorem four_new (w : World) (o1 o2 o3 o4 : Obj) : ((((w.alloc o1).alloc o2).alloc o3).alloc o4).heap[w.heap.size + 1 + 1 + 1]? = some o4 := by
  have := (heap_alloc (((w.alloc o1).alloc o2).alloc o3) o4).1
  rwa [World.size_alloc, World.size_alloc, World.size_alloc] at this
theorem URmid.of {w1 wr W wa : World} {mb : Nat} {K : List EdgeR} {x : EdgeR} {kv v' : Value} (ho : wr.ownsRow w1.heap.size 97 5 kv K.length (K.flatMap EdgeR.cells)) (hm : MapI kT wr mb (K.map fun e => (prE e, .agg #[]))) (he : Ext No w1 wr)
    (e3 : Ext No wr W) (r3 : W.heap[wr.heap.size]? = some (.cells x.cells.toArray 97 (0, 0))) (hoa : wa.ownsRow w1.heap.size 97 5 v' (K ++ [x]).length ((K ++ [x]).flatMap EdgeR.cells)) (hea : Ext (fun c => some c = kv.ownBlock) (W.alloc (.cells x.cells.toArray 97)) wa) :
    wa.ownsRow w1.heap.size 97 5 v' (K ++ [x]).length ((K ++ [x]).flatMap EdgeR.cells) ∧ wa.heap[wr.heap.size]? = some (.cells x.cells.toArray 97 (0, 0)) ∧ MapI kT wa mb (K.map fun e => (prE e, .agg #[])) ∧ Ext No w1 wa := by
  have e4 : Ext No wr (W.alloc (.cells x.cells.toArray 97)) := e3.alloc _
  refine ⟨hoa, hea.obj (alloc_heap r3 _) (fun e => by have := (ho.lt _ e.symm).2; omega), (hm.ext e4 id).ext hea (fun e => hm.not_row ho e.symm), (he.trans e4).then hea (fun c hc e => by have := (ho.lt _ e.symm).1; omega)⟩

set_option maxRecDepth 100000 in
set_option maxHeartbeats 2000000 in
theorem u_edges {w : World} {H : Hd} {τ : Tr} {σ : St} (h : Gr w H τ σ) (hE : σ.E.length < 1000000) :
    Calls Tryz.prog 133 #[.pointer (some ⟨H.d, 0, none⟩)] w (ListedU σ w) := by
  have hlt := h.lt
  have d2 := h.d2
  have hc := listEdges h.st hE
  have HG := Lib.hid (And.intro h hE)
  clear h hE
  go_enter Tryz.func133, Tryz.ntmps133
  have hM := M145_ListEdges
  go_wp2_with fail
  refine hc.mono ?_
  rintro r w1 ⟨sv, S, rfl, hl, ho, he⟩
  obtain ⟨q, cap, rfl, -⟩ := own_read (f := EdgeR.cells) (fun _ => rfl) ho
  have hSl : S.length < 1000000 := by rw [hl.length_eq]; exact HG.out.2
  have HS := Lib.hid (And.intro hl (And.intro ho (And.intro he hSl)))
  clear hc hl ho he d2 hlt
  have hmm := makeMapR Tryz.prog
  go_wp2_with (first | (at_make; (refine wpL_make0 rfl rfl U120 I97 rfl (n := S.length / 2) (by first | rfl | simp) (by omega) (by decide) (Nat.le_refl _) ?_); intro w2 ho2 he2))
  have HE2 := Lib.hid (And.intro ho2 (he2.alloc (.map #[] 0)))
  have hm0 : MapI kT (w2.alloc (.map #[] 0)) w2.heap.size [] := MapI.empty (heap_alloc w2 _).1
  have HM := Lib.hid (And.intro hm0 (show w1.heap.size ≤ w2.heap.size from he2.size))
  clear ho2 he2 hm0
  try go_frame
  go_loopg [6, 33] S.length (fun k kv iv wr => UR w w1 S w2.heap.size k kv iv wr)
  case atStart =>
    exact ⟨0, [], rfl, by simp, by simp, by simp, HM.out.1, by simpa using ownsRow_ext HE2.out.1 ((Ext.refl No w2).alloc _) (fun _ _ h => h), HE2.out.2⟩
  case round =>
    obtain ⟨i, K, rfl, hk, hke, hsub, hmi, ho, he⟩ := hrel
    obtain ⟨q2, cap2, rfl, -⟩ := own_read (f := EdgeR.cells) (fun _ => rfl) ho
    by_cases hlt : i < S.length
    · obtain ⟨g, rfl, hg, hc⟩ := own_at (f := EdgeR.cells) (fun _ => rfl) (ownsRow_ext HS.out.2.1 he (fun _ _ h => h)) hlt
      have c0 : wr.cell? ⟨g, i * 5, none⟩ = some (kI (S[i]'hlt).src) := hc 0 (by decide)
      have c1 : wr.cell? ⟨g, i * 5 + 1, none⟩ = some (kI (S[i]'hlt).dst) := hc 1 (by decide)
      have c2 : wr.cell? ⟨g, i * 5 + 2, none⟩ = some (.map (some (S[i]'hlt).att)) := hc 2 (by decide)
      have c3 : wr.cell? ⟨g, i * 5 + 3, none⟩ = some (.int .i64 (S[i]'hlt).wt) := hc 3 (by decide)
      have c4 : wr.cell? ⟨g, i * 5 + 4, none⟩ = some .nilIface := hc 4 (by decide)
      have hlt' : (i : Int) < (S.length : Int) := by omega
      have hKl : K.length ≤ i := by have := hsub.length_le; rw [List.length_take] at this; omega
      have hm := (hmi.alloc (.cells (S[i]'hlt).cells.toArray 97)).alloc (.cells #[kI (S[i]'hlt).dst, kI (S[i]'hlt).src] 234)
      have hsp := keepU_split hlt K
      have hsx : ∀ x ∈ K, x ∈ S.take i := fun x hx => hsub.subset hx
      have HR := Lib.hid (And.intro hk (And.intro hke (And.intro hsub (And.intro hmi (And.intro ho (And.intro he (And.intro hKl (And.intro hsp hsx))))))))
      clear hk hke hsub hmi ho he hc hKl hsp hsx
      generalize hx : S[i]'hlt = x at HR c0 c1 c2 c3 c4 hm
      have HX := Lib.hid hx
      clear hx
      by_cases ht : turnedIn K x = true
      · have l1 : @List.lookup (Int × Int) Value instBEqOfDecidableEq (x.dst, x.src) (K.map fun e => (prE e, Value.agg #[])) = some (.agg #[]) := turned_lookup ht
        go_wp2_with (first | (at_lookup; (refine wpL_lookup_ok (k := (x.dst, x.src)) rfl rfl U232 keyT_pair Z235 rfl rfl hm ?_); rw [l1]))
        go_roundg (S.length - (i + 1))
        case measure => have := HR.out.1; omega
        case rel =>
          obtain ⟨hk, hke, hsub, hmi, ho, he, hKl, hsp, hsx⟩ := HR.out
          have eA : Ext No wr (((wr.alloc (.cells x.cells.toArray 97)).alloc (.cells #[kI x.dst, kI x.src] 234)).alloc (.cells #[] 235)) := (((Ext.refl _ wr).alloc _).alloc _).alloc _
          refine ⟨i + 1, K, by simp, by omega, ?_, hsub.trans (List.take_sublist_take_left (Nat.le_succ i)), hmi.ext eA id, ownsRow_ext ho eA (fun _ _ h => h), he.trans eA⟩
          rw [if_pos ht] at hsp
          rw [← hsp]; exact hke
      · have htf : turnedIn K x = false := by simpa using ht
        have l1 : @List.lookup (Int × Int) Value instBEqOfDecidableEq (x.dst, x.src) (K.map fun e => (prE e, Value.agg #[])) = none := not_turned_lookup htf
        have HT := Lib.hid htf
        clear ht htf
        have hw : RowKit.Hid (wr.heap.size < (((wr.alloc (.cells x.cells.toArray 97)).alloc (.cells #[kI x.dst, kI x.src] 234)).alloc (.cells #[] 235)).heap.size) := Lib.hid (by simp; omega)
        have e3 : Ext No wr (((wr.alloc (.cells x.cells.toArray 97)).alloc (.cells #[kI x.dst, kI x.src] 234)).alloc (.cells #[] 235)) := (((Ext.refl _ wr).alloc _).alloc _).alloc _
        have r3 : (((wr.alloc (.cells x.cells.toArray 97)).alloc (.cells #[kI x.dst, kI x.src] 234)).alloc (.cells #[] 235)).heap[wr.heap.size]? = some (.cells x.cells.toArray 97 (0, 0)) := alloc_heap (alloc_heap (heap_alloc wr _).1 _) _
        have HA := Lib.hid (And.intro e3 r3)
        clear e3 r3 hm
        obtain ⟨b0, b1, b2, b3, b4, -⟩ := edge_cells HA.out.2 (Ext.refl _ _)
        go_wp2_with (first | (at_lookup; (refine wpL_lookup_ok (k := (x.dst, x.src)) rfl rfl U232 keyT_pair Z235 rfl rfl (HR.out.2.2.2.1.ext (((Ext.refl No wr).alloc _).alloc _) id) ?_); rw [l1]) | (at_mapUpdate; (refine wpL_mapUpdate (k := (x.src, x.dst)) rfl rfl U232 keyT_pair rfl rfl (.agg #[]) rfl (HB.out.2.2.1.alloc (.cells #[kI x.src, kI x.dst] 234)) ?_); intro w5 hm5 hon5) | (at_builtin; (refine wpL_append1 rfl rfl U120 I97 rfl (by decide) (by decide) (f := EdgeR.cells) (fun _ => rfl) EdgeR.one rfl ((ownsRow_ext HR.out.2.2.2.2.1 HA.out.1 (fun _ _ h => h)).alloc (.cells x.cells.toArray 97)) x rfl ⟨97, (0, 0), four_new _ _ _ _ _⟩ (by have := HR.out.2.2.2.2.2.2.1; omega) (HR.out.2.2.2.2.2.1.trans (HA.out.1.alloc _)).size ?_); intro v' wa hoa hea hba; have HB := Lib.hid (URmid.of HR.out.2.2.2.2.1 HR.out.2.2.2.1 HR.out.2.2.2.2.2.1 HA.out.1 HA.out.2 hoa hea); clear hoa hea hba; obtain ⟨d0, d1, d2, d3, d4, -⟩ := edge_cells HB.out.2.1 (Ext.refl _ _)))
        go_roundg (S.length - (i + 1))
        case measure => have := HR.out.1; omega
        case rel =>
          obtain ⟨hk, hke, hsub, hmi, ho, he, hKl, hsp, hsx⟩ := HR.out
          obtain ⟨hoa, -, hma, hea⟩ := HB.out
          have hu : (S.map prE).Nodup := (HS.out.1.map _).nodup_iff.2 HG.out.1.st.euniq
          have hne : ∀ y ∈ K, prE y ≠ (x.src, x.dst) := by
            intro y hy h1
            obtain ⟨j, hj, rfl⟩ := List.mem_take_iff_getElem.1 (hsx y hy)
            have := List.pairwise_iff_getElem.1 hu j i (by simp; omega) (by simpa using hlt) (by omega)
            simp only [List.getElem_map, HX.out] at this
            exact this h1
          rw [setP_new (fun p hp => by
            obtain ⟨y, hy, rfl⟩ := List.mem_map.1 hp
            exact hne y hy)] at hm5
          have e5 : Ext (fun c => c = w2.heap.size) wa w5 := ((Ext.refl _ wa).alloc _).only hon5 (fun _ => rfl)
          refine ⟨i + 1, K ++ [x], by simp, by omega, ?_, ?_, by simpa using hm5, ownsRow_ext hoa e5 (fun c hc e => hma.not_row hoa (by rw [hc, e])), hea.then e5 (fun c hc e => by have := HM.out.2; omega)⟩
          · rw [if_neg (by rw [HT.out]; simp)] at hsp
            rw [← hsp]; exact hke
          · rw [List.take_add_one, List.getElem?_eq_getElem hlt, HX.out]
            exact hsub.append (List.Sublist.refl _)
    · have hnlt : ¬ (i : Int) < (S.length : Int) := by omega
      have hi : i = S.length := by omega
      subst hi
      rw [List.drop_length] at hke
      have HR := Lib.hid (And.intro hke (And.intro ho he))
      clear hk hke hsub hmi ho he
      go_wp2
      go_ret2
      obtain ⟨hke, ho, he⟩ := HR.out
      have hke' : K = keepU [] S := hke
      refine ⟨_, S, rfl, HS.out.1, ?_, HS.out.2.2.1.trans he⟩
      rw [← hke']
      exact ownsRow_lower ho HS.out.2.2.1.size
end Go.Proofs.YtcenebjdhbdejaaGreatDoor
