/- The store's AddEdge, walked. -/
import Derived.Test.YtcenebjdhbdejaaGreatDoorA2
namespace Go.Proofs.YtcenebjdhbdejaaGreatDoor
open Go.MapKept

theorem Store.blocks_lt {w : World} {A : Ad} {σ : St} (h : Store w A σ) : ∀ c ∈ σ.blocks A, c < w.heap.size := by
  intro c hc
  simp only [St.blocks, List.mem_cons, List.mem_append, List.mem_map] at hc
  rcases hc with rfl | rfl | rfl | rfl | rfl | ⟨o, ho, rfl⟩ | ⟨o, ho, rfl⟩
  · exact h.lt
  · exact h.vm.lt
  · exact h.pm.lt
  · exact h.om.lt
  · exact h.im.lt
  · exact (h.outs o ho).lt
  · exact (h.ins o ho).lt

/-- What the first half of AddEdge leaves: there is an inner map for the edges that go out of a. -/
def HalfO (A : Ad) (σ : St) (a : Int) (w0 wc : World) : Prop :=
  ∃ O' ob, (a, ob) ∈ O' ∧ Store wc A { σ with O := O' } ∧ Ext (· ∈ σ.blocks A) w0 wc ∧ ∀ c, c ∈ ({ σ with O := O' } : St).blocks A → c ∈ σ.blocks A ∨ w0.heap.size ≤ c

theorem HalfO.old {A : Ad} {σ : St} {a : Int} {w0 : World} {ob : Nat} (h : Store w0 A σ) (ha : (a, ob) ∈ σ.O) : HalfO A σ a w0 w0 :=
  ⟨σ.O, ob, ha, h, Ext.refl _ _, fun _ hc => Or.inl hc⟩

theorem HalfO.new {A : Ad} {σ : St} {a : Int} {w0 w1 : World} (h : Store w0 A σ) (ha : ∀ b, (a, b) ∉ σ.O)
    (hv : MapI kI w1 A.bo (setA a (.map (some w0.heap.size)) (σ.O.map fun o => (o.1, .map (some o.2))))) (ho : Only A.bo (w0.alloc (.map #[] 0)) w1) : HalfO A σ a w0 w1 := by
  have he : Ext (fun c => c = A.bo) w0 w1 := ((Ext.refl _ w0).alloc _).only ho (fun _ => rfl)
  have hlt := h.om.lt
  have hf : ¬ σ.foot A w0.heap.size := by
    intro hf
    have : w0.heap.size < w0.heap.size := by
      rcases hf with hf | hf
      · exact h.blocks_lt _ hf
      · exact (Array.getElem?_eq_some_iff.1 (h.att _ hf)).1
    omega
  refine ⟨σ.O ++ [(a, w0.heap.size)], w0.heap.size, by simp, h.addO ha hf he (fun c _ hc => hc) (MapI.empty (clk := 0) ?_) hv, he.mono ?_, ?_⟩
  · rw [ho.other _ (by omega)]; exact (heap_alloc w0 _).1
  · rintro c - rfl; simp [St.blocks]
  · intro c hc
    simp only [St.blocks, List.map_append, List.map_cons, List.map_nil, List.mem_cons, List.mem_append, List.not_mem_nil, or_false] at hc ⊢
    rcases hc with h | h | h | h | h | (h | h) | h
    · exact Or.inl (Or.inl h)
    · exact Or.inl (Or.inr (Or.inl h))
    · exact Or.inl (Or.inr (Or.inr (Or.inl h)))
    · exact Or.inl (Or.inr (Or.inr (Or.inr (Or.inl h))))
    · exact Or.inl (Or.inr (Or.inr (Or.inr (Or.inr (Or.inl h)))))
    · exact Or.inl (Or.inr (Or.inr (Or.inr (Or.inr (Or.inr (Or.inl h))))))
    · exact Or.inr (Nat.le_of_eq h.symm)
    · exact Or.inl (Or.inr (Or.inr (Or.inr (Or.inr (Or.inr (Or.inr h))))))

/-- What the second half of AddEdge leaves: there is an inner map for the edges that come to a. -/
def HalfI (A : Ad) (σ : St) (a : Int) (w0 wc : World) : Prop :=
  ∃ I' ib, (a, ib) ∈ I' ∧ Store wc A { σ with I := I' } ∧ Ext (· ∈ σ.blocks A) w0 wc ∧ ∀ c, c ∈ ({ σ with I := I' } : St).blocks A → c ∈ σ.blocks A ∨ w0.heap.size ≤ c

theorem HalfI.old {A : Ad} {σ : St} {a : Int} {w0 : World} {ib : Nat} (h : Store w0 A σ) (ha : (a, ib) ∈ σ.I) : HalfI A σ a w0 w0 :=
  ⟨σ.I, ib, ha, h, Ext.refl _ _, fun _ hc => Or.inl hc⟩

theorem HalfI.new {A : Ad} {σ : St} {a : Int} {w0 w1 : World} (h : Store w0 A σ) (ha : ∀ b, (a, b) ∉ σ.I)
    (hv : MapI kI w1 A.bi (setA a (.map (some w0.heap.size)) (σ.I.map fun o => (o.1, .map (some o.2))))) (ho : Only A.bi (w0.alloc (.map #[] 0)) w1) : HalfI A σ a w0 w1 := by
  have he : Ext (fun c => c = A.bi) w0 w1 := ((Ext.refl _ w0).alloc _).only ho (fun _ => rfl)
  have hlt := h.im.lt
  have hf : ¬ σ.foot A w0.heap.size := by
    intro hf
    have : w0.heap.size < w0.heap.size := by
      rcases hf with hf | hf
      · exact h.blocks_lt _ hf
      · exact (Array.getElem?_eq_some_iff.1 (h.att _ hf)).1
    omega
  refine ⟨σ.I ++ [(a, w0.heap.size)], w0.heap.size, by simp, h.addI ha hf he (fun c _ hc => hc) (MapI.empty (clk := 0) ?_) hv, he.mono ?_, ?_⟩
  · rw [ho.other _ (by omega)]; exact (heap_alloc w0 _).1
  · rintro c - rfl; simp [St.blocks]
  · intro c hc
    simp only [St.blocks, List.map_append, List.map_cons, List.map_nil, List.mem_cons, List.mem_append, List.not_mem_nil, or_false] at hc ⊢
    rcases hc with h | h | h | h | h | h | h | h
    · exact Or.inl (Or.inl h)
    · exact Or.inl (Or.inr (Or.inl h))
    · exact Or.inl (Or.inr (Or.inr (Or.inl h)))
    · exact Or.inl (Or.inr (Or.inr (Or.inr (Or.inl h))))
    · exact Or.inl (Or.inr (Or.inr (Or.inr (Or.inr (Or.inl h)))))
    · exact Or.inl (Or.inr (Or.inr (Or.inr (Or.inr (Or.inr (Or.inl h))))))
    · exact Or.inl (Or.inr (Or.inr (Or.inr (Or.inr (Or.inr (Or.inr h))))))
    · exact Or.inr (Nat.le_of_eq h.symm)

/-- The world in which block x has not yet been turned. -/
theorem revert {w w' : World} {x : Nat} {T : Nat → Prop} {o : Obj} (hx : w.heap[x]? = some o) (h : Ext (fun c => c = x ∨ T c) w w') :
    ∃ wv, Ext T w wv ∧ Ext (fun c => c = x) wv w' ∧ wv.heap.size = w'.heap.size ∧ ∀ c : Nat, c ≠ x → wv.heap[c]? = w'.heap[c]? := by
  have hlt : x < w.heap.size := (Array.getElem?_eq_some_iff.1 hx).1
  have hlt' : x < w'.heap.size := Nat.lt_of_lt_of_le hlt h.size
  refine ⟨{ w' with heap := w'.heap.setIfInBounds x o }, ⟨by simpa using h.size, ?_, h.os, h.out⟩, ⟨by simp, ?_, rfl, rfl⟩, by simp, ?_⟩
  · intro c hc hT
    by_cases e : c = x
    · subst e; simp [hlt', hx]
    · show (w'.heap.setIfInBounds x o)[c]? = _
      rw [Array.getElem?_setIfInBounds_ne (Ne.symm e)]
      exact h.same c hc (by rintro (h | h) <;> contradiction)
  · intro c hc e
    show _ = (w'.heap.setIfInBounds x o)[c]?
    rw [Array.getElem?_setIfInBounds_ne (Ne.symm e)]
  · intro c e
    show (w'.heap.setIfInBounds x o)[c]? = _
    rw [Array.getElem?_setIfInBounds_ne (Ne.symm e)]

/-- What stands between the halves: the first inner map has the edge already. -/
def Half2 (A : Ad) (σ : St) (b : Int) (ob : Nat) (M : List (Int × Value)) (wc w4 : World) : Prop :=
  ∃ wv, HalfI A σ b wc wv ∧ Ext (fun c => c = ob) wv w4 ∧ MapI kI w4 ob M ∧ wv.heap.size = w4.heap.size ∧ ∀ c : Nat, c ≠ ob → wv.heap[c]? = w4.heap[c]?

theorem outOf_snoc (E : List EdgeR) (e : EdgeR) : outOf (E ++ [e]) e.src = outOf E e.src ++ [(e.dst, e.val)] := by simp [outOf]
theorem inOf_snoc (E : List EdgeR) (e : EdgeR) : inOf (E ++ [e]) e.dst = inOf E e.dst ++ [(e.src, e.val)] := by simp [inOf]
theorem outOf_snoc_ne (E : List EdgeR) (e : EdgeR) {x : Int} (h : x ≠ e.src) : outOf (E ++ [e]) x = outOf E x := by
  have : (e.src == x) = false := by simp [Ne.symm h]
  simp [outOf, this]
theorem inOf_snoc_ne (E : List EdgeR) (e : EdgeR) {x : Int} (h : x ≠ e.dst) : inOf (E ++ [e]) x = inOf E x := by
  have : (e.dst == x) = false := by simp [Ne.symm h]
  simp [inOf, this]

/-- What AddEdge leaves. -/
def AddedE (A : Ad) (σ : St) (e : EdgeR) (w w' : World) : Prop :=
  ∃ O' I', Store w' A { V := σ.V, E := σ.E ++ [e], O := O', I := I' } ∧ Ext (· ∈ σ.blocks A) w w' ∧
    ∀ c, c ∈ ({ V := σ.V, E := σ.E ++ [e], O := O', I := I' } : St).blocks A → c ∈ σ.blocks A ∨ w.heap.size ≤ c

theorem St.mem_O {σ : St} {A : Ad} {x : Int} {n : Nat} (h : (x, n) ∈ σ.O) : n ∈ σ.blocks A := by
  simp only [St.blocks, List.mem_cons, List.mem_append, List.mem_map]; right; right; right; right; right; left; exact ⟨_, h, rfl⟩
theorem St.mem_I {σ : St} {A : Ad} {x : Int} {n : Nat} (h : (x, n) ∈ σ.I) : n ∈ σ.blocks A := by
  simp only [St.blocks, List.mem_cons, List.mem_append, List.mem_map]; right; right; right; right; right; right; exact ⟨_, h, rfl⟩
theorem Store.ne_O {w : World} {A : Ad} {σ : St} (h : Store w A σ) {x : Int} {n : Nat} (hm : (x, n) ∈ σ.O) : n ≠ A.s ∧ n ≠ A.bv ∧ n ≠ A.bp ∧ n ≠ A.bo ∧ n ≠ A.bi := by
  have nd := h.nd
  have hn : n ∈ σ.O.map (·.2) := List.mem_map.2 ⟨_, hm, rfl⟩
  simp only [St.blocks, List.nodup_cons, List.mem_cons, List.mem_append, not_or] at nd
  exact ⟨fun e => nd.1.2.2.2.2.1 (e ▸ hn), fun e => nd.2.1.2.2.2.1 (e ▸ hn), fun e => nd.2.2.1.2.2.1 (e ▸ hn), fun e => nd.2.2.2.1.2.1 (e ▸ hn), fun e => nd.2.2.2.2.1.1 (e ▸ hn)⟩
theorem Store.ne_I {w : World} {A : Ad} {σ : St} (h : Store w A σ) {x : Int} {n : Nat} (hm : (x, n) ∈ σ.I) : n ≠ A.s ∧ n ≠ A.bv ∧ n ≠ A.bp ∧ n ≠ A.bo ∧ n ≠ A.bi := by
  have nd := h.nd
  have hn : n ∈ σ.I.map (·.2) := List.mem_map.2 ⟨_, hm, rfl⟩
  simp only [St.blocks, List.nodup_cons, List.mem_cons, List.mem_append, not_or] at nd
  exact ⟨fun e => nd.1.2.2.2.2.2 (e ▸ hn), fun e => nd.2.1.2.2.2.2 (e ▸ hn), fun e => nd.2.2.1.2.2.2 (e ▸ hn), fun e => nd.2.2.2.1.2.2 (e ▸ hn), fun e => nd.2.2.2.2.1.2 (e ▸ hn)⟩
theorem Store.ne_OI {w : World} {A : Ad} {σ : St} (h : Store w A σ) {x y : Int} {n m : Nat} (hm : (x, n) ∈ σ.O) (hn : (y, m) ∈ σ.I) : n ≠ m := by
  have nd := h.nd
  simp only [St.blocks, List.nodup_cons, List.nodup_append] at nd
  exact nd.2.2.2.2.2.2.2 n (List.mem_map.2 ⟨_, hm, rfl⟩) m (List.mem_map.2 ⟨_, hn, rfl⟩)

theorem HalfI.drew {A : Ad} {σ : St} {b : Int} {w w1 : World} (h : HalfI A σ b w w1) : HalfI A σ b w w1.drew := by
  obtain ⟨I', ib, h1, h2, h3, h4⟩ := h
  exact ⟨I', ib, h1, h2.ext ((Ext.refl No w1).drew) (fun _ _ => id), h3.drew, h4⟩

theorem Half2.old {A : Ad} {σ : St} {b : Int} {ob ib : Nat} {M : List (Int × Value)} {wc w3 : World} (h : Store wc A σ) (hb : (b, ib) ∈ σ.I) (hm : MapI kI w3 ob M) (ho : Only ob wc.drew w3) : Half2 A σ b ob M wc w3 :=
  ⟨wc.drew, HalfI.drew (HalfI.old h hb), ⟨Nat.le_of_eq ho.size.symm, fun c _ hc => ho.other c hc, ho.os, ho.out⟩, hm, ho.size.symm, fun c hc => (ho.other c hc).symm⟩

theorem Half2.new {A : Ad} {σ : St} {b a : Int} {ob : Nat} {M : List (Int × Value)} {wc w3 w4 : World} (h : Store wc A σ) (hb : ∀ n, (b, n) ∉ σ.I) (hO : (a, ob) ∈ σ.O) (hm : MapI kI w3 ob M) (ho : Only ob wc.drew w3)
    (hi : MapI kI w4 A.bi (setA b (.map (some w3.heap.size)) (σ.I.map fun o => (o.1, .map (some o.2))))) (h4 : Only A.bi (w3.alloc (.map #[] 0)) w4) : Half2 A σ b ob M wc w4 := by
  have hsz : w3.heap.size = wc.heap.size := ho.size
  have nb := h.ne_O hO
  have holt := (h.outs _ hO).lt
  have e3 : Ext (fun c => c = ob ∨ c = A.bi) wc w4 := ((((Ext.refl _ wc).drew).only ho (fun _ => Or.inl rfl)).alloc _).only h4 (fun _ => Or.inr rfl)
  obtain ⟨⟨es, clk, ho1, -⟩, -⟩ := h.outs _ hO
  obtain ⟨wv, v1, v2, v3, v4⟩ := revert ho1 e3
  have hsz4 : w4.heap.size = wc.heap.size + 1 := by rw [h4.size, World.size_alloc, hsz]
  refine ⟨wv, ?_, v2, hm.of_same ?_, v3, v4⟩
  · have hi' : MapI kI wv A.bi (setA b (.map (some wc.heap.size)) (σ.I.map fun o => (o.1, .map (some o.2)))) := by
      rw [← hsz]; exact hi.of_same (v4 _ nb.2.2.2.2.symm)
    have hnew : wv.heap[wc.heap.size]? = some (.map #[] 0) := by
      have hbi := h.im.lt
      rw [v4 _ (by omega), h4.other _ (by omega), ← hsz]; exact (heap_alloc w3 _).1
    have hlt := h.im.lt
    have hf : ¬ σ.foot A wc.heap.size := by
      intro hf
      have : wc.heap.size < wc.heap.size := by
        rcases hf with hf | hf
        · exact h.blocks_lt _ hf
        · exact (Array.getElem?_eq_some_iff.1 (h.att _ hf)).1
      omega
    refine ⟨σ.I ++ [(b, wc.heap.size)], wc.heap.size, by simp, h.addI hb hf v1 (fun c _ hc => hc) (MapI.empty hnew) hi', v1.mono ?_, ?_⟩
    · rintro c - rfl; simp [St.blocks]
    · intro c hc
      simp only [St.blocks, List.map_append, List.map_cons, List.map_nil, List.mem_cons, List.mem_append, List.not_mem_nil, or_false] at hc ⊢
      rcases hc with h | h | h | h | h | h | h | h
      · exact Or.inl (Or.inl h)
      · exact Or.inl (Or.inr (Or.inl h))
      · exact Or.inl (Or.inr (Or.inr (Or.inl h)))
      · exact Or.inl (Or.inr (Or.inr (Or.inr (Or.inl h))))
      · exact Or.inl (Or.inr (Or.inr (Or.inr (Or.inr (Or.inl h)))))
      · exact Or.inl (Or.inr (Or.inr (Or.inr (Or.inr (Or.inr (Or.inl h))))))
      · exact Or.inl (Or.inr (Or.inr (Or.inr (Or.inr (Or.inr (Or.inr h))))))
      · exact Or.inr (Nat.le_of_eq h.symm)
  · have := h4.other ob nb.2.2.2.2
    rw [this, (heap_alloc w3 _).2 ob (by rw [hsz]; exact holt)]

set_option maxRecDepth 100000 in
set_option maxHeartbeats 400000 in
theorem store_addEdge {w : World} {A : Ad} {σ : St} {e : EdgeR} (h : Store w A σ) (hs : ∃ n, (e.src, n) ∈ σ.V) (hd : ∃ n, (e.dst, n) ∈ σ.V)
    (hne : ∀ e' ∈ σ.E, ¬ (e'.src = e.src ∧ e'.dst = e.dst)) (hat : w.heap[e.att]? = some (.map #[] 0)) (ha : e.att ∉ σ.blocks A) :
    Calls Tryz.prog 144 #[.pointer (some ⟨A.s, 0, none⟩), kI e.src, kI e.dst, e.val] w fun r w' => r = .returned .nilIface ∧ AddedE A σ e w w' := by
  have hlt := h.lt
  have c2 := h.c2
  have c3 := h.c3
  go_enter Tryz.func144, Tryz.ntmps144
  have h1 : Store (w.alloc (.cells #[kI e.src, kI e.dst, .map (some e.att), .int .i64 e.wt, .nilIface] 97)) A σ := h.ext ((Ext.refl No w).alloc _) (fun _ _ => id)
  have hv1 := h1.om
  have H := Lib.hid h1
  have hbox : ∀ c ∈ σ.blocks A, w.heap.size = c → False := fun c hc e => by have := h.blocks_lt c hc; omega
  have H0 := Lib.hid (And.intro h (And.intro hs (And.intro hd (And.intro hne hat))))
  clear h1 h hs hd hne hat
  go_upto_if 23 with (first | (at_lookup; (refine wpL_lookup_ok rfl rfl U105 K2 Z107 rfl rfl hv1 ?_)))
  go_cut [9, 10] from 13 (fun _ _ wc => HalfO A σ e.src (w.alloc (.cells #[kI e.src, kI e.dst, .map (some e.att), .int .i64 e.wt, .nilIface] 97)) wc)
  case first =>
    by_cases hk : ∃ ob, (e.src, ob) ∈ σ.O
    · obtain ⟨ob, hb⟩ := hk
      have l1 := lookup_mem (f := fun v => .map (some v.2)) H.out.okeys hb
      rw [l1]
      go_wp2
      go_meet
      case rel => exact HalfO.old H.out hb
    · have l1 := lookup_not (f := fun v => .map (some v.2)) (fun b hb => hk ⟨b, hb⟩)
      rw [l1]
      have hmm := makeMapR Tryz.prog
      have hv2 := hv1.alloc (.map #[] 0)
      have hnb : A.bo < w.heap.size + 1 := by have := hv1.lt; simpa using this
      go_wp2_with (first | (at_mapUpdate; (refine wpL_mapUpdate rfl rfl U105 K2 rfl rfl (.map (some (w.heap.size + 1))) rfl hv2 ?_); intro w1 hv3 ho1))
      go_meet
      case rel => exact HalfO.new H.out (fun b hb => hk ⟨b, hb⟩) (by simpa using hv3) (by simpa using ho1)
  case rest =>
    obtain ⟨O', ob, hO, hS2, hE2, hB2⟩ := hcut
    have c2' := hS2.c2
    have b0 : wc.cell? ⟨w.heap.size, 0, none⟩ = some (kI e.src) := hE2.cellv (by simp) (fun hm => hbox _ hm rfl)
    have b1 : wc.cell? ⟨w.heap.size, 1, none⟩ = some (kI e.dst) := hE2.cellv (by simp) (fun hm => hbox _ hm rfl)
    have b2 : wc.cell? ⟨w.heap.size, 2, none⟩ = some (.map (some e.att)) := hE2.cellv (by simp) (fun hm => hbox _ hm rfl)
    have b3 : wc.cell? ⟨w.heap.size, 3, none⟩ = some (.int .i64 e.wt) := hE2.cellv (by simp) (fun hm => hbox _ hm rfl)
    have b4 : wc.cell? ⟨w.heap.size, 4, none⟩ = some .nilIface := hE2.cellv (by simp) (fun hm => hbox _ hm rfl)
    have l1 := lookup_mem (f := fun v => .map (some v.2)) hS2.okeys hO
    have hl : (Instr.lookup 105 (.map (some A.bo)) (.int .i64 e.src) false).run Tryz.prog wc.drew = .ok (.map (some ob)) wc.drew := by
      rw [run_lookup (P := Tryz.prog) e.src U105 K2 hS2.om.drew (Z107 _), l1]; rfl
    have nb := hS2.ne_O hO
    have hw : ob ≠ w.heap.size := by
      intro e
      rcases hB2 ob (St.mem_O (σ := { σ with O := O' }) hO) with h | h
      · exact hbox ob h e.symm
      · simp at h; omega
    have HS2 := Lib.hid hS2
    have hout := (hS2.outs _ hO).drew
    have him := hS2.im.drew
    have c3' := hS2.c3
    clear hS2
    go_upto_region 4 with (fail)
    go_still_tail 8, (by kernel_rfl)
    refine wpL_mapUpdate rfl rfl U107 K2 rfl rfl e.val rfl hout ?_
    intro w3 hm3 ho3
    have hi3 := ho3.mapI nb.2.2.2.2.symm him
    have c3'' : w3.cell? ⟨A.s, 3, none⟩ = some (.map (some A.bi)) := by rw [ho3.cell _ (by simpa using nb.1.symm)]; exact c3'
    have b0' : w3.cell? ⟨w.heap.size, 0, none⟩ = some (kI e.src) := by rw [ho3.cell _ (by simpa using hw.symm)]; exact b0
    have b1' : w3.cell? ⟨w.heap.size, 1, none⟩ = some (kI e.dst) := by rw [ho3.cell _ (by simpa using hw.symm)]; exact b1
    have b2' : w3.cell? ⟨w.heap.size, 2, none⟩ = some (.map (some e.att)) := by rw [ho3.cell _ (by simpa using hw.symm)]; exact b2
    have b3' : w3.cell? ⟨w.heap.size, 3, none⟩ = some (.int .i64 e.wt) := by rw [ho3.cell _ (by simpa using hw.symm)]; exact b3
    have b4' : w3.cell? ⟨w.heap.size, 4, none⟩ = some .nilIface := by rw [ho3.cell _ (by simpa using hw.symm)]; exact b4
    have HX := Lib.hid (And.intro b0' (And.intro b1' (And.intro b2' (And.intro b3' b4'))))
    have HO3 := Lib.hid (And.intro hm3 ho3)
    have hsz3 : wc.heap.size = w3.heap.size := ho3.size.symm
    have HZ := Lib.hid hsz3
    clear b0 b1 b2 b3 b4 b0' b1' b2' b3' b4' hm3 ho3 hl l1 hout him c2' c3' hsz3
    go_upto_if 48 with (first | (at_lookup; (refine wpL_lookup_ok rfl rfl U105 K2 Z107 rfl rfl hi3 ?_)))
    obtain ⟨w2, rfl⟩ : ∃ w2 : World, w2 = wc := ⟨_, rfl⟩
    go_cut [11, 12] from 38 (fun _ _ w4 => Half2 A { σ with O := O' } e.dst ob (setA e.dst e.val (outOf σ.E e.src)) w2 w4)
    case first =>
      by_cases hk : ∃ ib, (e.dst, ib) ∈ σ.I
      · obtain ⟨ib, hb⟩ := hk
        have l1 := lookup_mem (f := fun v => .map (some v.2)) HS2.out.ikeys hb
        rw [l1]
        go_wp2
        go_meet
        case rel => exact Half2.old HS2.out hb HO3.out.1 HO3.out.2
      · have l1 := lookup_not (f := fun v => .map (some v.2)) (fun b hb => hk ⟨b, hb⟩)
        rw [l1]
        have hmm := makeMapR Tryz.prog
        have hi4 := hi3.alloc (.map #[] 0)
        have hnb : A.bi < w3.heap.size := hi3.lt
        go_wp2_with (first | (at_mapUpdate; (refine wpL_mapUpdate rfl rfl U105 K2 rfl rfl (.map (some w3.heap.size)) rfl hi4 ?_); intro w4 hi5 ho4))
        go_meet
        case rel => exact Half2.new HS2.out (fun b hb => hk ⟨b, hb⟩) hO HO3.out.1 HO3.out.2 hi5 ho4
    case rest =>
      obtain ⟨wv, ⟨I', ib, hI, hSv, hEv, hBv⟩, hv4, hm4, hsz4, hsame⟩ := hcut
      have nbi := hSv.ne_I hI
      have noi : ob ≠ ib := hSv.ne_OI (σ := { V := σ.V, E := σ.E, O := O', I := I' }) hO hI
      have hib : ib ≠ w.heap.size := by
        intro e'
        have hz := HZ.out
        rcases hBv ib (St.mem_I (σ := { V := σ.V, E := σ.E, O := O', I := I' }) hI) with h | h
        · rcases hB2 ib h with h | h
          · exact hbox ib h e'.symm
          · simp at h; omega
        · have := hE2.size; simp at this; omega
      have hnb2 : w.heap.size ∉ ({ σ with O := O' } : St).blocks A := by
        intro hm
        rcases hB2 _ hm with h | h
        · exact hbox _ h rfl
        · exact absurd h (by rw [World.size_alloc]; omega)
      have ea : Ext (fun c => c ∈ σ.blocks A ∨ c ∈ ({ σ with O := O' } : St).blocks A ∨ c = ob) (w.alloc (.cells #[kI e.src, kI e.dst, .map (some e.att), .int .i64 e.wt, .nilIface] 97)) wc :=
        ((hE2.mono (fun _ _ h => Or.inl h)).trans (hEv.mono (fun _ _ h => Or.inr (Or.inl h)))).trans (hv4.mono (fun _ _ h => Or.inr (Or.inr h)))
      have hno : ¬ (w.heap.size ∈ σ.blocks A ∨ w.heap.size ∈ ({ σ with O := O' } : St).blocks A ∨ w.heap.size = ob) := by
        rintro (h | h | h)
        · exact hbox _ h rfl
        · exact hnb2 h
        · exact hw h.symm
      have b0 : wc.cell? ⟨w.heap.size, 0, none⟩ = some (kI e.src) := ea.cellv (by simp) hno
      have b1 : wc.cell? ⟨w.heap.size, 1, none⟩ = some (kI e.dst) := ea.cellv (by simp) hno
      have b2 : wc.cell? ⟨w.heap.size, 2, none⟩ = some (.map (some e.att)) := ea.cellv (by simp) hno
      have b3 : wc.cell? ⟨w.heap.size, 3, none⟩ = some (.int .i64 e.wt) := ea.cellv (by simp) hno
      have b4 : wc.cell? ⟨w.heap.size, 4, none⟩ = some .nilIface := ea.cellv (by simp) hno
      have c3w : wc.cell? ⟨A.s, 3, none⟩ = some (.map (some A.bi)) := hv4.cellv hSv.c3 nb.1.symm
      have him4 : MapI kI wc A.bi (I'.map fun o => (o.1, .map (some o.2))) := hSv.im.of_same (hsame _ nb.2.2.2.2.symm).symm
      have hin4 : MapI kI wc.drew ib (inOf σ.E e.dst) := ((hSv.ins _ hI).of_same (hsame _ (Ne.symm noi)).symm).drew
      have l1 := lookup_mem (f := fun v => .map (some v.2)) hSv.ikeys hI
      have hl : (Instr.lookup 105 (.map (some A.bi)) (.int .i64 e.dst) false).run Tryz.prog wc.drew = .ok (.map (some ib)) wc.drew := by
        rw [run_lookup (P := Tryz.prog) e.dst U105 K2 him4.drew (Z107 _), l1]; rfl
      have HF := Lib.hid (And.intro hSv (And.intro hEv (And.intro hBv (And.intro hv4 (And.intro hm4 (And.intro hsz4 (And.intro hsame ea)))))))
      clear hSv hEv hBv hv4 hm4 hsz4 hsame ea hno him4 l1
      go_upto_region 8 with (fail)
      go_still_tail 8, (by kernel_rfl)
      refine wpL_mapUpdate rfl rfl U107 K2 rfl rfl e.val rfl hin4 ?_
      intro w5 hm5 ho5
      clear hl b0 b1 b2 b3 b4 c3w hin4
      go_wp2
      go_ret
      obtain ⟨hSv, hEv, hBv, hv4, hm4, hsz4, hsame, ea⟩ := HF.out
      obtain ⟨h, hs, hd, hne, hat⟩ := H0.out
      have hz := HZ.out
      have hsz2 : w.heap.size + 1 ≤ w2.heap.size := by have := hE2.size; rwa [World.size_alloc] at this
      have lo : ∀ c, c < w.heap.size → c ∈ ({ σ with O := O' } : St).blocks A → c ∈ σ.blocks A := fun c hc hm => by
        rcases hB2 c hm with h | h
        · exact h
        · rw [World.size_alloc] at h; omega
      have li : ∀ c, c < w.heap.size → c ∈ ({ V := σ.V, E := σ.E, O := O', I := I' } : St).blocks A → c ∈ σ.blocks A := fun c hc hm => by
        rcases hBv c hm with h | h
        · exact lo c hc h
        · omega
      have hob : ob ∈ ({ σ with O := O' } : St).blocks A := St.mem_O (σ := { σ with O := O' }) hO
      have hibm : ib ∈ ({ V := σ.V, E := σ.E, O := O', I := I' } : St).blocks A := St.mem_I (σ := { V := σ.V, E := σ.E, O := O', I := I' }) hI
      have e2 : Ext (· ∈ σ.blocks A) w w5 := by
        refine Ext.only (w' := wc.drew) (Ext.drew ?_) ho5 (fun hlt => li _ hlt hibm)
        refine ((Ext.refl _ w).alloc _).then ea ?_
        rintro c hc (h | h | h)
        · exact h
        · exact lo c hc h
        · subst h; exact lo _ hc hob
      have halt : e.att < w.heap.size := (Array.getElem?_eq_some_iff.1 hat).1
      have hne' : ∀ e' ∈ σ.E, ¬ (e'.src = e.src ∧ e'.dst = e.dst) := hne
      have m1 : setA e.dst e.val (outOf σ.E e.src) = outOf (σ.E ++ [e]) e.src := by rw [setA_new (not_outOf hne'), outOf_snoc]
      have m2 : setA e.src e.val (inOf σ.E e.dst) = inOf (σ.E ++ [e]) e.dst := by rw [setA_new (not_inOf hne'), inOf_snoc]
      refine ⟨rfl, O', I', ?_, e2, ?_⟩
      · refine hSv.turnE hO hI (S := fun c => c = ob ∨ c = ib) (((hv4.mono (fun _ _ h => Or.inl h)).drew).only ho5 (fun _ => Or.inr rfl)) (fun _ _ h => h) ?_ ?_ (fun x hx => outOf_snoc_ne _ _ hx) (fun x hx => inOf_snoc_ne _ _ hx) ?_
        · rw [← m1]; exact ho5.mapI noi hm4.drew
        · rw [← m2]; exact hm5
        · intro e' he'
          rcases List.mem_append.1 he' with h1 | h1
          · exact Or.inl h1
          · simp only [List.mem_singleton] at h1
            subst h1
            exact Or.inr ⟨rfl, rfl, hs, hd, fun hm => ha (li _ halt hm), e2.obj hat ha⟩
      · intro c hc
        rcases hBv c hc with h | h
        · rcases hB2 c h with h | h
          · exact Or.inl h
          · rw [World.size_alloc] at h; exact Or.inr (by omega)
        · exact Or.inr (by omega)
end Go.Proofs.YtcenebjdhbdejaaGreatDoor
