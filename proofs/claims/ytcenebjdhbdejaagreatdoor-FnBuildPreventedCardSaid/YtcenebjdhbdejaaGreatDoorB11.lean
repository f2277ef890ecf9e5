/- The store's RemoveEdge, walked; what the deletes and the puts into the inner maps come to. The store's RemoveVertex, walked. -/
import Derived.Test.YtcenebjdhbdejaaGreatDoorB02
namespace Go.Proofs.YtcenebjdhbdejaaGreatDoor
open Go.MapKept

theorem delA_filter {k : Int} : ∀ {m : List (Int × Value)}, (m.map (·.1)).Nodup → delA k m = m.filter fun p => !(p.1 == k)
  | [], _ => rfl
  | p :: m, h => by
    simp only [List.map_cons, List.nodup_cons] at h
    by_cases hk : k = p.1
    · subst hk
      simp only [delA, if_true, List.filter_cons, beq_self_eq_true, Bool.not_true, Bool.false_eq_true, if_false]
      refine (List.filter_eq_self.2 fun q hq => ?_).symm
      have : q.1 ≠ p.1 := fun e => h.1 (List.mem_map.2 ⟨q, hq, e⟩)
      simpa using this
    · have : (p.1 == k) = false := by simpa using Ne.symm hk
      simp only [delA, hk, if_false, List.filter_cons, this, Bool.not_false, if_true, delA_filter h.2]

theorem setA_map {k : Int} {v : Value} : ∀ {m : List (Int × Value)}, (m.map (·.1)).Nodup → k ∈ m.map (·.1) → setA k v m = m.map fun p => if p.1 == k then (k, v) else p
  | [], _, h => by simp at h
  | p :: m, h, hm => by
    simp only [List.map_cons, List.nodup_cons] at h
    by_cases hk : k = p.1
    · subst hk
      simp only [setA, if_true, List.map_cons, beq_self_eq_true, List.cons.injEq, true_and]
      have : ∀ q ∈ m, (if q.1 == p.1 then (p.1, v) else q) = q := fun q hq => by
        have : q.1 ≠ p.1 := fun e => h.1 (List.mem_map.2 ⟨q, hq, e⟩)
        simp [this]
      rw [List.map_congr_left this, List.map_id']
    · have : (p.1 == k) = false := by simpa using Ne.symm hk
      have hm' : k ∈ m.map (·.1) := by
        rcases List.mem_cons.1 hm with h1 | h1
        · exact absurd h1 hk
        · exact h1
      simp only [setA, hk, if_false, List.map_cons, this, Bool.false_eq_true, setA_map h.2 hm']

/-- The list of edges, without those from a to b. -/
def cutE (E : List EdgeR) (a b : Int) : List EdgeR := E.filter fun e => !(e.src == a && e.dst == b)
/-- The list of edges, with e in the place of those with e's ends. -/
def putE (E : List EdgeR) (e : EdgeR) : List EdgeR := E.map fun x => if x.src == e.src && x.dst == e.dst then e else x

theorem outOf_cut (E : List EdgeR) (a b : Int) : outOf (cutE E a b) a = (outOf E a).filter fun p => !(p.1 == b) := by
  simp only [outOf, cutE, List.filter_filter, List.filter_map]
  congr 1
  refine List.filter_congr fun e _ => ?_
  cases h : e.src == a <;> simp
theorem inOf_cut (E : List EdgeR) (a b : Int) : inOf (cutE E a b) b = (inOf E b).filter fun p => !(p.1 == a) := by
  simp only [inOf, cutE, List.filter_filter, List.filter_map]
  congr 1
  refine List.filter_congr fun e _ => ?_
  cases h : e.dst == b <;> simp
theorem outOf_cut_ne (E : List EdgeR) {a b x : Int} (hx : x ≠ a) : outOf (cutE E a b) x = outOf E x := by
  simp only [outOf, cutE, List.filter_filter]
  congr 1
  refine List.filter_congr fun e _ => ?_
  by_cases h : e.src = x
  · have : e.src ≠ a := fun e' => hx (h ▸ e')
    simp [h, hx]
  · simp [h]
theorem inOf_cut_ne (E : List EdgeR) {a b x : Int} (hx : x ≠ b) : inOf (cutE E a b) x = inOf E x := by
  simp only [inOf, cutE, List.filter_filter]
  congr 1
  refine List.filter_congr fun e _ => ?_
  by_cases h : e.dst = x
  · simp [h, hx]
  · simp [h]

set_option maxRecDepth 100000 in
set_option maxHeartbeats 400000 in
theorem store_removeEdge {w : World} {A : Ad} {σ : St} {e : EdgeR} (h : Store w A σ) (he : e ∈ σ.E) :
    Calls Tryz.prog 150 #[.pointer (some ⟨A.s, 0, none⟩), kI e.src, kI e.dst] w fun r w' => r = .returned .nilIface ∧ Store w' A { σ with E := cutE σ.E e.src e.dst } ∧ Ext (· ∈ σ.blocks A) w w' := by
  obtain ⟨ob, ho⟩ := h.outk e he
  obtain ⟨ib, hi⟩ := h.ink e he
  have l1 := lookup_mem (f := fun v => .map (some v.2)) h.ikeys hi
  have l2 := lookup_mem (f := fun v => .map (some v.2)) h.okeys ho
  have hlt := h.lt
  have c2 := h.c2
  have c3 := h.c3
  have him := h.im
  have hom := h.om
  have hin := h.ins _ hi
  have hout := h.outs _ ho
  have nbo := h.ne_O ho
  have nbi := h.ne_I hi
  have noi := h.ne_OI ho hi
  go_enter Tryz.func150, Tryz.ntmps150
  have H := Lib.hid (And.intro h (And.intro ho (And.intro hi he)))
  clear h ho hi he
  go_wp2_with (first | (at_lookup; (refine wpL_lookup rfl rfl U105 K2 Z107 rfl rfl him ?_); rw [l1]) | (at_delete; (refine wpL_delete rfl rfl U107 K2 rfl rfl hin ?_); intro w1 hm1 ho1; have c2' : w1.cell? ⟨A.s, 2, none⟩ = some (.map (some A.bo)) := (by rw [ho1.cell _ (by simpa using nbi.1.symm)]; exact c2); have hom1 := ho1.mapI nbi.2.2.2.1.symm hom; have hout1 := ho1.mapI noi hout; have hlt1 : A.s < w1.heap.size := (by rw [ho1.size]; exact hlt); clear him hin hom hout l1 c3 c2) | (at_lookup; (refine wpL_lookup rfl rfl U105 K2 Z107 rfl rfl hom1 ?_); rw [l2]) | (at_delete; (refine wpL_delete rfl rfl U107 K2 rfl rfl hout1 ?_); intro w2 hm2 ho2))
  go_ret
  obtain ⟨h, ho, hi, he⟩ := H.out
  have m1 : MapI kI w2 ob (outOf (cutE σ.E e.src e.dst) e.src) := by
    rw [outOf_cut, ← delA_filter (h.outs _ ho).nodup]; exact hm2
  have m2 : MapI kI w2 ib (inOf (cutE σ.E e.src e.dst) e.dst) := by
    rw [inOf_cut, ← delA_filter (h.ins _ hi).nodup]; exact ho2.mapI noi.symm hm1
  refine ⟨rfl, ?_, ((Ext.refl _ w).only ho1 (fun _ => St.mem_I hi)).only ho2 (fun _ => St.mem_O ho)⟩
  exact h.turnE ho hi (S := fun c => c = ob ∨ c = ib) (((Ext.refl _ w).only ho1 (fun _ => Or.inr rfl)).only ho2 (fun _ => Or.inl rfl)) (fun _ _ h => h) m1 m2
    (fun x hx => outOf_cut_ne _ hx) (fun x hx => inOf_cut_ne _ hx) (fun e' he' => Or.inl (List.mem_filter.1 he').1)

theorem outOf_cons (x : EdgeR) (E : List EdgeR) (a : Int) : outOf (x :: E) a = if x.src = a then (x.dst, x.val) :: outOf E a else outOf E a := by
  by_cases h : x.src = a <;> simp [outOf, h]
theorem inOf_cons (x : EdgeR) (E : List EdgeR) (a : Int) : inOf (x :: E) a = if x.dst = a then (x.src, x.val) :: inOf E a else inOf E a := by
  by_cases h : x.dst = a <;> simp [inOf, h]
theorem putE_cons (x : EdgeR) (E : List EdgeR) (e : EdgeR) : putE (x :: E) e = (if x.src = e.src ∧ x.dst = e.dst then e else x) :: putE E e := by
  simp [putE]

theorem outOf_put (E : List EdgeR) (e : EdgeR) : outOf (putE E e) e.src = (outOf E e.src).map fun p => if p.1 == e.dst then (e.dst, e.val) else p := by
  induction E with
  | nil => rfl
  | cons x E ih =>
    rw [putE_cons, outOf_cons, outOf_cons, ih]
    by_cases h1 : x.src = e.src <;> by_cases h2 : x.dst = e.dst <;> simp [h1, h2]
theorem inOf_put (E : List EdgeR) (e : EdgeR) : inOf (putE E e) e.dst = (inOf E e.dst).map fun p => if p.1 == e.src then (e.src, e.val) else p := by
  induction E with
  | nil => rfl
  | cons x E ih =>
    rw [putE_cons, inOf_cons, inOf_cons, ih]
    by_cases h1 : x.src = e.src <;> by_cases h2 : x.dst = e.dst <;> simp [h1, h2]
theorem outOf_put_ne (E : List EdgeR) (e : EdgeR) {x : Int} (hx : x ≠ e.src) : outOf (putE E e) x = outOf E x := by
  induction E with
  | nil => rfl
  | cons y E ih =>
    rw [putE_cons, outOf_cons, outOf_cons, ih]
    by_cases h1 : y.src = e.src <;> by_cases h2 : y.dst = e.dst <;> simp [h1, h2, Ne.symm hx]
theorem inOf_put_ne (E : List EdgeR) (e : EdgeR) {x : Int} (hx : x ≠ e.dst) : inOf (putE E e) x = inOf E x := by
  induction E with
  | nil => rfl
  | cons y E ih =>
    rw [putE_cons, inOf_cons, inOf_cons, ih]
    by_cases h1 : y.src = e.src <;> by_cases h2 : y.dst = e.dst <;> simp [h1, h2, Ne.symm hx]

set_option maxRecDepth 100000 in
set_option maxHeartbeats 400000 in
/-- An edge e0 is there; UpdateEdge puts e in its place. -/
theorem store_updateEdge {w : World} {A : Ad} {σ : St} {e e0 : EdgeR} (h : Store w A σ) (he : e0 ∈ σ.E) (hs : e0.src = e.src) (hd : e0.dst = e.dst)
    (hat : w.heap[e.att]? = some (.map #[] 0)) (ha : e.att ∉ σ.blocks A) :
    Calls Tryz.prog 152 #[.pointer (some ⟨A.s, 0, none⟩), kI e.src, kI e.dst, e.val] w fun r w' => r = .returned .nilIface ∧ Store w' A { σ with E := putE σ.E e } ∧ Ext (· ∈ σ.blocks A) w w' := by
  obtain ⟨ob, ho⟩ := h.outk e0 he
  obtain ⟨ib, hi⟩ := h.ink e0 he
  rw [hs] at ho
  rw [hd] at hi
  have nbo := h.ne_O ho
  have nbi := h.ne_I hi
  have noi := h.ne_OI ho hi
  have hbl := h.blocks_lt
  have l1 := lookup_mem (f := fun v => .map (some v.2)) h.ikeys hi
  have l2 := lookup_mem (f := fun v => .map (some v.2)) h.okeys ho
  go_enter Tryz.func152, Tryz.ntmps152
  have H := Lib.hid (And.intro h (And.intro ho (And.intro hi (And.intro he (And.intro hs (And.intro hd (And.intro hat ha)))))))
  have h1 : Store (w.alloc (.cells #[kI e.src, kI e.dst, .map (some e.att), .int .i64 e.wt, .nilIface] 97)) A σ := h.ext ((Ext.refl No w).alloc _) (fun _ _ => id)
  have hce := edge_yes h1 he
  rw [hs, hd] at hce
  clear h ho hi hs hd hat ha
  go_wp2_with (first | (go_at_call 147; (refine hce.mono ?_); rintro r w1 ⟨hr, he1⟩; subst hr))
  have e2 := he1.alloc (.cells #[.int .i64 e0.src, .int .i64 e0.dst, .map (some e0.att), .int .i64 e0.wt, .nilIface] 97)
  revert e2
  generalize w1.alloc _ = wc
  intro e2
  have hS2 := h1.ext e2 (fun _ _ => id)
  have hbox : ∀ c ∈ σ.blocks A, w.heap.size = c → False := fun c hc e => by have := hbl c hc; omega
  have b0 : wc.cell? ⟨w.heap.size, 0, none⟩ = some (kI e.src) := e2.cellv (by simp) id
  have b1 : wc.cell? ⟨w.heap.size, 1, none⟩ = some (kI e.dst) := e2.cellv (by simp) id
  have b2 : wc.cell? ⟨w.heap.size, 2, none⟩ = some (.map (some e.att)) := e2.cellv (by simp) id
  have b3 : wc.cell? ⟨w.heap.size, 3, none⟩ = some (.int .i64 e.wt) := e2.cellv (by simp) id
  have b4 : wc.cell? ⟨w.heap.size, 4, none⟩ = some .nilIface := e2.cellv (by simp) id
  have c2' := hS2.c2
  have c3' := hS2.c3
  obtain ⟨h, ho, hi, -⟩ := H.out
  have hl : (Instr.lookup 105 (.map (some A.bo)) (.int .i64 e.src) false).run Tryz.prog wc.drew = .ok (.map (some ob)) wc.drew := by
    rw [run_lookup (P := Tryz.prog) e.src U105 K2 hS2.om.drew (Z107 _), l2]; rfl
  have hout := (hS2.outs _ ho).drew
  have him := hS2.im.drew
  have hin := (hS2.ins _ hi).drew
  have hw : ob ≠ w.heap.size := fun e' => hbox ob (St.mem_O ho) e'.symm
  have hwi : ib ≠ w.heap.size := fun e' => hbox ib (St.mem_I hi) e'.symm
  have HS2 := Lib.hid (And.intro hS2 e2)
  clear hS2 e2 h1 hce he1 hbl h ho hi
  go_upto_region 4 with (fail)
  go_still_tail 8, (by kernel_rfl)
  refine wpL_mapUpdate rfl rfl U107 K2 rfl rfl e.val rfl hout ?_
  intro w3 hm3 ho3
  have hi3 := ho3.mapI nbo.2.2.2.2.symm him
  have hin3 := ho3.mapI noi.symm hin
  have c3'' : w3.cell? ⟨A.s, 3, none⟩ = some (.map (some A.bi)) := by rw [ho3.cell _ (by simpa using nbo.1.symm)]; exact c3'
  have b0' : w3.cell? ⟨w.heap.size, 0, none⟩ = some (kI e.src) := by rw [ho3.cell _ (by simpa using hw.symm)]; exact b0
  have b1' : w3.cell? ⟨w.heap.size, 1, none⟩ = some (kI e.dst) := by rw [ho3.cell _ (by simpa using hw.symm)]; exact b1
  have b2' : w3.cell? ⟨w.heap.size, 2, none⟩ = some (.map (some e.att)) := by rw [ho3.cell _ (by simpa using hw.symm)]; exact b2
  have b3' : w3.cell? ⟨w.heap.size, 3, none⟩ = some (.int .i64 e.wt) := by rw [ho3.cell _ (by simpa using hw.symm)]; exact b3
  have b4' : w3.cell? ⟨w.heap.size, 4, none⟩ = some .nilIface := by rw [ho3.cell _ (by simpa using hw.symm)]; exact b4
  have hl : (Instr.lookup 105 (.map (some A.bi)) (.int .i64 e.dst) false).run Tryz.prog w3.drew = .ok (.map (some ib)) w3.drew := by
    rw [run_lookup (P := Tryz.prog) e.dst U105 K2 hi3.drew (Z107 _), l1]; rfl
  have hin4 := hin3.drew
  have HO3 := Lib.hid (And.intro hm3 ho3)
  clear b0 b1 b2 b3 b4 c2' c3' hout him hin hin3 hm3 ho3
  go_upto_region 5 with (fail)
  go_still_tail 8, (by kernel_rfl)
  refine wpL_mapUpdate rfl rfl U107 K2 rfl rfl e.val rfl hin4 ?_
  intro w5 hm5 ho5
  go_wp2
  go_ret
  obtain ⟨h, ho, hi, he, hs, hd, hat, ha⟩ := H.out
  obtain ⟨hS2, e2⟩ := HS2.out
  obtain ⟨hm3, ho3⟩ := HO3.out
  have ko : e.dst ∈ (outOf σ.E e.src).map (·.1) := by rw [← hs, ← hd]; exact List.mem_map.2 ⟨_, mem_outOf he, rfl⟩
  have ki : e.src ∈ (inOf σ.E e.dst).map (·.1) := by rw [← hs, ← hd]; exact List.mem_map.2 ⟨_, mem_inOf he, rfl⟩
  have m1 : MapI kI w5 ob (outOf (putE σ.E e) e.src) := by
    rw [outOf_put, ← setA_map (h.outs _ ho).nodup ko]; exact ho5.mapI noi hm3.drew
  have m2 : MapI kI w5 ib (inOf (putE σ.E e) e.dst) := by
    rw [inOf_put, ← setA_map (h.ins _ hi).nodup ki]; exact hm5
  have e5 : Ext (fun c => c = ob ∨ c = ib) wc w5 := ((((Ext.refl _ wc).drew).only ho3 (fun _ => Or.inl rfl)).drew).only ho5 (fun _ => Or.inr rfl)
  have ea : Ext (· ∈ σ.blocks A) w w5 := by
    refine (((Ext.refl _ w).alloc _).trans (e2.mono (fun _ _ h => h.elim))).trans (e5.mono ?_)
    rintro c - (rfl | rfl)
    · exact St.mem_O ho
    · exact St.mem_I hi
  obtain ⟨hv1, hv2⟩ := h.ends _ he
  rw [hs] at hv1
  rw [hd] at hv2
  refine ⟨rfl, ?_, ea⟩
  refine hS2.turnE ho hi e5 (fun _ _ h => h) m1 m2 (fun x hx => outOf_put_ne _ _ hx) (fun x hx => inOf_put_ne _ _ hx) (fun e' he' => ?_)
  obtain ⟨x, hx, rfl⟩ := List.mem_map.1 he'
  by_cases hc : (x.src == e.src && x.dst == e.dst) = true
  · simp only [hc, if_true]
    exact Or.inr ⟨trivial, trivial, hv1, hv2, ha, ea.obj hat ha⟩
  · simp only [hc]
    exact Or.inl hx
end Go.Proofs.YtcenebjdhbdejaaGreatDoor

namespace Go.Proofs.YtcenebjdhbdejaaGreatDoor
open Go.MapKept

def cutK {β : Type} (l : List (Int × β)) (k : Int) : List (Int × β) := l.filter fun v => !(v.1 == k)

theorem delA_map {β : Type} (f : Int × β → Value) {l : List (Int × β)} (hn : (l.map (·.1)).Nodup) (k : Int) : delA k (l.map fun v => (v.1, f v)) = (cutK l k).map fun v => (v.1, f v) := by
  rw [delA_filter (by rwa [keys_map f]), List.filter_map]; rfl

theorem cutK_sub {β : Type} {l : List (Int × β)} {k : Int} : (cutK l k).Sublist l := List.filter_sublist
theorem mem_cutK {β : Type} {l : List (Int × β)} {k : Int} {o : Int × β} : o ∈ cutK l k ↔ o ∈ l ∧ o.1 ≠ k := by simp [cutK]

theorem Store.dropI {w w' : World} {A : Ad} {σ : St} {k : Int} (h : Store w A σ) (hE : ∀ e ∈ σ.E, e.dst ≠ k)
    (hm : MapI kI w' A.bi (delA k (σ.I.map fun o => (o.1, .map (some o.2))))) (ho : Only A.bi w w') : Store w' A { σ with I := cutK σ.I k } := by
  obtain ⟨-, -, -, a4, -, -, a7, -, a9, a10⟩ := h.ne
  have ni : ∀ o ∈ σ.I, o.2 ≠ A.bi := fun o hx => (h.ne_I (x := o.1) hx).2.2.2.2
  have no : ∀ o ∈ σ.O, o.2 ≠ A.bi := fun o hx => (h.ne_O (x := o.1) hx).2.2.2.2
  rw [delA_map (fun v => .map (some v.2)) h.ikeys] at hm
  have hsub : (({ σ with I := cutK σ.I k } : St).blocks A).Sublist (σ.blocks A) := by
    simp only [St.blocks]
    exact ((((((List.Sublist.refl _).append (cutK_sub.map _)).cons_cons _).cons_cons _).cons_cons _).cons_cons _).cons_cons _
  refine ⟨by rw [ho.other _ a4]; exact h.row, ho.mapI a7 h.vm, ho.mapI a9 h.pm, ho.mapI a10 h.om, hm, fun o hx => ho.mapI (no o hx) (h.outs o hx),
    fun o hx => ho.mapI (ni o (cutK_sub.subset hx)) (h.ins o (cutK_sub.subset hx)), h.outk, fun e he => ?_, h.ends, fun b hb => ?_, h.nd.sublist hsub, fun b hb hm => h.apart b hb (hsub.subset hm)⟩
  · obtain ⟨b, hb⟩ := h.ink e he
    exact ⟨b, mem_cutK.2 ⟨hb, hE e he⟩⟩
  · rw [ho.other _ (fun e => h.apart b hb (by rw [e]; simp [St.blocks]))]; exact h.att b hb

theorem Store.dropO {w w' : World} {A : Ad} {σ : St} {k : Int} (h : Store w A σ) (hE : ∀ e ∈ σ.E, e.src ≠ k)
    (hm : MapI kI w' A.bo (delA k (σ.O.map fun o => (o.1, .map (some o.2))))) (ho : Only A.bo w w') : Store w' A { σ with O := cutK σ.O k } := by
  obtain ⟨-, -, a3, -, -, a6, -, a8, -, a10⟩ := h.ne
  have ni : ∀ o ∈ σ.I, o.2 ≠ A.bo := fun o hx => (h.ne_I (x := o.1) hx).2.2.2.1
  have no : ∀ o ∈ σ.O, o.2 ≠ A.bo := fun o hx => (h.ne_O (x := o.1) hx).2.2.2.1
  rw [delA_map (fun v => .map (some v.2)) h.okeys] at hm
  have hsub : (({ σ with O := cutK σ.O k } : St).blocks A).Sublist (σ.blocks A) := by
    simp only [St.blocks]
    exact ((((((cutK_sub.map _).append (List.Sublist.refl _)).cons_cons _).cons_cons _).cons_cons _).cons_cons _).cons_cons _
  refine ⟨by rw [ho.other _ a3]; exact h.row, ho.mapI a6 h.vm, ho.mapI a8 h.pm, hm, ho.mapI a10.symm h.im, fun o hx => ho.mapI (no o (cutK_sub.subset hx)) (h.outs o (cutK_sub.subset hx)),
    fun o hx => ho.mapI (ni o hx) (h.ins o hx), fun e he => ?_, h.ink, h.ends, fun b hb => ?_, h.nd.sublist hsub, fun b hb hm => h.apart b hb (hsub.subset hm)⟩
  · obtain ⟨b, hb⟩ := h.outk e he
    exact ⟨b, mem_cutK.2 ⟨hb, hE e he⟩⟩
  · rw [ho.other _ (fun e => h.apart b hb (by rw [e]; simp [St.blocks]))]; exact h.att b hb

theorem Store.dropV {w w' w'' : World} {A : Ad} {σ : St} {k : Int} (h : Store w A σ) (hE : ∀ e ∈ σ.E, e.src ≠ k ∧ e.dst ≠ k)
    (hv : MapI kI w' A.bv (delA k (σ.V.map fun v => (v.1, kI v.1)))) (ho : Only A.bv w w')
    (hp : MapI kI w'' A.bp (delA k (σ.V.map fun v => (v.1, vp v.2)))) (ho' : Only A.bp w' w'') : Store w'' A { σ with V := cutK σ.V k } := by
  obtain ⟨a1, a2, a3, a4, a5, a6, a7, a8, a9, a10⟩ := h.ne
  have ni : ∀ o ∈ σ.I, o.2 ≠ A.bv ∧ o.2 ≠ A.bp := fun o hx => ⟨(h.ne_I (x := o.1) hx).2.1, (h.ne_I (x := o.1) hx).2.2.1⟩
  have no : ∀ o ∈ σ.O, o.2 ≠ A.bv ∧ o.2 ≠ A.bp := fun o hx => ⟨(h.ne_O (x := o.1) hx).2.1, (h.ne_O (x := o.1) hx).2.2.1⟩
  rw [delA_map (fun v => kI v.1) h.keys] at hv
  rw [delA_map (fun v => vp v.2) h.keys] at hp
  have hatts : ∀ b, b ∈ ({ σ with V := cutK σ.V k } : St).atts → b ∈ σ.atts := fun b hb => by
    simp only [St.atts, List.mem_append, List.mem_map] at hb ⊢
    rcases hb with ⟨o, ho, rfl⟩ | hb
    · exact Or.inl ⟨o, cutK_sub.subset ho, rfl⟩
    · exact Or.inr hb
  refine ⟨by rw [ho'.other _ a2, ho.other _ a1]; exact h.row, ho'.mapI a5 hv, hp, ho'.mapI a8.symm (ho.mapI a6.symm h.om), ho'.mapI a9.symm (ho.mapI a7.symm h.im),
    fun o hx => ho'.mapI (no o hx).2 (ho.mapI (no o hx).1 (h.outs o hx)), fun o hx => ho'.mapI (ni o hx).2 (ho.mapI (ni o hx).1 (h.ins o hx)), h.outk, h.ink, fun e he => ?_, fun b hb => ?_, h.nd, fun b hb => h.apart b (hatts b hb)⟩
  · obtain ⟨⟨n, h1⟩, m, h2⟩ := h.ends e he
    exact ⟨⟨n, mem_cutK.2 ⟨h1, (hE e he).1⟩⟩, m, mem_cutK.2 ⟨h2, (hE e he).2⟩⟩
  · have hb' := hatts b hb
    rw [ho'.other _ (fun e => h.apart b hb' (by rw [e]; simp [St.blocks])), ho.other _ (fun e => h.apart b hb' (by rw [e]; simp [St.blocks]))]; exact h.att b hb'

set_option maxRecDepth 100000 in
set_option maxHeartbeats 400000 in
theorem store_removeVertex_no {w : World} {A : Ad} {σ : St} {k : Int} {p : Nat → Addr} (h : Store w A σ) (hp : Sent w p) (hk : ∀ a, (k, a) ∉ σ.V) :
    Calls Tryz.prog 151 #[.pointer (some ⟨A.s, 0, none⟩), kI k] w fun r w' => r = .returned (errv p 1) ∧ Ext No w w' := by
  have lv := lookup_not (f := fun v => kI v.1) hk
  have hlt := h.lt
  have c0 := h.c0
  have g1 := hp.c1
  have hl1 : 1 < w.heap.size := World.block_lt_of_cell? w _ hp.c1
  have hvm := h.vm
  go_enter Tryz.func151, Tryz.ntmps151
  clear h hp hk
  go_wp2_with (first | (at_lookup; (refine wpL_lookup_ok rfl rfl U146 K2 Z2 rfl rfl hvm ?_); rw [lv]))
  go_ret
  exact ⟨rfl, Ext.refl _ _⟩

theorem inOf_empty {E : List EdgeR} {k : Int} (h : ∀ e ∈ E, e.dst ≠ k) : inOf E k = [] := by
  simp only [inOf, List.map_eq_nil_iff, List.filter_eq_nil_iff]
  intro e he hc
  exact h e he (by simpa using hc)
theorem outOf_empty {E : List EdgeR} {k : Int} (h : ∀ e ∈ E, e.src ≠ k) : outOf E k = [] := by
  simp only [outOf, List.map_eq_nil_iff, List.filter_eq_nil_iff]
  intro e he hc
  exact h e he (by simpa using hc)

set_option maxRecDepth 100000 in
set_option maxHeartbeats 400000 in
theorem store_removeVertex_in {w : World} {A : Ad} {σ : St} {k : Int} {p : Nat → Addr} (h : Store w A σ) (hp : Sent w p) (hk : ∃ a, (k, a) ∈ σ.V) (he : ∃ e ∈ σ.E, e.dst = k) :
    Calls Tryz.prog 151 #[.pointer (some ⟨A.s, 0, none⟩), kI k] w fun r w' => r = .returned (errv p 2) ∧ Ext No w w' := by
  obtain ⟨a, hk⟩ := hk
  obtain ⟨e, he, rfl⟩ := he
  obtain ⟨ib, hi⟩ := h.ink e he
  have lv := lookup_mem (f := fun v => kI v.1) h.keys hk
  have l1 := lookup_mem (f := fun v => .map (some v.2)) h.ikeys hi
  have hlen : (0 : Int) < ((inOf σ.E e.dst).length : Int) := by
    have : 0 < (inOf σ.E e.dst).length := List.length_pos_of_mem (mem_inOf he)
    omega
  have hlt := h.lt
  have c0 := h.c0
  have c3 := h.c3
  have g2 := hp.c2
  have hl2 : 2 < w.heap.size := World.block_lt_of_cell? w _ hp.c2
  have hvm := h.vm
  have him := h.im
  have hin := h.ins _ hi
  go_enter Tryz.func151, Tryz.ntmps151
  clear h hp hk he
  go_wp2_with (first | (at_lookup; (refine wpL_lookup_ok rfl rfl U146 K2 Z2 rfl rfl hvm ?_); rw [lv]) | (at_lookup; (refine wpL_lookup_ok rfl rfl U105 K2 Z107 rfl rfl him ?_); rw [l1]) | (at_len; (refine wpL_len rfl rfl U107 rfl hin ?_)))
  go_ret
  exact ⟨rfl, Ext.refl _ _⟩

/-- Behind the first half of RemoveVertex: no inner map for the edges that come to k. -/
def NoIn (A : Ad) (σ : St) (k : Int) (w wc : World) : Prop := Store wc A { σ with I := cutK σ.I k } ∧ Ext (· ∈ σ.blocks A) w wc

theorem cutK_self {β : Type} {l : List (Int × β)} {k : Int} (h : ∀ b, (k, b) ∉ l) : cutK l k = l := by
  refine List.filter_eq_self.2 fun o ho => ?_
  have : o.1 ≠ k := fun e => h o.2 (e ▸ ho)
  simpa using this

/-- What RemoveVertex leaves of a store. -/
def GoneV (A : Ad) (σ : St) (k : Int) (w w' : World) : Prop :=
  Store w' A { V := cutK σ.V k, E := σ.E, O := cutK σ.O k, I := cutK σ.I k } ∧ Ext (· ∈ σ.blocks A) w w'

set_option maxRecDepth 100000 in
set_option maxHeartbeats 400000 in
theorem store_removeVertex_yes {w : World} {A : Ad} {σ : St} {k : Int} (h : Store w A σ) (hk : ∃ a, (k, a) ∈ σ.V) (he : ∀ e ∈ σ.E, e.src ≠ k ∧ e.dst ≠ k) :
    Calls Tryz.prog 151 #[.pointer (some ⟨A.s, 0, none⟩), kI k] w fun r w' => r = .returned .nilIface ∧ GoneV A σ k w w' := by
  obtain ⟨a, hk⟩ := hk
  have lv := lookup_mem (f := fun v => kI v.1) h.keys hk
  have hlt := h.lt
  have c0 := h.c0
  have c3 := h.c3
  have hvm := h.vm
  have him := h.im
  go_enter Tryz.func151, Tryz.ntmps151
  have H := Lib.hid h
  have hne := h.ne
  have hi0 := inOf_empty (E := σ.E) (k := k) (fun e x => (he e x).2)
  have ho0 := outOf_empty (E := σ.E) (k := k) (fun e x => (he e x).1)
  clear h hk
  go_upto_if 32 with (first | (at_lookup; (refine wpL_lookup_ok rfl rfl U146 K2 Z2 rfl rfl hvm ?_); rw [lv]) | (at_lookup; (refine wpL_lookup_ok rfl rfl U105 K2 Z107 rfl rfl him ?_)))
  go_cut [7, 8] (fun _ _ wc => NoIn A σ k w wc)
  case first =>
    by_cases hk : ∃ ib, (k, ib) ∈ σ.I
    · obtain ⟨ib, hb⟩ := hk
      have l1 := lookup_mem (f := fun v => .map (some v.2)) H.out.ikeys hb
      have hin := H.out.ins _ hb
      rw [hi0] at hin
      rw [l1]
      go_wp2_with (first | (at_len; (refine wpL_len rfl rfl U107 rfl hin ?_)) | (at_delete; (refine wpL_delete rfl rfl U105 K2 rfl rfl him ?_); intro w1 hm1 ho1))
      go_meet
      case rel => exact ⟨H.out.dropI (fun e x => (he e x).2) hm1 ho1, (Ext.refl _ w).only ho1 (fun _ => by simp [St.blocks])⟩
    · have l1 := lookup_not (f := fun v => .map (some v.2)) (fun b hb => hk ⟨b, hb⟩)
      rw [l1]
      go_wp2
      go_meet
      case rel => exact ⟨by rw [cutK_self (fun b hb => hk ⟨b, hb⟩)]; exact H.out, Ext.refl _ _⟩
  case rest =>
    obtain ⟨hS, hE⟩ := hcut
    have c2 := hS.c2
    have c0' := hS.c0
    have c1 := hS.c1
    have hlt1 := hS.lt
    have hom := hS.om
    have HS := Lib.hid (And.intro hS hE)
    clear hS hE him hvm c0 c3 lv
    go_upto_if 51 with (first | (at_lookup; (refine wpL_lookup_ok rfl rfl U105 K2 Z107 rfl rfl hom ?_)))
    obtain ⟨w2, rfl⟩ : ∃ w2 : World, w2 = wc := ⟨_, rfl⟩
    go_cut [9, 10] (fun _ _ wd => Store wd A { V := σ.V, E := σ.E, O := cutK σ.O k, I := cutK σ.I k } ∧ Ext (· ∈ σ.blocks A) w2 wd)
    case first =>
      by_cases hk : ∃ ob, (k, ob) ∈ σ.O
      · obtain ⟨ob, hb⟩ := hk
        have l1 := lookup_mem (f := fun v => .map (some v.2)) H.out.okeys hb
        have hout := HS.out.1.outs _ hb
        rw [show outOf ({ V := σ.V, E := σ.E, O := σ.O, I := cutK σ.I k } : St).E (k, ob).1 = [] from ho0] at hout
        rw [l1]
        go_wp2_with (first | (at_len; (refine wpL_len rfl rfl U107 rfl hout ?_)) | (at_delete; (refine wpL_delete rfl rfl U105 K2 rfl rfl hom ?_); intro w1 hm1 ho1))
        go_meet
        case rel => exact ⟨HS.out.1.dropO (fun e x => (he e x).1) hm1 ho1, (Ext.refl _ w2).only ho1 (fun _ => by simp [St.blocks])⟩
      · have l1 := lookup_not (f := fun v => .map (some v.2)) (fun b hb => hk ⟨b, hb⟩)
        rw [l1]
        go_wp2
        go_meet
        case rel => exact ⟨by have := HS.out.1; rw [cutK_self (fun b hb => hk ⟨b, hb⟩)]; exact this, Ext.refl _ _⟩
    case rest =>
      obtain ⟨hT, hE2⟩ := hcut
      have d0 := hT.c0
      have d1 := hT.c1
      have hlt2 := hT.lt
      have hvm2 := hT.vm
      have hpm2 := hT.pm
      have HT := Lib.hid (And.intro hT hE2)
      clear hT hE2 c2 c0' c1 hom
      go_wp2_with (first | (at_delete; (refine wpL_delete rfl rfl U146 K2 rfl rfl hvm2 ?_); intro w3 hm3 ho3; have d1' : w3.cell? ⟨A.s, 1, none⟩ = some (.map (some A.bp)) := (by rw [ho3.cell _ (by simpa using hne.1)]; exact d1); have hpm3 := ho3.mapI hne.2.2.2.2.1.symm hpm2; have hlt3 : A.s < w3.heap.size := (by rw [ho3.size]; exact hlt2); clear d0 d1 hvm2 hpm2) | (at_delete; (refine wpL_delete rfl rfl U147 K2 rfl rfl hpm3 ?_); intro w4 hm4 ho4))
      go_ret
      obtain ⟨hT, hE2⟩ := HT.out
      obtain ⟨hS, hE⟩ := HS.out
      refine ⟨rfl, hT.dropV he hm3 ho3 hm4 ho4, ?_⟩
      exact ((hE.trans hE2).only ho3 (fun _ => by simp [St.blocks])).only ho4 (fun _ => by simp [St.blocks])

set_option maxRecDepth 100000 in
set_option maxHeartbeats 400000 in
theorem store_removeVertex_out {w : World} {A : Ad} {σ : St} {k : Int} {p : Nat → Addr} (h : Store w A σ) (hp : Sent w p) (h0 : A.bi ≠ 2) (hk : ∃ a, (k, a) ∈ σ.V) (hd : ∀ e ∈ σ.E, e.dst ≠ k) (he : ∃ e ∈ σ.E, e.src = k) :
    Calls Tryz.prog 151 #[.pointer (some ⟨A.s, 0, none⟩), kI k] w fun r w' => r = .returned (errv p 2) ∧ Store w' A { σ with I := cutK σ.I k } ∧ Ext (· ∈ σ.blocks A) w w' := by
  obtain ⟨a, hk⟩ := hk
  obtain ⟨e, he, rfl⟩ := he
  obtain ⟨ob, ho⟩ := h.outk e he
  have lv := lookup_mem (f := fun v => kI v.1) h.keys hk
  have l2 := lookup_mem (f := fun v => .map (some v.2)) h.okeys ho
  have hlen : (0 : Int) < ((outOf σ.E e.src).length : Int) := by
    have : 0 < (outOf σ.E e.src).length := List.length_pos_of_mem (mem_outOf he)
    omega
  have hlt := h.lt
  have c0 := h.c0
  have c3 := h.c3
  have hvm := h.vm
  have him := h.im
  have g2 := hp.c2
  have hl2 : 2 < w.heap.size := World.block_lt_of_cell? w _ hp.c2
  go_enter Tryz.func151, Tryz.ntmps151
  have H := Lib.hid h
  have hi0 := inOf_empty (E := σ.E) (k := e.src) hd
  clear h hk hp
  go_upto_if 32 with (first | (at_lookup; (refine wpL_lookup_ok rfl rfl U146 K2 Z2 rfl rfl hvm ?_); rw [lv]) | (at_lookup; (refine wpL_lookup_ok rfl rfl U105 K2 Z107 rfl rfl him ?_)))
  go_cut [7, 8] (fun _ _ wc => NoIn A σ e.src w wc ∧ wc.cell? ⟨2, 0, none⟩ = some (errv p 2))
  case first =>
    by_cases hk : ∃ ib, (e.src, ib) ∈ σ.I
    · obtain ⟨ib, hb⟩ := hk
      have l1 := lookup_mem (f := fun v => .map (some v.2)) H.out.ikeys hb
      have hin := H.out.ins _ hb
      rw [hi0] at hin
      rw [l1]
      go_wp2_with (first | (at_len; (refine wpL_len rfl rfl U107 rfl hin ?_)) | (at_delete; (refine wpL_delete rfl rfl U105 K2 rfl rfl him ?_); intro w1 hm1 ho1))
      go_meet
      case rel => exact ⟨⟨H.out.dropI hd hm1 ho1, (Ext.refl _ w).only ho1 (fun _ => by simp [St.blocks])⟩, by rw [ho1.cell _ (Ne.symm h0)]; exact g2⟩
    · have l1 := lookup_not (f := fun v => .map (some v.2)) (fun b hb => hk ⟨b, hb⟩)
      rw [l1]
      go_wp2
      go_meet
      case rel => exact ⟨⟨by rw [cutK_self (fun b hb => hk ⟨b, hb⟩)]; exact H.out, Ext.refl _ _⟩, g2⟩
  case rest =>
    obtain ⟨⟨hS, hE⟩, g2'⟩ := hcut
    have c2 := hS.c2
    have hlt1 := hS.lt
    have hom := hS.om
    have hl2' : 2 < wc.heap.size := World.block_lt_of_cell? _ _ g2'
    have hout := hS.outs _ ho
    have HS := Lib.hid (And.intro hS hE)
    clear hS hE him hvm c0 c3 lv g2
    go_wp2_with (first | (at_lookup; (refine wpL_lookup_ok rfl rfl U105 K2 Z107 rfl rfl hom ?_); rw [l2]) | (at_len; (refine wpL_len rfl rfl U107 rfl hout ?_)))
    go_ret
    exact ⟨rfl, HS.out⟩
end Go.Proofs.YtcenebjdhbdejaaGreatDoor
