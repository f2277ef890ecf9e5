/- FnBuildOrder, walked. -/
import Derived.Test.YtcenebjdhbdejaaGreatDoorL4
import Derived.Test.YtcenebjdhbdejaaGreatDoorG1
import Derived.Test.YtcenebjdhbdejaaGreatDoorP6
import Derived.Test.YtcenebjdhbdejaaGreatDoorK0
namespace Go.Proofs.YtcenebjdhbdejaaGreatDoor
open Go.MapKept

theorem U22 : Tryz.prog.underlying 22 = some (.slice 35) := by kernel_rfl
theorem I35 : (Tryz.prog.info? 35).map (fun i => (i.zero, i.size, i.bytes)) = some (some (.agg #[.int .u8 0, .int .i64 0, .int .i64 0, .int .i64 0]), 4, 32) := by kernel_rfl

/-- one element more, of a slice of the call's own that may be long -/
theorem wpL_append1L {P : Program} {β : Type} {ops : Array Oper} {rest : List Oper} {o : Oper} {a : Act} {w : World} {Q : Exit → Act → World → Prop} (hgd : o.guard = none) {s x : Operand} {t : TypeId}
    (ho : o.op = .call { callee := .builtin .append, args := #[s, x], argTypes := #[t, t] })
    {B : Nat} {e : TypeId} {z : Value} {size bytes : Nat} (ht : P.underlying t = some (.slice e)) (hi : (P.info? e).map (fun i => (i.zero, i.size, i.bytes)) = some (some z, size, bytes))
    (hzs : z.cells.size = size) (hsz : 0 < size) (hby : bytes ≤ 1000) {f : β → List Value} (hf : ∀ y, (f y).length = size) (hf1 : ∀ y, ∀ u ∈ f y, u.oneCell' = true)
    {v : Value} {xs : List β} (hs : a.eval s = v) (hown : w.ownsRow B e size v xs.length (xs.flatMap f))
    {b : Nat} (y : β) (hx : a.eval x = .slice (some ⟨b, 0, none⟩) 1 1) (hc : ∃ T fr, w.heap[b]? = some (.cells (f y).toArray T fr)) (hlen : xs.length < 68719476736) (hB : B ≤ w.heap.size)
    (h : ∀ v' w', w'.ownsRow B e size v' (xs ++ [y]).length ((xs ++ [y]).flatMap f) → Ext (fun c => some c = v.ownBlock) w w' → wpList P ops Q rest (a.put o.dst v') w') : wpList P ops Q (o :: rest) a w := by
  obtain ⟨i, hi1, hi2⟩ := Option.map_eq_some_iff.1 hi
  simp only [Prod.mk.injEq] at hi2
  obtain ⟨T, fr, hc⟩ := hc
  refine wpList_append_own w hgd s x t ho B e i z size bytes ht hi1 hi2.1 hi2.2.1 hi2.2.2 hzs hsz v xs.length (xs.flatMap f) hs hown ⟨b, 0, none⟩ 1 1 (f y) hx (by rw [hf]; omega) ?_ (hf1 y) (by unfold maxLen; omega) (Nat.le_trans (Nat.mul_le_mul (show xs.length + 1 ≤ 68719476736 by omega) hby) (by decide)) hB ?_
  · intro j u hj
    have hadd : (⟨b, 0, none⟩ : Addr).add j = ⟨b, j, none⟩ := by unfold Addr.add; split <;> simp_all
    rw [hadd, World.cell?]
    simp only [hc]
    simpa using hj
  · intro v' w' h1 h2 _
    refine h v' w' ?_ ((Ext.refl _ w).grown h2 (fun c hc _ => hc.symm))
    have e1 : (xs ++ [y]).length = xs.length + 1 := by simp
    have e2 : (xs ++ [y]).flatMap f = xs.flatMap f ++ f y := by simp
    rw [e1, e2]; exact h1

theorem do_step {w : World} {N mm : Nat} {dir : Bool} {s : PS} {vs es : Value} {x : Stp} (hx : x.op = 0 ∨ x.op = 2) (h : Mo w N mm dir false s vs es) (hN : N ≤ w.heap.size) (hl : s.V.length + s.E.length < 900000) :
    Calls Tryz.prog 14 #[.pointer (some ⟨mm, 0, none⟩), x.val] w (DoPost dir false N mm (DoS dir x s) w) := by
  obtain ⟨op, a, b, wt⟩ := x
  rcases hx with hx | hx
  · simp only at hx
    subst hx
    refine (do_av h hN hl).mono ?_
    rintro r w' ⟨s', sp, v1, v2, ks, xs, h1, h2, h3⟩
    exact ⟨s', sp, v1, v2, ks, xs, h1, by simpa [DoS] using h2, h3⟩
  · simp only at hx
    subst hx
    refine (do_ae h hN hl).mono ?_
    rintro r w' ⟨s', sp, v1, v2, ks, xs, h1, h2, h3⟩
    exact ⟨s', sp, v1, v2, ks, xs, h1, by simpa [DoS] using h2, h3⟩

/-- the weights of edges that are gone through -/
def inW (e : Tri) : Prop := -1099511627776 ≤ e.2.2 ∧ e.2.2 ≤ 1099511627776

/-- a round over the vertices -/
def OV (w : World) (B : Nat) (V : List Int) (k : Nat) (sv iv : Value) (wr : World) : Prop :=
  ∃ i : Nat, iv = .int .i64 i ∧ i + k = V.length ∧ wr.ownsRow B 35 4 sv ((V.take i).map avS).length (((V.take i).map avS).flatMap Stp.c) ∧ Ext No w wr
/-- a round over the edges -/
def OE (w : World) (B : Nat) (V : List Int) (E : List Tri) (k : Nat) (sv iv : Value) (wr : World) : Prop :=
  ∃ i : Nat, iv = .int .i64 i ∧ i + k = E.length ∧ wr.ownsRow B 35 4 sv (stepsOf V (E.take i)).length ((stepsOf V (E.take i)).flatMap Stp.c) ∧ Ext No w wr

/-- a round of the model's steps -/
def OD (w3 : World) (d : Bool) (mm : Nat) (S : List Stp) (sv : Value) (B : Nat) (k : Nat) (iv : Value) (wr : World) : Prop :=
  ∃ (i : Nat) (s : PS) (sps : List SP) (vs' es' : Value), iv = .int .i64 i ∧ i + k = S.length ∧ Chain (DoS d) (S.take i) ⟨[], []⟩ s sps ∧ (∀ sp ∈ sps, sp.er = 0) ∧ s.V.length + s.E.length ≤ i ∧
    Mo wr w3.heap.size mm d false s vs' es' ∧ wr.ownsRow B 35 4 sv S.length (S.flatMap Stp.c) ∧ Ext (fun c => c = mm) w3 wr

theorem own_mm {w w' : World} {mm B size n : Nat} {e : TypeId} {v : Value} {xs : List Value} {cs : Array Value} {fr : Nat × Nat} {T : TypeId} (h : w.ownsRow B e size v n xs) (hm : w.heap[mm]? = some (.cells cs T fr)) (hne : T ≠ e) (he : Ext (fun c => c = mm) w w') : w'.ownsRow B e size v n xs :=
  ownsRow_ext h he (fun c hc e => row_ne hm h hne (by rw [hc, e]))

theorem field0 (er a b wt : Int) (ks es : Value) (W : World) : (Instr.field 41 (saidV er a b wt ks es) 0).run Tryz.prog W = .ok (.int .u8 er) W := by kernel_rfl

/-- the other list, behind j of the parts -/
def otherOf (V : List Int) (E : List Tri) (t : Nat) : Nat → List Stp
  | 0 => []
  | 1 => rotN (V.map avS) t V.length
  | _ => rotN (V.map avS) t V.length ++ rotN (E.map aeS) t E.length

/-- a round over the parts -/
def OP (W4 : World) (V : List Int) (E : List Tri) (t : Nat) (k : Nat) (ov iv : Value) (wr : World) : Prop :=
  ∃ j : Nat, iv = .int .i64 j ∧ j + k = 2 ∧ wr.ownsRow W4.heap.size 35 4 ov (otherOf V E t j).length ((otherOf V E t j).flatMap Stp.c) ∧ Ext No W4 wr
/-- a round over a part -/
def OQ (W4 : World) (L P : List Stp) (t : Nat) (k : Nat) (ov iv : Value) (wr : World) : Prop :=
  ∃ i : Nat, iv = .int .i64 i ∧ i + k = P.length ∧ wr.ownsRow W4.heap.size 35 4 ov (L ++ rotN P t i).length ((L ++ rotN P t i).flatMap Stp.c) ∧ Ext No W4 wr

theorem rotN_len {α : Type} (P : List α) (t i : Nat) : (rotN P t i).length ≤ i := by
  unfold rotN
  exact Nat.le_trans (List.length_filterMap_le _ _) (by simp)

theorem otherOf_len (V : List Int) (E : List Tri) (t j : Nat) : (otherOf V E t j).length ≤ V.length + E.length := by
  have h1 := rotN_len (V.map avS) t V.length
  have h2 := rotN_len (E.map aeS) t E.length
  match j with
  | 0 => simp [otherOf]
  | 1 => simp only [otherOf]; omega
  | j + 2 => simp only [otherOf, List.length_append]; omega

theorem RdG.take {β : Type} {w : World} {q : Option Addr} {n c k : Nat} {xs : List β} {f : β → List Value} (h : RdG w (.slice q n c) xs f) (hk : k ≤ xs.length) : RdG w (.slice q k c) (xs.take k) f := by
  obtain ⟨q', c', hv, hr⟩ := h
  simp only [Value.slice.injEq] at hv
  obtain ⟨rfl, -, rfl⟩ := hv
  refine ⟨q, c, by rw [List.length_take, Nat.min_eq_left hk], ?_⟩
  rcases hr with rfl | ⟨b, o, rfl, hb, hc⟩
  · exact Or.inl (by simp)
  · refine Or.inr ⟨b, o, rfl, hb, fun j x hx => hc j x ?_⟩
    have : xs.flatMap f = (xs.take k).flatMap f ++ (xs.drop k).flatMap f := by rw [← List.flatMap_append, List.take_append_drop]
    rw [this, List.getElem?_append_left (List.getElem?_eq_some_iff.1 hx).1]
    exact hx

/-- the two parts, in memory -/
structure Parts (W4 : World) (V : List Int) (E : List Tri) (n : Nat) (q : Option Addr) (c : Nat) (q' : Option Addr) (c' : Nat) : Prop where
  row : W4.heap[n]? = some (.cells #[.slice q V.length c, .slice q' E.length c'] 22 (0, 0))
  rd : RdG W4 (.slice q V.length c) (V.map avS) Stp.c
  rd' : RdG W4 (.slice q' E.length c') (E.map aeS) Stp.c

theorem Parts.pick {W4 wr : World} {V : List Int} {E : List Tri} {n : Nat} {q : Option Addr} {c : Nat} {q' : Option Addr} {c' : Nat} {t : Nat} (h : Parts W4 V E n q c q' c') (he : Ext No W4 wr) {j : Nat} (hj : j < 2) :
    ∃ (u : Option Addr) (d : Nat) (P : List Stp), wr.cell? ⟨n, j, none⟩ = some (.slice u P.length d) ∧ n < wr.heap.size ∧ RdG W4 (.slice u P.length d) P Stp.c ∧ otherOf V E t (j + 1) = otherOf V E t j ++ rotN P t P.length ∧ P.length ≤ V.length + E.length := by
  have hrow := he.obj h.row id
  have hn := (Array.getElem?_eq_some_iff.1 hrow).1
  match j, hj with
  | 0, _ => exact ⟨q, c, V.map avS, by rw [List.length_map]; simp [World.cell?, hrow], hn, by rw [List.length_map]; exact h.rd, by simp [otherOf], by simp⟩
  | 1, _ => exact ⟨q', c', E.map aeS, by rw [List.length_map]; simp [World.cell?, hrow], hn, by rw [List.length_map]; exact h.rd', by simp [otherOf], by simp⟩

theorem turn_idx {n t i : Nat} (h : i < n) : ((n : Int) - 1 - (i : Int) + (t : Int)) % (n : Int) = ((turnAt n t i : Nat) : Int) := by
  unfold turnAt
  rw [Int.natCast_emod]
  congr 1
  omega

/-- the graph's box, and the model's -/
structure OB (w : World) (d wei : Bool) (vs es : Value) (mm : Nat) (w2 : World) : Prop where
  g : w2.heap[w.heap.size]? = some (.cells #[.bool d, .bool wei, vs, es] 45 (0, 0))
  m : w2.heap[mm]? = some (.cells #[.bool d, .bool false, nilS, nilS] 29 (0, 0))
  he : Ext No w w2
  lt : w.heap.size < mm

theorem OB.of {w w1 : World} {d wei : Bool} {vs es : Value} (h : Ext No (w.alloc (.cells #[.bool d, .bool wei, vs, es] 45)) w1) :
    OB w d wei vs es w1.heap.size (w1.alloc (.cells #[.bool d, .bool false, nilS, nilS] 29)) where
  g := alloc_heap (h.obj (heap_alloc w _).1 id) _
  m := (heap_alloc w1 _).1
  he := (((Ext.refl No w).alloc _).trans h).alloc _
  lt := by have := h.size; simp at this; omega

theorem Sent.no {w w' : World} {p : Nat → Addr} {B : Nat} (h : Sent w p) (hB : Below6 B p) (he : Ext No w w') : Sent w' p := h.ext hB he (fun _ h => h.elim)

/-- what stands ready for the two buildings -/
structure Ready (w : World) (d wei : Bool) (vs es : Value) (V : List Int) (E : List Tri) (S O : List Stp) (sv ov vs' es' : Value) (p : Nat → Addr) (mm N n6 : Nat) (W : World) : Prop where
  g : W.heap[w.heap.size]? = some (.cells #[.bool d, .bool wei, vs, es] 45 (0, 0))
  ask : W.heap[n6]? = some (.cells askS.c.toArray 35 (0, 0))
  S : RdS W sv S Stp.c
  O : RdS W ov O Stp.c
  M : Mo W N mm d false ⟨V, E⟩ vs' es'
  sent : Sent W p
  he : Ext No w W
  hN : N ≤ W.heap.size
  lt : w.heap.size < mm

theorem Ready.of {w w2 w3 wL wr : World} {d wei : Bool} {vs es : Value} {V : List Int} {E : List Tri} {S O : List Stp} {sv ov vs' es' : Value} {p : Nat → Addr} {mm B1 B2 : Nat} (h : OB w d wei vs es mm w2) (hp : Sent w p) (hB : Below6 w.heap.size p)
    (h3 : Ext No w2 w3) (hL : Ext (fun c => c = mm) w3 wL) (ho : wL.ownsRow B1 35 4 sv S.length (S.flatMap Stp.c)) (hM : Mo wL w3.heap.size mm d false ⟨V, E⟩ vs' es') (hX : Ext No wL wr) (ho2 : wr.ownsRow B2 35 4 ov O.length (O.flatMap Stp.c)) :
    Ready w d wei vs es V E S O sv ov vs' es' p mm w3.heap.size wr.heap.size (wr.alloc (.cells askS.c.toArray 35)) := by
  have e1 : Ext No wr (wr.alloc (.cells askS.c.toArray 35)) := (Ext.refl _ wr).alloc _
  have e2 := hX.trans e1
  have hlt := h.lt
  have eL : Ext No w wL := (h.he.trans h3).then hL (fun c hc e => by omega)
  refine ⟨e2.obj (hL.obj (h3.obj h.g id) (by omega)) id, (heap_alloc wr _).1, (RdS.of_own ho).ext e2 (fun _ _ h => h), (RdS.of_own ho2).ext e1 (fun _ _ h => h), hM.no e2, hp.no hB (eL.trans e2), eL.trans e2, Nat.le_trans hL.size e2.size, hlt⟩

/-- what a building leaves -/
def BPost (D : Stp → PS → PS → SP → Prop) (l : List Stp) (W : World) (v : Value) (W' : World) : Prop :=
  ∃ (s : PS) (xs : List SaidX) (sps : List SP), Chain D l ⟨[], []⟩ s sps ∧ W'.ownsRow W.heap.size 39 6 v xs.length (xs.flatMap SaidX.c) ∧ All2 (SaidOk W.heap.size W') xs sps ∧ Ext No W W' ∧ xs.length = l.length

theorem other_steps (V : List Int) (E : List Tri) (t : Nat) : otherOf V E t 2 = stepsOf (rotN V t V.length) (rotN E t E.length) := by
  simp only [otherOf, stepsOf, rotN_map]

theorem adds_of {d : Bool} {V : List Int} {E : List Tri} (h : ∀ e ∈ E, e.1 ≠ e.2.1) : ∀ x ∈ stepsOf V E ++ [askS], Adds d x := by
  intro x hx
  simp only [stepsOf, List.mem_append, List.mem_map, List.mem_singleton] at hx
  rcases hx with (⟨v, -, rfl⟩ | ⟨e, he, rfl⟩) | rfl
  · exact Or.inl rfl
  · exact Or.inr (Or.inl ⟨rfl, fun _ => h e he⟩)
  · exact Or.inr (Or.inr (Or.inr rfl))

theorem Ready.no {w : World} {d wei : Bool} {vs es : Value} {V : List Int} {E : List Tri} {S O : List Stp} {sv ov vs' es' : Value} {p : Nat → Addr} {mm N n6 : Nat} {W W' : World} (h : Ready w d wei vs es V E S O sv ov vs' es' p mm N n6 W) (hB : Below6 w.heap.size p) (he : Ext No W W') :
    Ready w d wei vs es V E S O sv ov vs' es' p mm N n6 W' :=
  ⟨he.obj h.g id, he.obj h.ask id, h.S.ext he (fun _ _ h => h), h.O.ext he (fun _ _ h => h), h.M.no he, h.sent.no hB he, h.he.trans he, Nat.le_trans h.hN he.size, h.lt⟩

theorem own0S {w : World} {g B : Nat} {e : TypeId} (h : w.heap[g]? = some (.cells #[] e (0, 0))) (hB : B ≤ g) : w.ownsRow B e 4 (.slice (some ⟨g, 0, none⟩) 0 0) ([] : List Stp).length (([] : List Stp).flatMap Stp.c) :=
  ⟨by simp, Or.inr ⟨g, 0, #[], rfl, hB, h, Nat.le_refl _, Nat.zero_le _, by simp, by simp⟩⟩

theorem rdS1 {w : World} {g : Nat} {x : Stp} {e : TypeId} (h : w.heap[g]? = some (.cells x.c.toArray e (0, 0))) : RdS w (.slice (some ⟨g, 0, none⟩) 1 1) [x] Stp.c :=
  ⟨_, _, rfl, Or.inr ⟨g, rfl, (Array.getElem?_eq_some_iff.1 h).1, fun j y hy => by
    rw [cell_of_row _ _ _ _ _ _ h]
    simpa using hy⟩⟩

theorem BPost.of {D : Stp → PS → PS → SP → Prop} {l : List Stp} {W w5 w6 : World} {r : Ending} (h : Built D l w5 r w6) (he : Ext No W w5) : ∃ v, r = .returned v ∧ BPost D l W v w6 := by
  obtain ⟨ov, s, xs, sps, rfl, hc, ho, ha, h6, hl⟩ := h
  exact ⟨ov, rfl, s, xs, sps, hc, ownsRow_low ho he.size, ha.mono fun x y hh => hh.low he.size, he.trans h6, hl⟩

theorem BPost.ext {D : Stp → PS → PS → SP → Prop} {l : List Stp} {W W' : World} {v : Value} (h : BPost D l W v W') : Ext No W W' := by
  obtain ⟨s, xs, sps, hc, ho, ha, h6, hl⟩ := h; exact h6

/-- two that say the same -/
structure SameS (sp sp' : SP) : Prop where
  er : sp.er = sp'.er
  a : sp.a = sp'.a
  b : sp.b = sp'.b
  w : sp.w = sp'.w
  ks : sp.ks = sp'.ks
  es : sp.es = sp'.es

theorem same_ok {w : World} {N : Nat} {x : SaidX} {sp sp' : SP} {ks' es' : Value} (h : SaidOk N w x sp) (hk : RdS w ks' sp'.ks oneC) (he : RdS w es' sp'.es triC) (heq : SameS sp sp') (hK : sp'.ks.length < 1099511627776) (hE : sp'.es.length < 1099511627776) :
    Calls Tryz.prog 16 #[saidV x.er x.a x.b x.w x.ks x.es, saidV sp'.er sp'.a sp'.b sp'.w ks' es'] w (Trues w) := by
  have h1 : x.er = sp'.er := h.er.trans heq.er
  have h2 : x.a = sp'.a := h.a.trans heq.a
  have h3 : x.b = sp'.b := h.b.trans heq.b
  have h4 : x.w = sp'.w := h.wt.trans heq.w
  have k1 := RdS.of_own h.ks
  have k2 := RdS.of_own h.es
  rw [heq.ks] at k1
  rw [heq.es] at k2
  rw [h1, h2, h3, h4]
  exact same_run k1 k2 hk he hK hE

/-- a building's last word, in memory -/
structure LastX (W : World) (v : Value) (n : Nat) (d : Bool) (V : List Int) (E : List Tri) (g c : Nat) (x : SaidX) (sp : SP) (N : Nat) : Prop where
  v : v = .slice (some ⟨g, 0, none⟩) (n + 1) c
  row : ∃ cs, W.heap[g]? = some (.cells cs 39 (0, 0))
  cells : ∀ j, j < 6 → W.cell? ⟨g, n * 6 + j, none⟩ = x.c[j]?
  ok : SaidOk N W x sp
  same : ∀ sx sq, DoBM d false ⟨V, E⟩ sx sq → SameS sp sq

theorem LastX.of {d : Bool} {V V' : List Int} {E E' : List Tri} {W W' : World} {v : Value} (hg : Good d V E) (hv : V'.Perm V) (he : E'.Perm E) (h : BPost (DoS d) (stepsOf V' E' ++ [askS]) W v W') {n : Nat} (hn : V.length + E.length = n) :
    ∃ g c x sp, LastX W' v n d V E g c x sp W.heap.size := by
  obtain ⟨s, xs, sps, hc, ho, ha, h6, hl⟩ := h
  have hlen : xs.length = n + 1 := by rw [hl]; simp [stepsOf, hv.length_eq, he.length_eq]; omega
  obtain ⟨q, c, rfl, hr⟩ := own_read (f := SaidX.c) (fun _ => rfl) ho
  have hnl : n < xs.length := by omega
  obtain ⟨g, rfl, hgl, hcell⟩ := hr n hnl
  have hsl : n < sps.length := by rw [← ha.1]; exact hnl
  have hok := ha.2 n (xs[n]'hnl) (sps[n]'hsl) (List.getElem?_eq_getElem hnl) (List.getElem?_eq_getElem hsl)
  have hrow : ∃ cs, W'.heap[g]? = some (.cells cs 39 (0, 0)) := by
    rcases ho.2 with ⟨h0, -⟩ | ⟨g', cap', cur, hv', -, hgg, -⟩
    · cases h0
    · simp only [Value.slice.injEq, Option.some.injEq, Addr.mk.injEq, and_true, true_and] at hv'
      obtain ⟨rfl, -, -⟩ := hv'
      exact ⟨_, hgg⟩
  refine ⟨g, c, xs[n]'hnl, sps[n]'hsl, by rw [hlen], hrow, hcell, hok, fun sx sq hb => ?_⟩
  obtain ⟨x, hx, e1, e2, e3, e4, e5, e6⟩ := order_law hg hv he hc hb
  rw [hn, List.getElem?_eq_getElem hsl] at hx
  obtain rfl := Option.some.inj hx
  exact ⟨e1, e2, e3, e4, e5, e6⟩

theorem LastX.ext {S : Nat → Prop} {W W' : World} {v : Value} {n : Nat} {d : Bool} {V : List Int} {E : List Tri} {g c : Nat} {x : SaidX} {sp : SP} {N : Nat} (h : LastX W v n d V E g c x sp N) (he : Ext S W W') (hS : ∀ cs T fr b, W.heap[b]? = some (.cells cs T fr) → T = 39 ∨ T = 2 ∨ T = 59 → ¬ S b) : LastX W' v n d V E g c x sp N := by
  obtain ⟨cs, hrow⟩ := h.row
  have hg : ¬ S g := hS _ _ _ _ hrow (Or.inl rfl)
  refine ⟨h.v, ⟨cs, he.obj hrow hg⟩, fun j hj => ?_, ⟨h.ok.er, h.ok.a, h.ok.b, h.ok.wt, ?_, ?_⟩, h.same⟩
  · have h1 := h.cells j hj
    have h2 : j < x.c.length := hj
    rw [List.getElem?_eq_getElem h2] at h1 ⊢
    exact he.cellv h1 hg
  · refine ownsRow_ext h.ok.ks he fun b hb => ?_
    rcases h.ok.ks.2 with ⟨h0, -⟩ | ⟨g', cap', cur, hv', -, hgg, -⟩
    · rw [h0] at hb; cases hb
    · rw [hv'] at hb; simp only [Value.ownBlock, Option.some.injEq] at hb; subst hb
      exact hS _ _ _ _ hgg (Or.inr (Or.inl rfl))
  · refine ownsRow_ext h.ok.es he fun b hb => ?_
    rcases h.ok.es.2 with ⟨h0, -⟩ | ⟨g', cap', cur, hv', -, hgg, -⟩
    · rw [h0] at hb; cases hb
    · rw [hv'] at hb; simp only [Value.ownBlock, Option.some.injEq] at hb; subst hb
      exact hS _ _ _ _ hgg (Or.inr (Or.inr rfl))
theorem LastX.no {W W' : World} {v : Value} {n : Nat} {d : Bool} {V : List Int} {E : List Tri} {g c : Nat} {x : SaidX} {sp : SP} {N : Nat} (h : LastX W v n d V E g c x sp N) (he : Ext No W W') : LastX W' v n d V E g c x sp N := h.ext he (fun _ _ _ _ _ _ h => h)
theorem LastX.mm {W W' : World} {v : Value} {n mm : Nat} {d : Bool} {V : List Int} {E : List Tri} {g c : Nat} {x : SaidX} {sp : SP} {N : Nat} (h : LastX W v n d V E g c x sp N) {cs : Array Value} {fr : Nat × Nat} (hm : W.heap[mm]? = some (.cells cs 29 fr)) (he : Ext (fun c => c = mm) W W') : LastX W' v n d V E g c x sp N :=
  h.ext he (fun cs' T fr' b hb hT e => by
    subst e
    rw [hm] at hb
    simp only [Option.some.injEq, Obj.cells.injEq] at hb
    obtain ⟨-, rfl, -⟩ := hb
    simp at hT)
theorem LastX.six {W : World} {v : Value} {n : Nat} {d : Bool} {V : List Int} {E : List Tri} {g c : Nat} {x : SaidX} {sp : SP} {N : Nat} (h : LastX W v n d V E g c x sp N) :
    W.cell? ⟨g, n * 6, none⟩ = some (.int .u8 x.er) ∧ W.cell? ⟨g, n * 6 + 1, none⟩ = some (.int .i64 x.a) ∧ W.cell? ⟨g, n * 6 + 2, none⟩ = some (.int .i64 x.b) ∧ W.cell? ⟨g, n * 6 + 3, none⟩ = some (.int .i64 x.w) ∧ W.cell? ⟨g, n * 6 + 4, none⟩ = some (.slice x.kq x.kn x.kc) ∧ W.cell? ⟨g, n * 6 + 5, none⟩ = some (.slice x.eq x.en x.ec) :=
  ⟨h.cells 0 (by decide), h.cells 1 (by decide), h.cells 2 (by decide), h.cells 3 (by decide), h.cells 4 (by decide), h.cells 5 (by decide)⟩

/-- what buildAll has said -/
structure DoneB (d : Bool) (V : List Int) (E : List Tri) (mm N Q : Nat) (v e : Value) (ks xs : Value) (sp : SP) (w : World) : Prop where
  D : DoBM d false ⟨V, E⟩ ⟨V, E⟩ sp
  M : Mo w N mm d false ⟨V, E⟩ v e
  K : w.ownsRow Q 2 1 ks sp.ks.length (sp.ks.flatMap oneC)
  E : w.ownsRow Q 48 3 xs sp.es.length (sp.es.flatMap triC)

theorem DoneB.of {d : Bool} {V : List Int} {E : List Tri} {mm N Q : Nat} {v e : Value} {ks xs : Value} {s : PS} {sp : SP} {w : World} (hD : DoBM d false ⟨V, E⟩ s sp) (hM : Mo w N mm d false s v e)
    (hk : w.ownsRow Q 2 1 ks sp.ks.length (sp.ks.flatMap oneC)) (hx : w.ownsRow Q 48 3 xs sp.es.length (sp.es.flatMap triC)) : DoneB d V E mm N Q v e ks xs sp w := by
  have h := hD.1
  subst h
  exact ⟨hD, hM, hk, hx⟩
theorem DoneB.lenK {d : Bool} {V : List Int} {E : List Tri} {mm N Q : Nat} {v e : Value} {ks xs : Value} {sp : SP} {w : World} (h : DoneB d V E mm N Q v e ks xs sp w) : sp.ks.length = V.length := h.D.2.2.2.2.2.1.length_eq
theorem DoneB.lenE {d : Bool} {V : List Int} {E : List Tri} {mm N Q : Nat} {v e : Value} {ks xs : Value} {sp : SP} {w : World} (h : DoneB d V E mm N Q v e ks xs sp w) : sp.es.length ≤ 2 * E.length := by
  rw [h.D.2.2.2.2.2.2.2.1.length_eq]; exact bothAll_len _ _ _

set_option maxRecDepth 100000 in
set_option maxHeartbeats 4000000 in
theorem order_run {w : World} {d wei : Bool} {V : List Int} {E : List Tri} {vs es : Value} {turn : Nat} {p : Nat → Addr} (hp : Sent w p) (hB : Below6 w.heap.size p) (hv : RdG w vs V oneC) (he : RdG w es E triC) (ht : turn < 256) :
    Calls Tryz.prog 4 #[graphV d wei vs es, .int .u8 turn] w (Trues w) := by
  obtain ⟨qv, cv, rfl⟩ := hv.form
  obtain ⟨qe, ce, rfl⟩ := he.form
  have HA := Lib.hid (And.intro hp (And.intro hB (And.intro hv (And.intro he ht))))
  clear hp hB hv he ht
  by_cases hfit : V.length ≤ 2147483647 ∧ E.length ≤ 2147483647
  · have hf1 : (decide (V.length ≤ 2147483647) && decide (E.length ≤ 2147483647)) = true := by simp [hfit.1, hfit.2]
    have HF := Lib.hid hfit
    clear hfit
    go_enter Tryz.func4, Tryz.ntmps4
    go_wp2_with (go_at_call 15; (refine fits_run.mono ?_); rintro r1 w1 ⟨rfl, h1⟩; rw [hf1]; have HO := Lib.hid (OB.of h1); obtain ⟨-, -, g2, -⟩ := cells4 (h1.obj (heap_alloc w _).1 id); obtain ⟨g0, -, -, -⟩ := cells4 (h1.obj (heap_alloc w _).1 id); have lg := World.block_lt_of_cell? _ _ g0; clear h1)
    clear g0 g2 lg hf1
    generalize w1.alloc (.cells #[.bool d, .bool false, nilS, nilS] 29) = w2 at HO ⊢
    generalize w1.heap.size = mm at HO ⊢
    clear w1
    try go_frame
    go_loopg [6, 32] V.length (fun k sv iv wr => OV w2 w2.heap.size V k sv iv wr)
    case atStart => exact ⟨0, rfl, by simp, nil_own, Ext.refl _ _⟩
    case round =>
      obtain ⟨i, rfl, hk, ho, he⟩ := hrel
      obtain ⟨q1, c1, rfl, -⟩ := own_read (f := Stp.c) (fun _ => rfl) ho
      by_cases hlt : i < V.length
      · obtain ⟨g, off, rfl, hg, hc⟩ := RdG.at (f := oneC) (size := 1) (fun _ => rfl) (HA.out.2.2.1.ext (HO.out.he.trans he) (fun _ _ h => h)) hlt
        have hlt' : (i : Int) < (V.length : Int) := by omega
        have c0 : wr.cell? ⟨g, off + i, none⟩ = some (kI (V[i]'hlt)) := by have := hc 0 (by decide); simpa using this
        generalize hx : V[i]'hlt = x at c0
        have htk : (V.take (i + 1)).map avS = (V.take i).map avS ++ [avS x] := by rw [List.take_add_one, List.getElem?_eq_getElem hlt, hx]; simp
        have hlen : ((V.take i).map avS).length = i := by rw [List.length_map, List.length_take]; omega
        have HK := Lib.hid (And.intro hk (And.intro htk (And.intro ho (And.intro he hlen))))
        clear hk htk ho he hc hx hlen
        generalize (V.take i).map avS = T at HK ⊢
        have HE := Lib.hid (HK.out.2.2.2.1.alloc (.cells (avS x).c.toArray 35))
        go_wp2_with (at_builtin; (refine wpL_append1L (v := .slice q1 T.length c1) (xs := T) (b := wr.heap.size) rfl rfl U22 I35 rfl (by decide) (by decide) (f := Stp.c) (fun _ => rfl) Stp.one rfl (HK.out.2.2.1.alloc (.cells (avS x).c.toArray 35)) (avS x) rfl ⟨35, (0, 0), (heap_alloc wr _).1⟩ (by have := HK.out.2.2.2.2; have := HF.out.1; omega) HE.out.size ?_); intro v1 wa hoa hea; have HZ := Lib.hid (And.intro hoa (HE.out.then hea (T := fun c => some c = (Value.slice q1 T.length c1).ownBlock) (fun c hc e => by have := (HK.out.2.2.1.lt c e.symm).1; omega))); clear hoa hea)
        go_roundg (V.length - (i + 1))
        case measure => have := HK.out.1; omega
        case rel => exact ⟨i + 1, by rw [w64L (by have := HF.out.1; omega)], by omega, by rw [HK.out.2.1]; exact HZ.out.1, HZ.out.2⟩
      · have hnlt : ¬ (i : Int) < (V.length : Int) := by omega
        have hi : i = V.length := by omega
        subst hi
        have hT : (V.take V.length).map avS = stepsOf V [] := by rw [List.take_length]; simp
        rw [hT] at ho ⊢
        have hT2 : (stepsOf V []).length = V.length := by simp
        rw [hT2] at ho ⊢
        have HK := Lib.hid (And.intro ho he)
        clear hk ho he hT hT2
        obtain ⟨-, -, -, g3, -⟩ := cells4 (HK.out.2.obj HO.out.g id)
        have lg := World.block_lt_of_cell? _ _ g3
        go_wp2_with fail
        clear g3 lg
        try go_frame
        obtain ⟨W0, hW0⟩ : ∃ W0 : World, W0 = wr := ⟨_, rfl⟩
        clear hW0 hlt hnlt
        go_loopg [6, 47] E.length (fun k sv iv wr => OE w2 w2.heap.size V E k sv iv wr)
        case atStart => exact ⟨0, rfl, by simp, by rw [List.take_zero]; simpa using HK.out.1, HK.out.2⟩
        case round =>
          obtain ⟨i, rfl, hk, ho, he⟩ := hrel
          obtain ⟨q2, c2, rfl, -⟩ := own_read (f := Stp.c) (fun _ => rfl) ho
          by_cases hlt : i < E.length
          · obtain ⟨g, off, rfl, hg, hc⟩ := RdG.at (f := triC) (size := 3) (fun _ => rfl) (HA.out.2.2.2.1.ext (HO.out.he.trans he) (fun _ _ h => h)) hlt
            have hlt' : (i : Int) < (E.length : Int) := by omega
            generalize hx : E[i]'hlt = e at hc
            have c0 : wr.cell? ⟨g, off + i * 3, none⟩ = some (kI e.1) := hc 0 (by decide)
            have c1' : wr.cell? ⟨g, off + i * 3 + 1, none⟩ = some (kI e.2.1) := hc 1 (by decide)
            have c2' : wr.cell? ⟨g, off + i * 3 + 2, none⟩ = some (.int .i64 e.2.2) := hc 2 (by decide)
            have htk : stepsOf V (E.take (i + 1)) = stepsOf V (E.take i) ++ [aeS e] := by rw [List.take_add_one, List.getElem?_eq_getElem hlt, hx]; simp [stepsOf]
            have hlen : (stepsOf V (E.take i)).length = V.length + i := by simp [stepsOf]; omega
            have HK2 := Lib.hid (And.intro hk (And.intro htk (And.intro ho (And.intro he hlen))))
            clear hk htk ho he hc hx hlen
            generalize stepsOf V (E.take i) = T at HK2 ⊢
            have HE := Lib.hid ((HK2.out.2.2.2.1.alloc (.cells (triC e).toArray 48)).alloc (.cells (aeS e).c.toArray 35))
            have HEW := Lib.hid (HK2.out.2.2.2.1.alloc (.cells (triC e).toArray 48))
            have hws : e.2.2 < -1099511627776 ∨ (¬ e.2.2 < -1099511627776 ∧ 1099511627776 < e.2.2) ∨ (¬ e.2.2 < -1099511627776 ∧ ¬ 1099511627776 < e.2.2) := by omega
            rcases hws with hw1 | ⟨hw1, hw2⟩ | ⟨hw1, hw2⟩
            · go_wp2_with fail
              refine (awake_run (HA.out.1.no HA.out.2.1 (HO.out.he.trans HEW.out)) (HA.out.2.1.mono (HO.out.he.trans HEW.out).size)).mono ?_
              rintro r3 w3 ⟨rfl, h3⟩
              have H3 := Lib.hid h3
              clear h3
              go_wp2
              go_ret
              exact ⟨rfl, (HO.out.he.trans HEW.out).trans H3.out⟩
            · go_wp2_with fail
              refine (awake_run (HA.out.1.no HA.out.2.1 (HO.out.he.trans HEW.out)) (HA.out.2.1.mono (HO.out.he.trans HEW.out).size)).mono ?_
              rintro r3 w3 ⟨rfl, h3⟩
              have H3 := Lib.hid h3
              clear h3
              go_wp2
              go_ret
              exact ⟨rfl, (HO.out.he.trans HEW.out).trans H3.out⟩
            · go_wp2_with (at_builtin; (refine wpL_append1L (v := .slice q2 T.length c2) (xs := T) (b := wr.heap.size + 1) rfl rfl U22 I35 rfl (by decide) (by decide) (f := Stp.c) (fun _ => rfl) Stp.one rfl ((HK2.out.2.2.1.alloc (.cells (triC e).toArray 48)).alloc (.cells (aeS e).c.toArray 35)) (aeS e) rfl ⟨35, (0, 0), two_new _ _ _⟩ (by have := HK2.out.2.2.2.2; have := HF.out; omega) HE.out.size ?_); intro v1 wa hoa hea; have HZ := Lib.hid (And.intro hoa (HE.out.then hea (T := fun c => some c = (Value.slice q2 T.length c2).ownBlock) (fun c hc e => by have := (HK2.out.2.2.1.lt c e.symm).1; omega))); clear hoa hea)
              go_roundg (E.length - (i + 1))
              case measure => have := HK2.out.1; omega
              case rel => exact ⟨i + 1, by rw [w64L (by have := HF.out.2; omega)], by omega, by rw [HK2.out.2.1]; exact HZ.out.1, HZ.out.2⟩
          · have hnlt : ¬ (i : Int) < (E.length : Int) := by omega
            have hi : i = E.length := by omega
            subst hi
            rw [List.take_length] at ho ⊢
            have hL : (stepsOf V E).length = V.length + E.length := by simp [stepsOf]
            have HK2 := Lib.hid (And.intro ho (And.intro he hL))
            clear hk ho he hlt
            generalize hS : stepsOf V E = S at HK2 ⊢
            have HS := Lib.hid hS
            clear hS hL HK
            by_cases h60 : S.length ≤ 60
            · have h60' : ¬ (60 : Int) < (S.length : Int) := by omega
              have H60 := Lib.hid h60
              clear h60
              cases hr : rightL false 60 S with
              | false =>
                go_wp2_with (go_at_call 9; (refine (right_run (RdS.of_own HK2.out.1).g (by have := H60.out; omega)).mono ?_); rintro r3 w3 ⟨rfl, h3⟩; rw [hr]; have H3 := Lib.hid ((HO.out.he.trans HK2.out.2.1).trans h3); clear h3)
                refine (awake_run (HA.out.1.no HA.out.2.1 H3.out) (HA.out.2.1.mono H3.out.size)).mono ?_
                rintro r4 w4 ⟨rfl, h4⟩
                have H4 := Lib.hid h4
                clear h4
                go_wp2
                go_ret
                exact ⟨rfl, H3.out.trans H4.out⟩
              | true =>
                go_wp2_with (go_at_call 9; (refine (right_run (RdS.of_own HK2.out.1).g (by have := H60.out; omega)).mono ?_); rintro r3 w3 ⟨rfl, h3⟩; rw [hr]; have H3 := Lib.hid (And.intro (HK2.out.2.1.trans h3) (ownsRow_ext HK2.out.1 h3 (fun _ _ h => h))); clear h3)
                have HR := Lib.hid hr
                clear hr
                try go_frame
                have hrow3 := H3.out.1.obj HO.out.m id
                have HR3 := Lib.hid hrow3
                clear hrow3
                go_loopg [82] S.length (fun k iv wr => OD w3 d mm S (.slice q2 S.length c2) w2.heap.size k iv wr)
                case atStart => exact ⟨0, ⟨[], []⟩, [], nilS, nilS, rfl, by simp, Chain.nil _, by simp, by simp, ⟨HR3.out, nil_own, nil_own⟩, H3.out.2, Ext.refl _ _⟩
                case round =>
                  obtain ⟨i, s, sps, vs', es', rfl, hk, hch, h0, hsz, hM, ho, he⟩ := hrel
                  by_cases hlt : i < S.length
                  · obtain ⟨g, rfl, hg, hc⟩ := own_at (f := Stp.c) (fun _ => rfl) ho hlt
                    have hlt' : (i : Int) < (S.length : Int) := by omega
                    generalize hx : S[i]'hlt = x at hc
                    have b0 : wr.cell? ⟨g, i * 4, none⟩ = some (.int .u8 x.op) := hc 0 (by decide)
                    have b1 : wr.cell? ⟨g, i * 4 + 1, none⟩ = some (kI x.a) := hc 1 (by decide)
                    have b2 : wr.cell? ⟨g, i * 4 + 2, none⟩ = some (kI x.b) := hc 2 (by decide)
                    have b3 : wr.cell? ⟨g, i * 4 + 3, none⟩ = some (.int .i64 x.wt) := hc 3 (by decide)
                    have hop : x.op = 0 ∨ x.op = 2 := stepsOf_op (V := V) (E := E) (by rw [HS.out, ← hx]; exact List.getElem_mem hlt)
                    have htk : S.take (i + 1) = S.take i ++ [x] := by rw [List.take_add_one, List.getElem?_eq_getElem hlt, hx]; rfl
                    have e1 : Ext No wr (wr.alloc (.cells x.c.toArray 35)) := (Ext.refl _ wr).alloc _
                    have HK3 := Lib.hid (And.intro hk (And.intro hch (And.intro h0 (And.intro hsz (And.intro hM (And.intro ho (And.intro he (And.intro hop (And.intro htk e1)))))))))
                    clear hk hch h0 hsz hM ho he hc hx hop htk e1
                    go_wp2_with fail
                    refine (do_step HK3.out.2.2.2.2.2.2.2.1 (HK3.out.2.2.2.2.1.no HK3.out.2.2.2.2.2.2.2.2.2) (Nat.le_trans HK3.out.2.2.2.2.2.2.1.size HK3.out.2.2.2.2.2.2.2.2.2.size) (by have := HK3.out.1; have := HK3.out.2.2.2.1; have := H60.out; omega)).mono ?_
                    rintro r4 w4 ⟨s', sp, v1, v2, ks, xs, rfl, hD, hM4, hk4, hx4, he4⟩
                    obtain ⟨qk, ck, rfl, -⟩ := own_read (f := oneC) (fun _ => rfl) hk4
                    obtain ⟨qx, cx, rfl, -⟩ := own_read (f := triC) (fun _ => rfl) hx4
                    have HD := Lib.hid (And.intro hD (And.intro hM4 he4))
                    clear hD hM4 hk4 hx4 he4
                    have hfl := field0 sp.er sp.a sp.b sp.w (.slice qk sp.ks.length ck) (.slice qx sp.es.length cx) w4
                    by_cases her : sp.er = 0
                    · have HER := Lib.hid her
                      have e1 : (sp.er == 0) = true := by simpa using her
                      have e2 : (sp.er != 0) = false := by simpa using her
                      clear her
                      go_wp2
                      go_roundg (S.length - (i + 1))
                      case measure => have := HK3.out.1; omega
                      case rel =>
                        obtain ⟨hk, hch, h0, hsz, hM, ho, he, hop, htk, e1⟩ := HK3.out
                        obtain ⟨hD, hM4, he4⟩ := HD.out
                        have hs := hD.size
                        refine ⟨i + 1, s', sps ++ [sp], v1, v2, by simp, by omega, by rw [htk]; exact hch.snoc hD, fun y hy => ?_, by omega, hM4, ?_, he.trans (e1.no.trans he4)⟩
                        · rcases List.mem_append.1 hy with hy | hy
                          · exact h0 y hy
                          · simp only [List.mem_singleton] at hy; rw [hy]; exact HER.out
                        · have ho1 := ownsRow_ext ho e1 (fun _ _ h => h)
                          exact own_mm ho1 (e1.obj hM.row id) (by decide) he4
                    · have e1 : (sp.er == 0) = false := by simpa using her
                      have e2 : (sp.er != 0) = true := by simpa using her
                      clear her
                      have hEX : Ext No w w4 := by
                        obtain ⟨hk, hch, h0, hsz, hM, ho, he, hop, htk, e1⟩ := HK3.out
                        obtain ⟨hD, hM4, he4⟩ := HD.out
                        exact (((HO.out.he.trans H3.out.1).then he (fun c hc e => by have := HO.out.lt; omega)).trans e1).then he4 (fun c hc e => by have := HO.out.lt; omega)
                      have HEX := Lib.hid hEX
                      clear hEX
                      go_wp2_with fail
                      refine (awake_run (HA.out.1.no HA.out.2.1 HEX.out) (HA.out.2.1.mono HEX.out.size)).mono ?_
                      rintro r5 w5 ⟨rfl, h5⟩
                      have H5 := Lib.hid h5
                      clear h5
                      go_wp2
                      go_ret
                      exact ⟨rfl, HEX.out.trans H5.out⟩
                  · have hnlt : ¬ (i : Int) < (S.length : Int) := by omega
                    have hi : i = S.length := by omega
                    subst hi
                    rw [List.take_length] at hch
                    have hg : s = ⟨V, E⟩ ∧ Good d V E := by
                      have hch' := hch
                      rw [← HS.out] at hch'
                      have hr := HR.out
                      rw [← HS.out] at hr
                      exact fine_good _ V E rfl (right_loop hr) hch' h0
                    obtain ⟨wL, rfl⟩ : ∃ wL : World, wL = wr := ⟨_, rfl⟩
                    have HK3 := Lib.hid (And.intro hg.2 (And.intro (show Mo wL w3.heap.size mm d false ⟨V, E⟩ vs' es' from hg.1 ▸ hM) (And.intro ho he)))
                    clear hk hch h0 hsz hM ho he hg hlt
                    go_wp2_with fail
                    have hVS : V.length ≤ S.length := by have := HK2.out.2.2; omega
                    have hown := HK3.out.2.2.1
                    obtain ⟨qt, ct, hsl2, hrd2⟩ := sl_tail hown hVS
                    have hcap : V.length ≤ c2 := by
                      rcases hown.2 with ⟨h0, -⟩ | ⟨g, cap', cur, hv, -, -, hnc, -⟩
                      · simp only [Value.slice.injEq] at h0; omega
                      · simp only [Value.slice.injEq] at hv; omega
                    have hsl1 := sl_head q2 (n := S.length) hcap
                    have HT := Lib.hid (And.intro hrd2 (And.intro hVS hcap))
                    have hcapI : (V.length : Int) ≤ (c2 : Int) := by omega
                    have hVSI : (V.length : Int) ≤ (S.length : Int) := by omega
                    clear hown hrd2 hVS hcap
                    go_region
                    have hp : Parts (wL.alloc (.cells #[.slice q2 V.length c2, .slice qt (S.length - V.length) ct] 22)).drew V E wL.heap.size q2 c2 qt ct := by
                      have hSe : S.length - V.length = E.length := by have := HK2.out.2.2; omega
                      have e4 : Ext No wL (wL.alloc (.cells #[.slice q2 V.length c2, .slice qt (S.length - V.length) ct] 22)).drew := ((Ext.refl No wL).alloc _).drew
                      refine ⟨by rw [← hSe]; exact at_drew (heap_alloc wL _).1, ?_, ?_⟩
                      · have h1 := ((RdS.of_own HK3.out.2.2.1).g.take HT.out.2.1).ext e4 (fun _ _ h => h)
                        have h2 : S.take V.length = V.map avS := by rw [← HS.out]; simp [stepsOf]
                        rw [h2] at h1; exact h1
                      · have h1 := HT.out.1.ext e4 (fun _ _ h => h)
                        have h2 : S.drop V.length = E.map aeS := by rw [← HS.out]; simp [stepsOf]
                        rw [h2, hSe] at h1; rw [hSe]; exact h1
                    have HP := Lib.hid (And.intro hp (((Ext.refl No wL).alloc (.cells #[.slice q2 V.length c2, .slice qt (S.length - V.length) ct] 22)).drew))
                    clear hp hsl1 hsl2 HT hcapI hVSI
                    generalize (wL.alloc (.cells #[.slice q2 V.length c2, .slice qt (S.length - V.length) ct] 22)).drew = W4 at HP ⊢
                    go_wp2_with fail
                    try go_frame
                    have hlenS : V.length + E.length ≤ 60 := by have := HK2.out.2.2; have := H60.out; omega
                    have HLS := Lib.hid hlenS
                    have HTN := Lib.hid HA.out.2.2.2.2
                    clear hlenS
                    go_loopg [7, 101] 2 (fun k ov iv wq => OP W4 V E turn k ov iv wq)
                    case atStart => exact ⟨0, rfl, rfl, nil_own, Ext.refl _ _⟩
                    case round =>
                      obtain ⟨j, rfl, hk, ho, he⟩ := hrel
                      obtain ⟨q5, c5, rfl, -⟩ := own_read (f := Stp.c) (fun _ => rfl) ho
                      by_cases hlt : j < 2
                      · obtain ⟨u, dd, P, hcell, hn4, hrd, hoth, hPl⟩ := HP.out.1.pick (t := turn) he hlt
                        have hlt' : (j : Int) < 2 := by omega
                        have HK4 := Lib.hid (And.intro hk (And.intro ho (And.intro he (And.intro hrd (And.intro hoth hPl)))))
                        clear hk ho he hrd hoth hPl
                        go_wp2_with fail
                        try go_frame
                        clear hcell hn4
                        have hLl : (otherOf V E turn j).length ≤ 60 := by have := otherOf_len V E turn j; have := HLS.out; omega
                        have HLl := Lib.hid hLl
                        clear hLl
                        generalize hL : otherOf V E turn j = L at HK4 HLl ⊢
                        have HL := Lib.hid hL
                        clear hL
                        go_loopg [7, 107] P.length (fun k ov iv wq => OQ W4 L P turn k ov iv wq)
                        case atStart => exact ⟨0, rfl, by simp, by simpa [rotN] using HK4.out.2.1, HK4.out.2.2.1⟩
                        case round =>
                          obtain ⟨i, rfl, hk, ho, he⟩ := hrel
                          obtain ⟨q6, c6, rfl, -⟩ := own_read (f := Stp.c) (fun _ => rfl) ho
                          by_cases hltP : i < P.length
                          · have htl : turnAt P.length turn i < P.length := turnAt_lt (by omega)
                            obtain ⟨g, off, rfl, hg, hc⟩ := RdG.at (f := Stp.c) (size := 4) (fun _ => rfl) (HK4.out.2.2.2.1.ext he (fun _ _ h => h)) htl
                            have hidx := turn_idx (n := P.length) (t := turn) (i := i) hltP
                            have hsucc := rotN_succ (P := P) (t := turn) (i := i) htl
                            generalize hx : P[turnAt P.length turn i]'htl = x at hc hsucc
                            generalize turnAt P.length turn i = tt at htl hidx hc hx
                            have hltI : (i : Int) < (P.length : Int) := by omega
                            have htlI : (tt : Int) < (P.length : Int) := by omega
                            have htt0 : (0 : Int) ≤ (tt : Int) := by omega
                            have hPI : (P.length : Int) ≤ 60 := by have := HK4.out.2.2.2.2.2; have := HLS.out; omega
                            have hP1 : (1 : Int) ≤ (P.length : Int) := by omega
                            have htI : (turn : Int) < 256 := by have := HTN.out; omega
                            have htn0 : (0 : Int) ≤ (turn : Int) := by omega
                            have b0 : wr.cell? ⟨g, off + tt * 4, none⟩ = some (.int .u8 x.op) := hc 0 (by decide)
                            have b1 : wr.cell? ⟨g, off + tt * 4 + 1, none⟩ = some (kI x.a) := hc 1 (by decide)
                            have b2 : wr.cell? ⟨g, off + tt * 4 + 2, none⟩ = some (kI x.b) := hc 2 (by decide)
                            have b3 : wr.cell? ⟨g, off + tt * 4 + 3, none⟩ = some (.int .i64 x.wt) := hc 3 (by decide)
                            have hRl := rotN_len P turn i
                            have hxe := Ext.alloc he (.cells x.c.toArray 35)
                            have HK5 := Lib.hid (And.intro hk (And.intro ho (And.intro he (And.intro hsucc (And.intro hRl (And.intro hltP hxe))))))
                            clear hk ho he hsucc hRl hc hx htl hltP hxe
                            generalize hT : L ++ rotN P turn i = T at HK5 ⊢
                            have HTT := Lib.hid hT
                            clear hT
                            go_wp2_with (at_builtin; (refine wpL_append1 (v := .slice q6 T.length c6) (xs := T) (b := wr.heap.size) rfl rfl U22 I35 rfl (by decide) (by decide) (f := Stp.c) (fun _ => rfl) Stp.one rfl (HK5.out.2.1.alloc (.cells x.c.toArray 35)) x rfl ⟨35, (0, 0), (heap_alloc wr _).1⟩ (by have := HK5.out.2.2.2.2.1; have := HLl.out; have := HK4.out.2.2.2.2.2; have := HLS.out; have := HK5.out.2.2.2.2.2.1; rw [← HTT.out, List.length_append]; omega) HK5.out.2.2.2.2.2.2.size ?_); intro v1 wa hoa hea hba; have HZ := Lib.hid (And.intro hoa (HK5.out.2.2.2.2.2.2.then hea (T := fun c => some c = (Value.slice q6 T.length c6).ownBlock) (fun c hc e => by have := (HK5.out.2.1.lt c e.symm).1; omega))); clear hoa hea hba)
                            go_roundg (P.length - (i + 1))
                            case measure => have := HK5.out.1; have := HK5.out.2.2.2.2.2.1; omega
                            case rel =>
                              refine ⟨i + 1, by simp, by have := HK5.out.2.2.2.2.2.1; omega, ?_, HZ.out.2⟩
                              rw [HK5.out.2.2.2.1, ← List.append_assoc, HTT.out]
                              exact HZ.out.1
                          · have hnltP : ¬ (i : Int) < (P.length : Int) := by omega
                            have hi : i = P.length := by omega
                            subst hi
                            generalize hT : L ++ rotN P turn P.length = T at ho ⊢
                            have hoth := HK4.out.2.2.2.2.1
                            rw [hT] at hoth
                            have HK5 := Lib.hid (And.intro ho (And.intro he hoth))
                            clear hk ho he hltP hoth hT
                            go_wp2_with fail
                            go_roundg (2 - (j + 1))
                            case measure => have := HK4.out.1; omega
                            case rel => exact ⟨j + 1, by simp, by omega, by rw [HK5.out.2.2]; exact HK5.out.1, HK5.out.2.1⟩
                      · have hnlt2 : ¬ (j : Int) < 2 := by omega
                        have hj : j = 2 := by omega
                        subst hj
                        have HK4 := Lib.hid (And.intro ho he)
                        clear hk ho he hlt
                        have hX : Ext No wL wr := HP.out.2.trans HK4.out.2
                        have hRD : Ready w d wei (.slice qv V.length cv) (.slice qe E.length ce) V E S (otherOf V E turn 2) (.slice q2 S.length c2) (.slice q5 (otherOf V E turn 2).length c5) vs' es' p mm w3.heap.size wr.heap.size (wr.alloc (.cells askS.c.toArray 35)) :=
                          Ready.of HO.out HA.out.1 HA.out.2.1 H3.out.1 HK3.out.2.2.2 HK3.out.2.2.1 HK3.out.2.1 hX HK4.out.1
                        have HRD := Lib.hid hRD
                        clear hX hRD
                        generalize hO : otherOf V E turn 2 = O at HRD ⊢
                        have HOO := Lib.hid hO
                        clear hO
                        go_wp2_with fail
                        generalize wr.alloc (.cells askS.c.toArray 35) = W6 at HRD ⊢
                        have HLX := Lib.hid (show S.length < 1000 by have := H60.out; omega)
                        have hloop := HK3.out.1.loop
                        have HAD : RowKit.Hid (∀ x ∈ S ++ [askS], Adds d x) := Lib.hid (by rw [← HS.out]; exact adds_of hloop)
                        have HAO : RowKit.Hid (∀ x ∈ O ++ [askS], Adds d x) := Lib.hid (by rw [← HOO.out, other_steps]; exact adds_of fun e he => hloop e ((rotN_perm E turn).mem_iff.1 he))
                        clear hloop
                        generalize wr.heap.size = n6 at HRD ⊢
                        go_upto_region 36 with (fail)
                        go_cut [19] (fun v wc => BPost (DoS d) (S ++ [askS]) W6 v wc)
                        case first =>
                          obtain ⟨x0, x1, -, -, -⟩ := cells4 HRD.out.g
                          obtain ⟨x2, x3, x4, x5, -⟩ := cells4 HRD.out.ask
                          have lx := World.block_lt_of_cell? _ _ x0
                          have ly := World.block_lt_of_cell? _ _ x2
                          have hX0 : Ext No W6 W6 := Ext.refl _ _
                          go_region_held3 (fun u => u.cell? ⟨w.heap.size, 0, none⟩ = some (.bool d) ∧ u.cell? ⟨w.heap.size, 1, none⟩ = some (.bool wei) ∧ u.cell? ⟨n6, 0, none⟩ = some (.int .u8 9) ∧ u.cell? ⟨n6, 1, none⟩ = some (.int .i64 0) ∧ u.cell? ⟨n6, 2, none⟩ = some (.int .i64 0) ∧ u.cell? ⟨n6, 3, none⟩ = some (.int .i64 0)) (first | exact ⟨x0, x1, x2, x3, x4, x5⟩ | exact ⟨l0, l1, l2, l3, l4, l5⟩ | exact ⟨i0, i1, i2, i3, i4, i5⟩ | exact ⟨j0, j1, j2, j3, j4, j5⟩ | exact ⟨k0, k1, k2, k3, k4, k5⟩ | (have hXa : Ext No W6 (W6.alloc (.cells #[] 35)).drew := (hX0.alloc _).drew; exact ⟨hXa.cellv x0 id, hXa.cellv x1 id, hXa.cellv x2 id, hXa.cellv x3 id, hXa.cellv x4 id, hXa.cellv x5 id⟩) | (have hXa : Ext No W6 (W6.alloc (.cells #[.int .u8 9, .int .i64 0, .int .i64 0, .int .i64 0] 35)).drew := (hX0.alloc _).drew; exact ⟨hXa.cellv x0 id, hXa.cellv x1 id, hXa.cellv x2 id, hXa.cellv x3 id, hXa.cellv x4 id, hXa.cellv x5 id⟩) | (have hXa : Ext No W6 ((W6.alloc (.cells #[] 35)).alloc (.cells #[.int .u8 9, .int .i64 0, .int .i64 0, .int .i64 0] 35)).drew := ((hX0.alloc _).alloc _).drew; exact ⟨hXa.cellv x0 id, hXa.cellv x1 id, hXa.cellv x2 id, hXa.cellv x3 id, hXa.cellv x4 id, hXa.cellv x5 id⟩) | (have hXa : Ext No W6 ((W6.alloc (.cells #[.int .u8 9, .int .i64 0, .int .i64 0, .int .i64 0] 35)).alloc (.cells #[] 35)).drew := ((hX0.alloc _).alloc _).drew; exact ⟨hXa.cellv x0 id, hXa.cellv x1 id, hXa.cellv x2 id, hXa.cellv x3 id, hXa.cellv x4 id, hXa.cellv x5 id⟩) | (have hXa : Ext No W6 (w1.alloc (.cells #[.int .u8 9, .int .i64 0, .int .i64 0, .int .i64 0] 35)) := hx1.alloc _; exact ⟨hXa.cellv x0 id, hXa.cellv x1 id, hXa.cellv x2 id, hXa.cellv x3 id, hXa.cellv x4 id, hXa.cellv x5 id⟩))
                            (first | ((refine step_appendN (s := .tmp 134) (x := .tmp 135) (xs := ([] : List Stp)) (ys := S) (f := Stp.c) (B := W6.heap.size) rfl (by rfl) U22 I35 rfl (by decide) (by decide) (fun _ => rfl) Stp.one (by rfl) (own0S (by first | exact (heap_alloc W6 _).1 | exact alloc_heap (heap_alloc W6 _).1 _ | exact two_new W6 _ _) (by omega)) (by rfl) (HRD.out.S.ext (S := No) (by first | exact (hX0.alloc _).drew | exact ((hX0.alloc _).alloc _).drew) (fun _ _ h => h)) (by have := HLX.out; simp; omega) (by first | (simp; done) | (simp; omega)) ?_; intro v1 w1 ho1 he1 hb1; have hx1 : Ext No W6 w1 := (by first | exact Ext.app (hX0.alloc _).drew he1 (by omega) | exact Ext.app ((hX0.alloc _).alloc _).drew he1 (by omega)); have kz := hx1.size; have k0 := hx1.cellv x0 id; have k1 := hx1.cellv x1 id; have k2 := hx1.cellv x2 id; have k3 := hx1.cellv x3 id; have k4 := hx1.cellv x4 id; have k5 := hx1.cellv x5 id)) | ((refine step_appendN (s := .tmp 136) (x := .tmp 138) (xs := S) (ys := [askS]) (f := Stp.c) (B := W6.heap.size) (v := v1) rfl (by rfl) U22 I35 rfl (by decide) (by decide) (fun _ => rfl) Stp.one (by rfl) (by first | exact ho1 | exact ho1.alloc _) (by rfl) (rdS1 (by first | exact (heap_alloc w1 _).1 | exact he1.obj (two_new W6 _ _) (by simp [Value.ownBlock]) | exact he1.obj (alloc_heap (heap_alloc W6 _).1 _) (by simp [Value.ownBlock]))) (by have := HLX.out; simp; omega) (by first | omega | (simp; done) | (simp; omega)) ?_; intro v2 w4 ho2 he2 hb2; have hx2 : Ext No W6 w4 := (by first | exact Ext.app2 (hx1.alloc _) he2 ho1 | exact Ext.app2 hx1 he2 ho1 | exact Ext.app2 (hx1.alloc _).drew he2 ho1 | exact Ext.app2 hx1.drew he2 ho1); have j0 := hx2.cellv x0 id; have j1 := hx2.cellv x1 id; have j2 := hx2.cellv x2 id; have j3 := hx2.cellv x3 id; have j4 := hx2.cellv x4 id; have j5 := hx2.cellv x5 id)) | (go_at_call 12; (refine (to_run (RdS.of_own ho2).g (by have := HLX.out; simp; omega)).mono ?_); rintro r5 w5 ⟨v5, rfl, ho5, he5⟩; have hx5 := hx2.trans he5; have i0 := hx5.cellv x0 id; have i1 := hx5.cellv x1 id; have i2 := hx5.cellv x2 id; have i3 := hx5.cellv x3 id; have i4 := hx5.cellv x4 id; have i5 := hx5.cellv x5 id) | (go_at_call 11; (refine (building_run d false wei (p := p) (B := w.heap.size) (HRD.out.sent.no HA.out.2.1 hx5) HA.out.2.1 ho5 (by have := HLX.out; simp; omega) (stepsOk_adds d (HA.out.2.1.mono (Nat.le_trans HRD.out.he.size hx5.size)) (by have := HLX.out; simp; omega) HAD.out)).mono ?_); rintro r6 w6 h6; obtain ⟨vb, rfl, hbp⟩ := BPost.of h6 hx5; have l0 := hbp.ext.cellv x0 id; have l1 := hbp.ext.cellv x1 id; have l2 := hbp.ext.cellv x2 id; have l3 := hbp.ext.cellv x3 id; have l4 := hbp.ext.cellv x4 id; have l5 := hbp.ext.cellv x5 id; have HBP := Lib.hid hbp; clear h6 hbp))
                          all_goals
                            go_wp2
                            go_meet
                            case rel => exact HBP.out
                        case rest =>
                          have HB1 := Lib.hid hcut
                          clear hcut
                          have hsn : V.length + E.length = S.length := by have := HK2.out.2.2; omega
                          have hl1 := LastX.of HK3.out.1 (List.Perm.refl V) (List.Perm.refl E) (by rw [HS.out]; exact HB1.out) hsn
                          obtain ⟨ga, ca, xa, spa, hla⟩ := hl1
                          have hva := hla.v
                          subst hva
                          have HLA := Lib.hid hla
                          have HRE := Lib.hid (HRD.out.no HA.out.2.1 HB1.out.ext)
                          have HLO := Lib.hid (show O.length < 1000 by have := otherOf_len V E turn 2; rw [HOO.out] at this; have := HLS.out; omega)
                          have HSN := Lib.hid hsn
                          clear hla hsn
                          obtain ⟨W7, rfl⟩ : ∃ W7 : World, W7 = wc := ⟨_, rfl⟩
                          go_wp2_with fail
                          go_upto_region 37 with (fail)
                          go_cut [20] (fun v wc => BPost (DoS d) (O ++ [askS]) W7 v wc)
                          case first =>
                            obtain ⟨x0, x1, -, -, -⟩ := cells4 HRE.out.g
                            obtain ⟨x2, x3, x4, x5, -⟩ := cells4 HRE.out.ask
                            have lx := World.block_lt_of_cell? _ _ x0
                            have ly := World.block_lt_of_cell? _ _ x2
                            have hX0 : Ext No W7 W7 := Ext.refl _ _
                            go_region_held3 (fun u => u.cell? ⟨w.heap.size, 0, none⟩ = some (.bool d) ∧ u.cell? ⟨w.heap.size, 1, none⟩ = some (.bool wei) ∧ u.cell? ⟨n6, 0, none⟩ = some (.int .u8 9) ∧ u.cell? ⟨n6, 1, none⟩ = some (.int .i64 0) ∧ u.cell? ⟨n6, 2, none⟩ = some (.int .i64 0) ∧ u.cell? ⟨n6, 3, none⟩ = some (.int .i64 0)) (first | exact ⟨x0, x1, x2, x3, x4, x5⟩ | exact ⟨l0, l1, l2, l3, l4, l5⟩ | exact ⟨i0, i1, i2, i3, i4, i5⟩ | exact ⟨j0, j1, j2, j3, j4, j5⟩ | exact ⟨k0, k1, k2, k3, k4, k5⟩ | (have hXa : Ext No W7 (W7.alloc (.cells #[] 35)).drew := (hX0.alloc _).drew; exact ⟨hXa.cellv x0 id, hXa.cellv x1 id, hXa.cellv x2 id, hXa.cellv x3 id, hXa.cellv x4 id, hXa.cellv x5 id⟩) | (have hXa : Ext No W7 (W7.alloc (.cells #[.int .u8 9, .int .i64 0, .int .i64 0, .int .i64 0] 35)).drew := (hX0.alloc _).drew; exact ⟨hXa.cellv x0 id, hXa.cellv x1 id, hXa.cellv x2 id, hXa.cellv x3 id, hXa.cellv x4 id, hXa.cellv x5 id⟩) | (have hXa : Ext No W7 ((W7.alloc (.cells #[] 35)).alloc (.cells #[.int .u8 9, .int .i64 0, .int .i64 0, .int .i64 0] 35)).drew := ((hX0.alloc _).alloc _).drew; exact ⟨hXa.cellv x0 id, hXa.cellv x1 id, hXa.cellv x2 id, hXa.cellv x3 id, hXa.cellv x4 id, hXa.cellv x5 id⟩) | (have hXa : Ext No W7 ((W7.alloc (.cells #[.int .u8 9, .int .i64 0, .int .i64 0, .int .i64 0] 35)).alloc (.cells #[] 35)).drew := ((hX0.alloc _).alloc _).drew; exact ⟨hXa.cellv x0 id, hXa.cellv x1 id, hXa.cellv x2 id, hXa.cellv x3 id, hXa.cellv x4 id, hXa.cellv x5 id⟩) | (have hXa : Ext No W7 (w1.alloc (.cells #[.int .u8 9, .int .i64 0, .int .i64 0, .int .i64 0] 35)) := hx1.alloc _; exact ⟨hXa.cellv x0 id, hXa.cellv x1 id, hXa.cellv x2 id, hXa.cellv x3 id, hXa.cellv x4 id, hXa.cellv x5 id⟩))
                              (first | ((refine step_appendN (s := .tmp 146) (x := .tmp 147) (xs := ([] : List Stp)) (ys := O) (f := Stp.c) (B := W7.heap.size) rfl (by rfl) U22 I35 rfl (by decide) (by decide) (fun _ => rfl) Stp.one (by rfl) (own0S (by first | exact (heap_alloc W7 _).1 | exact alloc_heap (heap_alloc W7 _).1 _ | exact two_new W7 _ _) (by omega)) (by rfl) (HRE.out.O.ext (S := No) (by first | exact (hX0.alloc _).drew | exact ((hX0.alloc _).alloc _).drew) (fun _ _ h => h)) (by have := HLO.out; simp; omega) (by first | (simp; done) | (simp; omega)) ?_; intro v1 w1 ho1 he1 hb1; have hx1 : Ext No W7 w1 := (by first | exact Ext.app (hX0.alloc _).drew he1 (by omega) | exact Ext.app ((hX0.alloc _).alloc _).drew he1 (by omega)); have kz := hx1.size; have k0 := hx1.cellv x0 id; have k1 := hx1.cellv x1 id; have k2 := hx1.cellv x2 id; have k3 := hx1.cellv x3 id; have k4 := hx1.cellv x4 id; have k5 := hx1.cellv x5 id)) | ((refine step_appendN (s := .tmp 148) (x := .tmp 150) (xs := O) (ys := [askS]) (f := Stp.c) (B := W7.heap.size) (v := v1) rfl (by rfl) U22 I35 rfl (by decide) (by decide) (fun _ => rfl) Stp.one (by rfl) (by first | exact ho1 | exact ho1.alloc _) (by rfl) (rdS1 (by first | exact (heap_alloc w1 _).1 | exact he1.obj (two_new W7 _ _) (by simp [Value.ownBlock]) | exact he1.obj (alloc_heap (heap_alloc W7 _).1 _) (by simp [Value.ownBlock]))) (by have := HLO.out; simp; omega) (by first | omega | (simp; done) | (simp; omega)) ?_; intro v2 w4 ho2 he2 hb2; have hx2 : Ext No W7 w4 := (by first | exact Ext.app2 (hx1.alloc _) he2 ho1 | exact Ext.app2 hx1 he2 ho1 | exact Ext.app2 (hx1.alloc _).drew he2 ho1 | exact Ext.app2 hx1.drew he2 ho1); have j0 := hx2.cellv x0 id; have j1 := hx2.cellv x1 id; have j2 := hx2.cellv x2 id; have j3 := hx2.cellv x3 id; have j4 := hx2.cellv x4 id; have j5 := hx2.cellv x5 id)) | (go_at_call 12; (refine (to_run (RdS.of_own ho2).g (by have := HLO.out; simp; omega)).mono ?_); rintro r5 w5 ⟨v5, rfl, ho5, he5⟩; have hx5 := hx2.trans he5; have i0 := hx5.cellv x0 id; have i1 := hx5.cellv x1 id; have i2 := hx5.cellv x2 id; have i3 := hx5.cellv x3 id; have i4 := hx5.cellv x4 id; have i5 := hx5.cellv x5 id) | (go_at_call 11; (refine (building_run d false wei (p := p) (B := w.heap.size) (HRE.out.sent.no HA.out.2.1 hx5) HA.out.2.1 ho5 (by have := HLO.out; simp; omega) (stepsOk_adds d (HA.out.2.1.mono (Nat.le_trans HRE.out.he.size hx5.size)) (by have := HLO.out; simp; omega) HAO.out)).mono ?_); rintro r6 w6 h6; obtain ⟨vb, rfl, hbp⟩ := BPost.of h6 hx5; have l0 := hbp.ext.cellv x0 id; have l1 := hbp.ext.cellv x1 id; have l2 := hbp.ext.cellv x2 id; have l3 := hbp.ext.cellv x3 id; have l4 := hbp.ext.cellv x4 id; have l5 := hbp.ext.cellv x5 id; have HBP := Lib.hid hbp; clear h6 hbp))
                            all_goals
                              go_wp2
                              go_meet
                              case rel => exact HBP.out
                          case rest =>
                            obtain ⟨gb, cb, xb, spb, hlb⟩ := LastX.of HK3.out.1 (rotN_perm V turn) (rotN_perm E turn) (by rw [← other_steps, HOO.out]; exact hcut) HSN.out
                            have hvb := hlb.v
                            subst hvb
                            have HLB8 := Lib.hid hlb
                            have HRZ := Lib.hid (HRE.out.no HA.out.2.1 hcut.ext)
                            have HLA8 := Lib.hid (HLA.out.no hcut.ext)
                            clear hlb hcut
                            obtain ⟨W8, rfl⟩ : ∃ W8 : World, W8 = wc := ⟨_, rfl⟩
                            go_wp2_with fail
                            obtain ⟨pA0, pA1, pA2, pA3, pA4, pA5⟩ := HLA8.out.six; obtain ⟨rA0, rA1, rA2, rA3, rA4, rA5⟩ := HLB8.out.six
                            have lga := World.block_lt_of_cell? _ _ pA0
                            have lgb := World.block_lt_of_cell? _ _ rA0
                            have hSI : (S.length : Int) < (S.length : Int) + 1 := by omega
                            have hS0 : (0 : Int) ≤ (S.length : Int) := by omega
                            have hwr : IntKind.i64.wrap ((S.length : Int) + 1) = (S.length : Int) + 1 := by have := wrapm (m := S.length + 1) (by have := HLX.out; omega); simpa using this
                            go_region_held3 (fun u => u.cell? ⟨ga, S.length * 6, none⟩ = some (.int .u8 xa.er) ∧ u.cell? ⟨ga, S.length * 6 + 1, none⟩ = some (.int .i64 xa.a) ∧ u.cell? ⟨ga, S.length * 6 + 2, none⟩ = some (.int .i64 xa.b) ∧ u.cell? ⟨ga, S.length * 6 + 3, none⟩ = some (.int .i64 xa.w) ∧ u.cell? ⟨ga, S.length * 6 + 4, none⟩ = some (.slice xa.kq xa.kn xa.kc) ∧ u.cell? ⟨ga, S.length * 6 + 5, none⟩ = some (.slice xa.eq xa.en xa.ec) ∧ u.cell? ⟨gb, S.length * 6, none⟩ = some (.int .u8 xb.er) ∧ u.cell? ⟨gb, S.length * 6 + 1, none⟩ = some (.int .i64 xb.a) ∧ u.cell? ⟨gb, S.length * 6 + 2, none⟩ = some (.int .i64 xb.b) ∧ u.cell? ⟨gb, S.length * 6 + 3, none⟩ = some (.int .i64 xb.w) ∧ u.cell? ⟨gb, S.length * 6 + 4, none⟩ = some (.slice xb.kq xb.kn xb.kc) ∧ u.cell? ⟨gb, S.length * 6 + 5, none⟩ = some (.slice xb.eq xb.en xb.ec)) (first | exact ⟨pA0, pA1, pA2, pA3, pA4, pA5, rA0, rA1, rA2, rA3, rA4, rA5⟩ | exact ⟨pB0, pB1, pB2, pB3, pB4, pB5, rB0, rB1, rB2, rB3, rB4, rB5⟩ | exact ⟨pC0, pC1, pC2, pC3, pC4, pC5, rC0, rC1, rC2, rC3, rC4, rC5⟩ | exact ⟨pD0, pD1, pD2, pD3, pD4, pD5, rD0, rD1, rD2, rD3, rD4, rD5⟩ | exact ⟨pE0, pE1, pE2, pE3, pE4, pE5, rE0, rE1, rE2, rE3, rE4, rE5⟩ | exact ⟨pF0, pF1, pF2, pF3, pF4, pF5, rF0, rF1, rF2, rF3, rF4, rF5⟩)
                              (first | (go_at_call 10; (refine (awake_run (HA.out.1.no HA.out.2.1 HXE.out) (HA.out.2.1.mono HXE.out.size)).mono ?_); rintro rF wF ⟨rfl, heF⟩; have HAF := Lib.hid (HAE.out.no heF); have HBF := Lib.hid (HBE.out.no heF); have HXF := Lib.hid (HXE.out.trans heF); clear heF; obtain ⟨pF0, pF1, pF2, pF3, pF4, pF5⟩ := HAF.out.six; obtain ⟨rF0, rF1, rF2, rF3, rF4, rF5⟩ := HBF.out.six) | (go_at_call 16; (refine (same_ok HBD.out.ok (RdS.of_own HDD.out.K) (RdS.of_own HDD.out.E) (HBD.out.same _ _ HDD.out.D) (by have := HDD.out.lenK; have := HLS.out; omega) (by have := HDD.out.lenE; have := HLS.out; omega)).mono ?_); rintro rE wE ⟨rfl, heE⟩; have HAE := Lib.hid (HAD.out.no heE); have HBE := Lib.hid (HBD.out.no heE); have HME := Lib.hid (HDD.out.M.no heE); have HXE := Lib.hid (HXD.out.trans heE); have HSE := Lib.hid (Nat.le_trans HSD.out heE.size); clear heE; obtain ⟨pE0, pE1, pE2, pE3, pE4, pE5⟩ := HAE.out.six; obtain ⟨rE0, rE1, rE2, rE3, rE4, rE5⟩ := HBE.out.six) | (go_at_call 17; (refine (all_run HMC.out HSC.out (by have := HLS.out; simp only; omega)).mono ?_); rintro rD wD ⟨sD, spD, vD, eD, kD, xD, rfl, hDD, hMD, hkD, hxD, heD⟩; obtain ⟨qkD, ckD, rfl, -⟩ := own_read (f := oneC) (fun _ => rfl) hkD; obtain ⟨qxD, cxD, rfl, -⟩ := own_read (f := triC) (fun _ => rfl) hxD; have HDD := Lib.hid (DoneB.of hDD hMD hkD hxD); have HAD := Lib.hid (HAC.out.mm HMC.out.row heD); have HBD := Lib.hid (HBC.out.mm HMC.out.row heD); have HXD := Lib.hid (HXC.out.then heD (S := No) (fun c hc e => by have := HRZ.out.lt; omega)); have HSD := Lib.hid (Nat.le_trans HSC.out heD.size); clear hDD hMD hkD hxD heD; obtain ⟨pD0, pD1, pD2, pD3, pD4, pD5⟩ := HAD.out.six; obtain ⟨rD0, rD1, rD2, rD3, rD4, rD5⟩ := HBD.out.six) | (go_at_call 16; (refine (same_ok HAB.out.ok (RdS.of_own HDB.out.K) (RdS.of_own HDB.out.E) (HAB.out.same _ _ HDB.out.D) (by have := HDB.out.lenK; have := HLS.out; omega) (by have := HDB.out.lenE; have := HLS.out; omega)).mono ?_); rintro rC wC ⟨rfl, heC⟩; have HAC := Lib.hid (HAB.out.no heC); have HBC := Lib.hid (HBB.out.no heC); have HMC := Lib.hid (HDB.out.M.no heC); have HXC := Lib.hid (HXB.out.trans heC); have HSC := Lib.hid (Nat.le_trans HSB.out heC.size); clear heC; obtain ⟨pC0, pC1, pC2, pC3, pC4, pC5⟩ := HAC.out.six; obtain ⟨rC0, rC1, rC2, rC3, rC4, rC5⟩ := HBC.out.six) | (go_at_call 17; (refine (all_run (HRZ.out.M.no ((Ext.refl No W8).drew)) HRZ.out.hN (by have := HLS.out; simp only; omega)).mono ?_); rintro rB wB ⟨sB, spB, vB, eB, kB, xB, rfl, hDB, hMB, hkB, hxB, heB⟩; obtain ⟨qkB, ckB, rfl, -⟩ := own_read (f := oneC) (fun _ => rfl) hkB; obtain ⟨qxB, cxB, rfl, -⟩ := own_read (f := triC) (fun _ => rfl) hxB; have HDB := Lib.hid (DoneB.of hDB hMB hkB hxB); have HAB := Lib.hid ((HLA8.out.no ((Ext.refl No W8).drew)).mm (HRZ.out.M.no ((Ext.refl No W8).drew)).row heB); have HBB := Lib.hid ((HLB8.out.no ((Ext.refl No W8).drew)).mm (HRZ.out.M.no ((Ext.refl No W8).drew)).row heB); have HXB := Lib.hid ((HRZ.out.he.trans ((Ext.refl No W8).drew)).then heB (S := No) (fun c hc e => by have := HRZ.out.lt; omega)); have HSB := Lib.hid (Nat.le_trans HRZ.out.hN heB.size); clear hDB hMB hkB hxB heB; obtain ⟨pB0, pB1, pB2, pB3, pB4, pB5⟩ := HAB.out.six; obtain ⟨rB0, rB1, rB2, rB3, rB4, rB5⟩ := HBB.out.six))
                            go_wp2
                            go_ret
                            exact ⟨rfl, HXF.out⟩
            · have h60' : (60 : Int) < (S.length : Int) := by omega
              clear h60
              go_wp2_with fail
              have HEX := Lib.hid (HO.out.he.trans HK2.out.2.1)
              refine (awake_run (HA.out.1.no HA.out.2.1 HEX.out) (HA.out.2.1.mono HEX.out.size)).mono ?_
              rintro r4 w4 ⟨rfl, h4⟩
              have H4 := Lib.hid h4
              clear h4
              go_wp2
              go_ret
              exact ⟨rfl, HEX.out.trans H4.out⟩
  · have hf1 : (decide (V.length ≤ 2147483647) && decide (E.length ≤ 2147483647)) = false := by
      rw [Bool.eq_false_iff]; intro h
      simp only [Bool.and_eq_true, decide_eq_true_eq] at h
      exact hfit h
    clear hfit
    go_enter Tryz.func4, Tryz.ntmps4
    go_wp2_with (go_at_call 15; (refine fits_run.mono ?_); rintro r1 w1 ⟨rfl, h1⟩; rw [hf1]; have H1 := Lib.hid h1; clear h1)
    go_ret
    exact ⟨rfl, ((Ext.refl No w).alloc _).trans H1.out⟩
end Go.Proofs.YtcenebjdhbdejaaGreatDoor
