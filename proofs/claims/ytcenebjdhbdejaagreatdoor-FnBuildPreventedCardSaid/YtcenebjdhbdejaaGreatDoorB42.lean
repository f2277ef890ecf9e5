/- The lists' own steps, all of them; buildStep, walked: true, where both say the same. FnBuild, walked. -/
import Derived.Test.YtcenebjdhbdejaaGreatDoorB24
import Derived.Test.YtcenebjdhbdejaaGreatDoorB29
import Derived.Test.YtcenebjdhbdejaaGreatDoorB23
import Derived.Test.YtcenebjdhbdejaaGreatDoorB30
import Derived.Test.YtcenebjdhbdejaaGreatDoorB41
namespace Go.Proofs.YtcenebjdhbdejaaGreatDoor
open Go.MapKept

theorem DoPost.imp {dir prev : Bool} {N mm : Nat} {D D' : PS → SP → Prop} {w w' : World} {r : Ending} (h : DoPost dir prev N mm D w r w') (hd : ∀ s sp, D s sp → D' s sp) : DoPost dir prev N mm D' w r w' := by
  obtain ⟨s', sp, v1, v2, ks, xs, h1, h2, h3⟩ := h
  exact ⟨s', sp, v1, v2, ks, xs, h1, hd _ _ h2, h3⟩

theorem do_all {dir : Bool} {x : Stp} {w : World} {N mm : Nat} {s : PS} {vs es : Value} (h0 : 0 ≤ x.op) (h1 : x.op ≤ 11) (h : Mo w N mm dir false s vs es) (hN : N ≤ w.heap.size) (hl : s.V.length + s.E.length < 300000) :
    Calls Tryz.prog 14 #[.pointer (some ⟨mm, 0, none⟩), x.val] w (DoPost dir false N mm (DoM dir x s) w) := by
  obtain ⟨op, a, b, wt⟩ := x
  simp only at h0 h1
  have hl' : s.V.length + s.E.length < 900000 := by omega
  rcases op_cases h0 h1 with hx | hx | hx | hx | hx | hx | hx | hx | hx | hx | hx | hx
  · subst hx; exact (do_av h hN hl').mono fun r w' hh => hh.imp fun s sp hd => by simpa [DoM] using hd
  · subst hx; exact (do_rv h hN hl').mono fun r w' hh => hh.imp fun s sp hd => by simpa [DoM] using hd
  · subst hx; exact (do_ae h hN hl').mono fun r w' hh => hh.imp fun s sp hd => by simpa [DoM] using hd
  · subst hx; exact (do_re h hN hl').mono fun r w' hh => hh.imp fun s sp hd => by simpa [DoM] using hd
  · subst hx; exact (do_ue h hN hl').mono fun r w' hh => hh.imp fun s sp hd => by simpa [DoM] using hd
  · subst hx; exact (do_vx h hN hl').mono fun r w' hh => hh.imp fun s sp hd => by simpa [DoM] using hd
  · subst hx; exact (do_ed h hN hl').mono fun r w' hh => hh.imp fun s sp hd => by simpa [DoM] using hd
  · subst hx; exact (do_ct h hN hl').mono fun r w' hh => hh.imp fun s sp hd => by simpa [DoM] using hd
  · subst hx; exact (do_es h hN hl).mono fun r w' hh => hh.imp fun s sp hd => by simpa [DoM] using hd
  · subst hx; exact (do_am h hN hl).mono fun r w' hh => hh.imp fun s sp hd => by simpa [DoM] using hd
  · subst hx; exact (do_pm h hN hl).mono fun r w' hh => hh.imp fun s sp hd => by simpa [DoM] using hd
  · subst hx; exact (do_cl h hN hl').mono fun r w' hh => hh.imp fun s sp hd => by simpa [DoM] using hd

set_option maxRecDepth 100000 in
set_option maxHeartbeats 2000000 in
theorem bstep_run {w : World} {er a b wt op : Int} {ks es ks' es' : Value} {K : List Int} {E : List Tri} (hk : RdS w ks K oneC) (he : RdS w es E triC) (hk' : RdS w ks' K oneC) (he' : RdS w es' E triC) (hK : K.length < 1099511627776) (hE : E.length < 1099511627776) :
    Calls Tryz.prog 13 #[saidV er a b wt ks es, saidV er a b wt ks' es', .int .u8 op] w (Trues w) := by
  obtain ⟨q1, d1, rfl⟩ := hk.form
  obtain ⟨q2, d2, rfl⟩ := he.form
  obtain ⟨q3, d3, rfl⟩ := hk'.form
  obtain ⟨q4, d4, rfl⟩ := he'.form
  have e0 : Ext No w (said2 w er a b wt (.slice q1 K.length d1) (.slice q2 E.length d2) (.slice q3 K.length d3) (.slice q4 E.length d4)) := ((Ext.refl No w).alloc _).alloc _
  have HR := Lib.hid (And.intro hk (And.intro he (And.intro hk' (And.intro he' (And.intro hK (And.intro hE (And.intro e0 (said2_rows w er a b wt (.slice q1 K.length d1) (.slice q2 E.length d2) (.slice q3 K.length d3) (.slice q4 E.length d4)))))))))
  clear hk he hk' he' hK hE e0
  have fin : ∀ W, Ext No w W → Calls Tryz.prog 16 #[saidV er a b wt (.slice q1 K.length d1) (.slice q2 E.length d2), saidV er a b wt (.slice q3 K.length d3) (.slice q4 E.length d4)] W (Trues W) := fun W hx => by
    obtain ⟨h1, h2, h3, h4, h5, h6, -⟩ := HR.out
    exact same_run (h1.ext hx (fun _ _ h => h)) (h2.ext hx (fun _ _ h => h)) (h3.ext hx (fun _ _ h => h)) (h4.ext hx (fun _ _ h => h)) h5 h6
  have HF := Lib.hid fin
  clear fin
  by_cases h4 : op = 4
  · subst h4
    by_cases h0 : er = 0
    · subst h0
      go_enter Tryz.func13, Tryz.ntmps13
      go_wp2_with fail
      refine (HF.out _ (((Ext.refl No w).alloc _).alloc _)).mono ?_
      rintro r w' ⟨rfl, h⟩
      go_wp2
      go_ret
      exact ⟨rfl, (((Ext.refl No w).alloc _).alloc _).trans h⟩
    · have hb : (er != 0) = true := by simpa using h0
      clear h0
      go_enter Tryz.func13, Tryz.ntmps13
      go_wp2_with fail
      refine (HF.out _ (((Ext.refl No w).alloc _).alloc _)).mono ?_
      rintro r w' ⟨rfl, h⟩
      go_wp2
      go_ret
      exact ⟨rfl, (((Ext.refl No w).alloc _).alloc _).trans h⟩
  · have hb : (op == 4) = false := by simpa using h4
    clear h4
    go_enter Tryz.func13, Tryz.ntmps13
    go_wp2_with fail
    refine (HF.out _ (((Ext.refl No w).alloc _).alloc _)).mono ?_
    rintro r w' ⟨rfl, h⟩
    go_wp2
    go_ret
    exact ⟨rfl, (((Ext.refl No w).alloc _).alloc _).trans h⟩
end Go.Proofs.YtcenebjdhbdejaaGreatDoor

namespace Go.Proofs.YtcenebjdhbdejaaGreatDoor
open Go.MapKept

/-- the states of a chain -/
theorem Chain.seq {D : Stp → PS → PS → SP → Prop} {l : List Stp} {s s2 : PS} {sps : List SP} (h : Chain D l s s2 sps) :
    ∃ f : Nat → PS, f 0 = s ∧ f l.length = s2 ∧ sps.length = l.length ∧ ∀ (i : Nat) (h : i < l.length) (h' : i < sps.length), D l[i] (f i) (f (i + 1)) sps[i] := by
  induction h with
  | nil s => exact ⟨fun _ => s, rfl, rfl, rfl, fun i h => by simp at h⟩
  | @snoc l s s1 s2 sps x sp hc hd ih =>
    obtain ⟨f, h0, h1, h2, h3⟩ := ih
    refine ⟨fun j => if j ≤ l.length then f j else s2, by simp [h0], ?_, by simp [h2], fun i hi hi' => ?_⟩
    · show (if (l ++ [x]).length ≤ l.length then _ else _) = _
      rw [if_neg (by simp)]
    simp only [List.length_append, List.length_cons, List.length_nil] at hi hi'
    by_cases hlt : i < l.length
    · have := h3 i hlt (by omega)
      simp only [List.getElem_append_left hlt, List.getElem_append_left (show i < sps.length by omega), if_pos (show i ≤ l.length by omega), if_pos (show i + 1 ≤ l.length by omega)]
      exact this
    · have e : i = l.length := by omega
      subst e
      simp only [if_pos (Nat.le_refl _), if_neg (show ¬ l.length + 1 ≤ l.length by omega), h1]
      rw [List.getElem_append_right (by omega), List.getElem_append_right (by omega)]
      simpa using hd

/-- a round -/
def BLR (dir : Bool) (f : Nat → PS) (w3 : World) (N mm : Nat) (n : Nat) (k : Nat) (iv : Value) (wr : World) : Prop :=
  ∃ (i : Nat) (m : PS) (vs es : Value), iv = .int .i64 i ∧ i + k = n ∧ Mo wr N mm dir false m vs es ∧ Sim dir (f i) m ∧ Fine dir m ∧ m.V.length + m.E.length ≤ i ∧ Ext (fun c => c = mm) w3 wr

theorem DoM.size {d : Bool} {x : Stp} {s m s1 m1 : PS} {sp sm : SP} (h : As d s1 m1 sp sm) (hi : DoI d x s s1 sp) (hs : Sim d s m) : m1.V.length + m1.E.length ≤ m.V.length + m.E.length + 1 := by
  have h1 := hi.size
  have h2 := h.sim.V.length_eq
  have h3 := h.sim.lenE
  have h4 := hs.V.length_eq
  have h5 := hs.lenE
  omega

theorem bstep_run2 {w : World} {er a b wt er' a' b' wt' op : Int} {ks es ks' es' : Value} {K : List Int} {E : List Tri} (e1 : er = er') (e2 : a = a') (e3 : b = b') (e4 : wt = wt') (hk : RdS w ks K oneC) (he : RdS w es E triC) (hk' : RdS w ks' K oneC) (he' : RdS w es' E triC) (hK : K.length < 1099511627776) (hE : E.length < 1099511627776) :
    Calls Tryz.prog 13 #[saidV er a b wt ks es, saidV er' a' b' wt' ks' es', .int .u8 op] w (Trues w) := by
  subst e1; subst e2; subst e3; subst e4
  exact bstep_run hk he hk' he' hK hE

/-- what was said, read behind the building -/
theorem said_read {w3 W : World} {N mm : Nat} {cs : Array Value} {fr : Nat × Nat} {y : SaidX} {sp : SP} (h : SaidOk N w3 y sp) (hm : w3.heap[mm]? = some (.cells cs 29 fr)) (he : Ext (fun c => c = mm) w3 W) : RdS W y.ks sp.ks oneC ∧ RdS W y.es sp.es triC :=
  ⟨RdS.of_own (ownsRow_ext h.ks he (fun c hc e => row_ne hm h.ks (by decide) (by rw [hc, e]))), RdS.of_own (ownsRow_ext h.es he (fun c hc e => row_ne hm h.es (by decide) (by rw [hc, e])))⟩

theorem all2_at {α β : Type} {R : α → β → Prop} {xs : List α} {ys : List β} (h : All2 R xs ys) {i : Nat} (hi : i < xs.length) (hi' : i < ys.length) : R xs[i] ys[i] := h.2 i _ _ (List.getElem?_eq_getElem hi) (List.getElem?_eq_getElem hi')

/-- behind the lists' own step -/
structure BL7 (dir : Bool) (N mm : Nat) (w3 : World) (y : SaidX) (s1 : PS) (n : Nat) (m1 : PS) (sm : SP) (vs es ks xs : Value) (w7 : World) : Prop where
  M : Mo w7 N mm dir false m1 vs es
  same : ∃ sp, As dir s1 m1 sp sm
  size : m1.V.length + m1.E.length ≤ n + 1
  he : Ext (fun c => c = mm) w3 w7
  call : ∀ op : Int, Calls Tryz.prog 13 #[saidV y.er y.a y.b y.w y.ks y.es, saidV sm.er sm.a sm.b sm.w ks xs, .int .u8 op] w7 (Trues w7)

theorem DoI.len {dir : Bool} {x : Stp} {s s' : PS} {sp : SP} (h : DoI dir x s s' sp) : sp.ks.length ≤ s.V.length ∧ sp.es.length ≤ 2 * s.E.length := by
  unfold DoI at h
  split at h
  · unfold DoAV at h; split at h <;> (rw [h.2]; simp)
  split at h
  · unfold DoRV at h
    split at h
    · rw [h.2]; simp
    · split at h <;> (rw [h.2]; simp)
  split at h
  · unfold DoAE at h
    split at h
    · rw [h.2]; simp
    · split at h <;> (rw [h.2]; simp)
  split at h
  · unfold DoRE at h; split at h <;> (rw [h.2]; simp)
  split at h
  · unfold DoUE at h; split at h <;> (rw [h.2]; simp)
  split at h
  · rcases h.2 with ⟨-, h⟩ | ⟨-, h⟩ <;> (rw [h]; simp)
  split at h
  · rcases h.2 with ⟨-, h⟩ | ⟨_, -, h⟩ <;> (rw [h]; simp)
  split at h
  · rw [h.2]; simp
  split at h
  · obtain ⟨-, -, -, -, -, h1, h2, -⟩ := h
    rw [h1, h2.length_eq]; simp; omega
  split at h
  · obtain ⟨-, -, -, -, -, h1, -, h2, -⟩ := h
    rw [h1.length_eq, h2.length_eq, stored_len]
    split <;> omega
  split at h
  · obtain ⟨-, -, -, -, -, h1, -, h2, -⟩ := h
    rw [h1.length_eq, h2.length_eq]
    unfold predL
    split
    · simp; omega
    · rw [stored_len]; simp
  · rw [h.2]; simp

theorem BL7.of {dir : Bool} {N mm N2 B7 : Nat} {w3 w7 : World} {cs : Array Value} {fr : Nat × Nat} {x : Stp} {y : SaidX} {s s1 m m1 : PS} {sp sm : SP} {vs es ks xs : Value} (hS : Sim dir s m) (hF : Fine dir m) (hab : dir = false → 2 ≤ x.op → x.op ≤ 4 → x.a ≠ x.b) (hi : DoI dir x s s1 sp) (hD : DoM dir x m m1 sm)
    (hM : Mo w7 N mm dir false m1 vs es) (hks : w7.ownsRow B7 2 1 ks sm.ks.length (sm.ks.flatMap oneC)) (hxs : w7.ownsRow B7 48 3 xs sm.es.length (sm.es.flatMap triC)) (hok : SaidOk N2 w3 y sp) (hm : w3.heap[mm]? = some (.cells cs 29 fr)) (he : Ext (fun c => c = mm) w3 w7)
    (hml : m.V.length + m.E.length < 300000) : BL7 dir N mm w3 y s1 (m.V.length + m.E.length) m1 sm vs es ks xs w7 := by
  have ha := step_law hS hF (fun h1 h2 => hab h1 (by omega) (by omega)) hi hD
  refine ⟨hM, ⟨sp, ha⟩, DoM.size ha hi hS, he, fun op => ?_⟩
  obtain ⟨r1, r2⟩ := said_read hok hm he
  have hlen := hi.len
  have h4 := hS.V.length_eq
  have h5 := hS.lenE
  have e := ha.same
  subst e
  exact bstep_run2 hok.er hok.a hok.b hok.wt r1 r2 (RdS.of_own hks) (RdS.of_own hxs) (by omega) (by omega)

/-- ten cells, in a world that has turned none of them -/
theorem cells10 {S : Nat → Prop} {w w' : World} {gx o b : Nat} {a0 a1 a2 a3 a4 a5 b0 b1 b2 b3 : Value} (he : Ext S w w') (h1 : ¬ S gx) (h2 : ¬ S b)
    (h : (w.cell? ⟨gx, o, none⟩ = some a0 ∧ w.cell? ⟨gx, o + 1, none⟩ = some a1 ∧ w.cell? ⟨gx, o + 2, none⟩ = some a2 ∧ w.cell? ⟨gx, o + 3, none⟩ = some a3 ∧ w.cell? ⟨gx, o + 4, none⟩ = some a4 ∧ w.cell? ⟨gx, o + 5, none⟩ = some a5) ∧ w.cell? ⟨b, 0, none⟩ = some b0 ∧ w.cell? ⟨b, 1, none⟩ = some b1 ∧ w.cell? ⟨b, 2, none⟩ = some b2 ∧ w.cell? ⟨b, 3, none⟩ = some b3) :
    (w'.cell? ⟨gx, o, none⟩ = some a0 ∧ w'.cell? ⟨gx, o + 1, none⟩ = some a1 ∧ w'.cell? ⟨gx, o + 2, none⟩ = some a2 ∧ w'.cell? ⟨gx, o + 3, none⟩ = some a3 ∧ w'.cell? ⟨gx, o + 4, none⟩ = some a4 ∧ w'.cell? ⟨gx, o + 5, none⟩ = some a5) ∧ w'.cell? ⟨b, 0, none⟩ = some b0 ∧ w'.cell? ⟨b, 1, none⟩ = some b1 ∧ w'.cell? ⟨b, 2, none⟩ = some b2 ∧ w'.cell? ⟨b, 3, none⟩ = some b3 := by
  obtain ⟨⟨x0, x1, x2, x3, x4, x5⟩, y0, y1, y2, y3⟩ := h
  exact ⟨⟨he.cellv x0 h1, he.cellv x1 h1, he.cellv x2 h1, he.cellv x3 h1, he.cellv x4 h1, he.cellv x5 h1⟩, he.cellv y0 h2, he.cellv y1 h2, he.cellv y2 h2, he.cellv y3 h2⟩

theorem BLne {w : World} {B mm gx n cap : Nat} {xs : List Value} {cs : Array Value} {fr : Nat × Nat} (h : w.ownsRow B 39 6 (.slice (some ⟨gx, 0, none⟩) n cap) n xs) (hm : w.heap[mm]? = some (.cells cs 29 fr)) : ¬ (fun c => c = mm) gx := fun e => row_ne hm h (by decide) (by rw [← (show gx = mm from e)]; rfl)

set_option maxRecDepth 100000 in
set_option maxHeartbeats 4000000 in
theorem build_run {w : World} {dir wei : Bool} {lv : Value} {l : List Stp} {p : Nat → Addr} (hp : Sent w p) (hB : Below6 w.heap.size p) (hl : RdG w lv l Stp.c) (h0 : ∀ x ∈ l, 0 ≤ x.op) :
    Calls Tryz.prog 3 #[.bool dir, .bool wei, lv] w (Trues w) := by
  obtain ⟨q, c, rfl⟩ := hl.form
  by_cases hsz : l.length ≤ 2147483647
  · have hnsz : ¬ (2147483647 : Int) < (l.length : Int) := by omega
    have HG := Lib.hid (And.intro hp (And.intro hB (And.intro hl (And.intro h0 hsz))))
    clear hp hB hl h0 hsz
    go_enter Tryz.func3, Tryz.ntmps3
    go_wp2_with fail
    refine (right_run (dir := dir) (most := 200) HG.out.2.2.1 (by have := HG.out.2.2.2.2; omega)).mono ?_
    rintro r1 w1 ⟨rfl, he1⟩
    have H1 := Lib.hid he1
    clear he1
    by_cases hr : rightL dir 200 l = true
    · rw [hr]
      have hall : (∀ x ∈ l, rightS dir x = true) ∧ l.length ≤ 200 := by
        unfold rightL at hr
        simp only [Bool.and_eq_true, List.all_eq_true, decide_eq_true_eq] at hr
        exact ⟨hr.1, by omega⟩
      have HA := Lib.hid hall
      clear hr hall
      go_wp2_with fail
      have e2 : Ext No w (w1.alloc (.cells #[.bool dir, .bool false, nilS, nilS] 29)) := H1.out.alloc _
      have rm : (w1.alloc (.cells #[.bool dir, .bool false, nilS, nilS] 29)).heap[w1.heap.size]? = some (.cells #[.bool dir, .bool false, nilS, nilS] 29 (0, 0)) := (heap_alloc w1 _).1
      have hto := to_run (HG.out.2.2.1.ext e2 (fun _ _ h => h)) (by have := HA.out.2; omega)
      have H2 := Lib.hid (And.intro e2 rm)
      clear e2 rm
      refine hto.mono ?_
      rintro r2 w2 ⟨v2, rfl, ho2, he2⟩
      have H3 := Lib.hid (And.intro ho2 he2)
      clear hto ho2 he2
      go_wp2_with fail
      have eB : Ext No w w2 := H2.out.1.trans H3.out.2
      refine (building_run dir false wei (D := DoI dir) (p := p) (B := w.heap.size) (HG.out.1.ext HG.out.2.1 eB (fun _ h => h.elim)) HG.out.2.1 H3.out.1 (by have := HA.out.2; omega) (stepsOk_all dir (HG.out.2.1.mono eB.size) (by have := HA.out.2; omega) HA.out.1 HG.out.2.2.2.1)).mono ?_
      rintro r3 w3 ⟨ov, sE, xs, sps, rfl, hc, ho, ha, he3, hxl⟩
      obtain ⟨f, hf0, -, hsl, hst⟩ := hc.seq
      obtain ⟨qx, cx, rfl, -⟩ := own_read (f := SaidX.c) (fun _ => rfl) ho
      have hmm : w1.heap.size < w2.heap.size := by have := H3.out.2.size; simp at this; omega
      have hM0 : Mo w3 w.heap.size w1.heap.size dir false ⟨[], []⟩ nilS nilS := ⟨he3.obj (H3.out.2.obj H2.out.2 id) id, nil_own, nil_own⟩
      have H4 := Lib.hid (And.intro ho (And.intro ha (And.intro (eB.trans he3) (And.intro hxl (And.intro hf0 (And.intro hsl (And.intro hst (And.intro hM0 hmm))))))))
      clear hc ho ha he3 hf0 hsl hst hmm eB hM0
      rw [hxl]
      clear hxl
      go_wp2_with fail
      try go_frame
      go_loopg [34] l.length (fun k iv wr => BLR dir f w3 w.heap.size w1.heap.size l.length k iv wr)
      case atStart => exact ⟨0, ⟨[], []⟩, nilS, nilS, rfl, by simp, H4.out.2.2.2.2.2.2.2.1, by rw [H4.out.2.2.2.2.1]; exact Sim.refl _ _, nil_fine dir, by simp, Ext.refl _ _⟩
      case round =>
        obtain ⟨i, m, vs, es, rfl, hk, hM, hS, hF, hml, he⟩ := hrel
        by_cases hlt : i < l.length
        · have hix : i < xs.length := by rw [H4.out.2.2.2.1]; exact hlt
          have his : i < sps.length := by rw [H4.out.2.2.2.2.2.1]; exact hlt
          have hox := ownsRow_ext H4.out.1 he (fun c hc e => row_ne H4.out.2.2.2.2.2.2.2.1.row H4.out.1 (by decide) (by rw [hc, e]))
          have heW : Ext No w wr := H4.out.2.2.1.then he (fun c hc e => by have := H1.out.size; omega)
          obtain ⟨gx, hqx, hgx, hcx⟩ := own_at (f := SaidX.c) (fun _ => rfl) hox hix
          obtain ⟨g, off, hq, hg, hc⟩ := RdG.at (f := Stp.c) (size := 4) (fun _ => rfl) (HG.out.2.2.1.ext heW (fun _ _ h => h)) hlt
          subst hqx
          subst hq
          have hlt' : (i : Int) < (l.length : Int) := by omega
          have hpos : (0 : Int) ≤ (i : Int) := by omega
          have hixx : (i : Int) < (xs.length : Int) := by omega
          have hok := all2_at H4.out.2.1 hix his
          have hst := H4.out.2.2.2.2.2.2.1 i hlt his
          have hx0 := HG.out.2.2.2.1 _ (List.getElem_mem hlt)
          have hx1 := HA.out.1 _ (List.getElem_mem hlt)
          have c0 : wr.cell? ⟨g, off + i * 4, none⟩ = some (.int .u8 (l[i]'hlt).op) := hc 0 (by decide)
          have c1 : wr.cell? ⟨g, off + i * 4 + 1, none⟩ = some (kI (l[i]'hlt).a) := hc 1 (by decide)
          have c2 : wr.cell? ⟨g, off + i * 4 + 2, none⟩ = some (kI (l[i]'hlt).b) := hc 2 (by decide)
          have c3 : wr.cell? ⟨g, off + i * 4 + 3, none⟩ = some (.int .i64 (l[i]'hlt).wt) := hc 3 (by decide)
          have d0 : wr.cell? ⟨gx, i * 6, none⟩ = some (.int .u8 (xs[i]'hix).er) := hcx 0 (by decide)
          have d1 : wr.cell? ⟨gx, i * 6 + 1, none⟩ = some (kI (xs[i]'hix).a) := hcx 1 (by decide)
          have d2 : wr.cell? ⟨gx, i * 6 + 2, none⟩ = some (kI (xs[i]'hix).b) := hcx 2 (by decide)
          have d3 : wr.cell? ⟨gx, i * 6 + 3, none⟩ = some (.int .i64 (xs[i]'hix).w) := hcx 3 (by decide)
          have d4 : wr.cell? ⟨gx, i * 6 + 4, none⟩ = some (.slice (xs[i]'hix).kq (xs[i]'hix).kn (xs[i]'hix).kc) := hcx 4 (by decide)
          have d5 : wr.cell? ⟨gx, i * 6 + 5, none⟩ = some (.slice (xs[i]'hix).eq (xs[i]'hix).en (xs[i]'hix).ec) := hcx 5 (by decide)
          generalize l[i]'hlt = x at hst hx0 hx1 c0 c1 c2 c3
          generalize xs[i]'hix = y at hok d0 d1 d2 d3 d4 d5
          generalize sps[i]'his = sp at hok hst
          have eA : Ext No wr (wr.alloc (.cells x.c.toArray 35)) := (Ext.refl No wr).alloc _
          have rA : (wr.alloc (.cells x.c.toArray 35)).heap[wr.heap.size]? = some (.cells #[.int .u8 x.op, kI x.a, kI x.b, .int .i64 x.wt] 35 (0, 0)) := (heap_alloc wr _).1
          have HK := Lib.hid (And.intro hk (And.intro hM (And.intro hS (And.intro hF (And.intro hml (And.intro he (And.intro heW (And.intro hok (And.intro hst (And.intro hx0 (And.intro hx1 (And.intro eA rA))))))))))))
          clear hk hM hS hF hml he heW hok hst hx0 hx1 hc hcx hox hix his
          go_wp2_with fail
          have HW0 := Lib.hid (And.intro HK.out.2.2.2.2.2.2.2.2.2.2.2.1 HK.out.2.2.2.2.2.2.2.2.2.2.2.2)
          have d0 := HW0.out.1.cellv d0 id
          have d1 := HW0.out.1.cellv d1 id
          have d2 := HW0.out.1.cellv d2 id
          have d3 := HW0.out.1.cellv d3 id
          have d4 := HW0.out.1.cellv d4 id
          have d5 := HW0.out.1.cellv d5 id
          clear c0 c1 c2 c3
          revert d0 d1 d2 d3 d4 d5 HW0
          generalize wr.alloc (.cells x.c.toArray 35) = W
          intro HW0 d0 d1 d2 d3 d4 d5
          obtain ⟨b0, b1, b2, b3, -⟩ := cells4 HW0.out.2
          have lb := World.block_lt_of_cell? _ _ b0
          have ldx := World.block_lt_of_cell? _ _ d0
          have hMW := Lib.hid (HK.out.2.1.no HW0.out.1)
          clear eA rA
          go_region_held3 (fun u => (u.cell? ⟨gx, i * 6, none⟩ = some (.int .u8 y.er) ∧ u.cell? ⟨gx, i * 6 + 1, none⟩ = some (kI y.a) ∧ u.cell? ⟨gx, i * 6 + 2, none⟩ = some (kI y.b) ∧ u.cell? ⟨gx, i * 6 + 3, none⟩ = some (.int .i64 y.w) ∧ u.cell? ⟨gx, i * 6 + 4, none⟩ = some (.slice y.kq y.kn y.kc) ∧ u.cell? ⟨gx, i * 6 + 5, none⟩ = some (.slice y.eq y.en y.ec)) ∧ u.cell? ⟨wr.heap.size, 0, none⟩ = some (.int .u8 x.op) ∧ u.cell? ⟨wr.heap.size, 1, none⟩ = some (kI x.a) ∧ u.cell? ⟨wr.heap.size, 2, none⟩ = some (kI x.b) ∧ u.cell? ⟨wr.heap.size, 3, none⟩ = some (.int .i64 x.wt)) (first | exact ⟨⟨d0, d1, d2, d3, d4, d5⟩, b0, b1, b2, b3⟩ | exact HC7.out | exact HC8.out)
            (first
              | (go_at_call 14; (refine (do_all (x := x) HK.out.2.2.2.2.2.2.2.2.2.1 (right_op HK.out.2.2.2.2.2.2.2.2.2.2.1).1 (hMW.out.no ((Ext.refl No W).drew)) (Nat.le_trans HK.out.2.2.2.2.2.2.1.size HW0.out.1.size) (by have := HK.out.2.2.2.2.1; have := HA.out.2; omega)).mono ?_); rintro r7 w7 ⟨m1, sm, vs1, es1, ks1, xs1, rfl, hD, hM1, hks1, hxs1, he7⟩; have H7 := Lib.hid (BL7.of (HK.out.2.2.1) HK.out.2.2.2.1 (right_op HK.out.2.2.2.2.2.2.2.2.2.2.1).2 HK.out.2.2.2.2.2.2.2.2.1 hD hM1 hks1 hxs1 HK.out.2.2.2.2.2.2.2.1 H4.out.2.2.2.2.2.2.2.1.row ((HK.out.2.2.2.2.2.1.trans (HW0.out.1.no)).trans (((Ext.refl _ W).drew).trans he7)) (by have := HK.out.2.2.2.2.1; have := HA.out.2; omega)); have HC7 := Lib.hid (cells10 (w := W) (w' := w7) ((Ext.refl _ W).drew.trans he7) (BLne H4.out.1 H4.out.2.2.2.2.2.2.2.1.row) (by have := H4.out.2.2.2.2.2.2.2.2; have := HK.out.2.2.2.2.2.1.size; have := HK.out.2.2.2.2.2.2.1.size; have h77 := H4.out.2.2.2.2.2.2.2.1.lt' (Nat.le_trans (Nat.le_refl _) H4.out.2.2.1.size); omega) ⟨⟨d0, d1, d2, d3, d4, d5⟩, b0, b1, b2, b3⟩); clear hD hM1 hks1 hxs1 he7)
              | (go_at_call 13; (refine (H7.out.call x.op).mono ?_); rintro r8 w8 ⟨rfl, h8⟩; have H8 := Lib.hid h8; have HC8 := Lib.hid (cells10 (w := w7) (w' := w8) (S := No) h8 id id HC7.out); clear h8))
          go_wp2_with fail
          go_roundg (l.length - (i + 1))
          case measure => have := HK.out.1; omega
          case rel =>
            have h := H7.out
            obtain ⟨sp', ha⟩ := h.same
            exact ⟨i + 1, m1, vs1, es1, by simp, by omega, h.M.no H8.out, ha.sim, ha.fine, by have := h.size; have := HK.out.2.2.2.2.1; omega, h.he.trans H8.out.no⟩
        · have hnlt : ¬ (i : Int) < (l.length : Int) := by omega
          have heW : Ext No w wr := H4.out.2.2.1.then he (fun c hc e => by have := H1.out.size; omega)
          have HW := Lib.hid heW
          clear hk hM hS hF hml he heW
          go_wp2_with fail
          refine (awake_run (HG.out.1.ext HG.out.2.1 HW.out (fun _ h => h.elim)) (HG.out.2.1.mono HW.out.size)).mono ?_
          rintro r5 w5 ⟨rfl, h5⟩
          go_wp2
          go_ret
          exact ⟨rfl, HW.out.trans h5⟩
    · have hrf : rightL dir 200 l = false := by simpa using hr
      rw [hrf]
      clear hr hrf
      go_wp2_with fail
      refine (awake_run (HG.out.1.ext HG.out.2.1 H1.out (fun _ h => h.elim)) (HG.out.2.1.mono H1.out.size)).mono ?_
      rintro r5 w5 ⟨rfl, h5⟩
      go_wp2
      go_ret
      exact ⟨rfl, H1.out.trans h5⟩
  · have hnsz : (2147483647 : Int) < (l.length : Int) := by omega
    clear hp hB hl h0 hsz
    go_enter Tryz.func3, Tryz.ntmps3
    go_wp2
    go_ret
    exact ⟨rfl, Ext.refl _ _⟩
end Go.Proofs.YtcenebjdhbdejaaGreatDoor
