/- FnBuildPrevented, walked. -/
import Derived.Test.YtcenebjdhbdejaaGreatDoorB50
namespace Go.Proofs.YtcenebjdhbdejaaGreatDoor
open Go.MapKept

/-- a round -/
def BLP (f : Nat → PS) (w3 : World) (N mm : Nat) (n : Nat) (k : Nat) (iv : Value) (wr : World) : Prop :=
  ∃ (i : Nat) (m : PS) (vs es : Value), iv = .int .i64 i ∧ i + k = n ∧ Mo wr N mm true true m vs es ∧ (Sim true (f i) m ∧ Acyc m.E) ∧ Fine true m ∧ m.V.length + m.E.length ≤ i ∧ Ext (fun c => c = mm) w3 wr

/-- behind the lists' own step -/
structure BL7P (N mm : Nat) (w3 : World) (y : SaidX) (s1 : PS) (n : Nat) (m1 : PS) (sm : SP) (vs es ks xs : Value) (w7 : World) : Prop where
  M : Mo w7 N mm true true m1 vs es
  same : ∃ sp, As true s1 m1 sp sm
  acyc : Acyc m1.E
  size : m1.V.length + m1.E.length ≤ n + 1
  he : Ext (fun c => c = mm) w3 w7
  call : ∀ op : Int, Calls Tryz.prog 13 #[saidV y.er y.a y.b y.w y.ks y.es, saidV sm.er sm.a sm.b sm.w ks xs, .int .u8 op] w7 (Trues w7)

theorem BL7P.of {N mm N2 B7 : Nat} {w3 w7 : World} {cs : Array Value} {fr : Nat × Nat} {x : Stp} {y : SaidX} {s s1 m m1 : PS} {sp sm : SP} {vs es ks xs : Value} (hS : Sim true s m ∧ Acyc m.E) (hF : Fine true m) (hi : DoIP x s s1 sp) (hD : DoMP x m m1 sm)
    (hM : Mo w7 N mm true true m1 vs es) (hks : w7.ownsRow B7 2 1 ks sm.ks.length (sm.ks.flatMap oneC)) (hxs : w7.ownsRow B7 48 3 xs sm.es.length (sm.es.flatMap triC)) (hok : SaidOk N2 w3 y sp) (hm : w3.heap[mm]? = some (.cells cs 29 fr)) (he : Ext (fun c => c = mm) w3 w7)
    (hml : m.V.length + m.E.length < 300000) : BL7P N mm w3 y s1 (m.V.length + m.E.length) m1 sm vs es ks xs w7 := by
  have ha := law_prev hS.1 hF hi hD
  have hsz : m1.V.length + m1.E.length ≤ m.V.length + m.E.length + 1 := by
    have h1 := hi.size
    have h2 := ha.sim.V.length_eq
    have h3 := ha.sim.lenE
    have h4 := hS.1.V.length_eq
    have h5 := hS.1.lenE
    omega
  refine ⟨hM, ⟨sp, ha⟩, acyc_step hS.2 hD, hsz, he, fun op => ?_⟩
  obtain ⟨r1, r2⟩ := said_read hok hm he
  have hlen := hi.len
  have h4 := hS.1.V.length_eq
  have h5 := hS.1.lenE
  have e := ha.same
  subst e
  exact bstep_run2 hok.er hok.a hok.b hok.wt r1 r2 (RdS.of_own hks) (RdS.of_own hxs) (by omega) (by omega)

/-- a round that looks for clones -/
def CPR (l : List Stp) (w : World) (k : Nat) (x : Value) (wr : World) : Prop := ∃ i : Nat, x = .int .i64 i ∧ i + k = l.length ∧ (∀ j (h : j < l.length), j < i → (l[j]'h).op ≠ 11) ∧ Ext No w wr
/-- a round over the edges -/
def ACR (n : Nat) (w0 : World) (k : Nat) (iv : Value) (wr : World) : Prop := ∃ i : Nat, iv = .int .i64 i ∧ i + k = n ∧ Ext No w0 wr

set_option maxRecDepth 100000 in
set_option maxHeartbeats 4000000 in
theorem bprev_run {w : World} {wei : Bool} {lv : Value} {l : List Stp} {p : Nat → Addr} (hp : Sent w p) (hB : Below6 w.heap.size p) (hl : RdG w lv l Stp.c) (h0 : ∀ x ∈ l, 0 ≤ x.op) :
    Calls Tryz.prog 5 #[.bool wei, lv] w (Trues w) := by
  obtain ⟨q, c, rfl⟩ := hl.form
  by_cases hsz : l.length ≤ 2147483647
  · have hnsz : ¬ (2147483647 : Int) < (l.length : Int) := by omega
    have HG := Lib.hid (And.intro hp (And.intro hB (And.intro hl (And.intro h0 hsz))))
    clear hp hB hl h0 hsz
    have awake : ∀ W, Ext No w W → Calls Tryz.prog 10 #[] W (Trues W) := fun W hx => awake_run (HG.out.1.ext HG.out.2.1 hx (fun _ h => h.elim)) (HG.out.2.1.mono hx.size)
    have HWk := Lib.hid awake
    clear awake
    go_enter Tryz.func5, Tryz.ntmps5
    go_wp2_with fail
    refine (right_run (dir := true) (most := 200) HG.out.2.2.1 (by have := HG.out.2.2.2.2; omega)).mono ?_
    rintro r1 w1 ⟨rfl, he1⟩
    have H1 := Lib.hid he1
    clear he1
    by_cases hr : rightL true 200 l = true
    · rw [hr]
      have hall : (∀ x ∈ l, rightS true x = true) ∧ l.length ≤ 200 := by
        unfold rightL at hr
        simp only [Bool.and_eq_true, List.all_eq_true, decide_eq_true_eq] at hr
        exact ⟨hr.1, by omega⟩
      have HA0 := Lib.hid hall
      clear hr hall
      go_wp2_with fail
      try go_frame
      go_loopg [22] l.length (fun k x wr => CPR l w1 k x wr)
      case atStart => exact ⟨0, rfl, by simp, fun j _ h => by omega, Ext.refl _ _⟩
      case round =>
        obtain ⟨i, rfl, hk, hn, he⟩ := hrel
        by_cases hlt : i < l.length
        · obtain ⟨g, off, rfl, hg, hc⟩ := RdG.at (f := Stp.c) (size := 4) (fun _ => rfl) (HG.out.2.2.1.ext (H1.out.trans he) (fun _ _ h => h)) hlt
          have hlt' : (i : Int) < (l.length : Int) := by omega
          have c0 : wr.cell? ⟨g, off + i * 4, none⟩ = some (.int .u8 (l[i]'hlt).op) := hc 0 (by decide)
          have c1 : wr.cell? ⟨g, off + i * 4 + 1, none⟩ = some (kI (l[i]'hlt).a) := hc 1 (by decide)
          have c2 : wr.cell? ⟨g, off + i * 4 + 2, none⟩ = some (kI (l[i]'hlt).b) := hc 2 (by decide)
          have c3 : wr.cell? ⟨g, off + i * 4 + 3, none⟩ = some (.int .i64 (l[i]'hlt).wt) := hc 3 (by decide)
          have HK := Lib.hid (And.intro hk (And.intro hn he))
          clear hk hn he hc
          generalize hx : l[i]'hlt = x at c0 c1 c2 c3
          have HX := Lib.hid hx
          clear hx
          by_cases h11 : x.op = 11
          · have hb : (x.op == 11) = true := by simpa using h11
            have he2 : Ext No w (wr.alloc (.cells x.c.toArray 35)) := (H1.out.trans HK.out.2.2).alloc _
            have HE2 := Lib.hid he2
            clear h11 he2
            go_wp2_with fail
            refine (HWk.out _ HE2.out).mono ?_
            rintro r9 w9 ⟨rfl, h9⟩
            go_wp2
            go_ret
            exact ⟨rfl, HE2.out.trans h9⟩
          · have hb : (x.op == 11) = false := by simpa using h11
            have HB := Lib.hid h11
            clear h11
            go_wp2
            go_roundg (l.length - (i + 1))
            case measure => have := HK.out.1; omega
            case rel =>
              refine ⟨i + 1, by simp, by have := HK.out.1; omega, fun j hj hji => ?_, HK.out.2.2.alloc _⟩
              by_cases e : j = i
              · subst e; rw [HX.out]; exact HB.out
              · exact HK.out.2.1 j hj (by omega)
        · have hnlt : ¬ (i : Int) < (l.length : Int) := by omega
          have hi : i = l.length := by omega
          subst hi
          have hall : (∀ x ∈ l, rightS true x = true) ∧ l.length ≤ 200 ∧ ∀ x ∈ l, x.op ≠ 11 := ⟨HA0.out.1, HA0.out.2, fun x hx => by
            obtain ⟨j, hj, rfl⟩ := List.getElem_of_mem hx
            exact hn j hj hj⟩
          have HA := Lib.hid hall
          have H1 := Lib.hid (H1.out.trans he)
          clear hk hn he hall HA0
          obtain ⟨w1, rfl⟩ : ∃ W : World, W = wr := ⟨_, rfl⟩
          go_wp2_with fail
          have e2 : Ext No w (w1.alloc (.cells #[.bool true, .bool true, nilS, nilS] 29)) := H1.out.alloc _
          have rm : (w1.alloc (.cells #[.bool true, .bool true, nilS, nilS] 29)).heap[w1.heap.size]? = some (.cells #[.bool true, .bool true, nilS, nilS] 29 (0, 0)) := (heap_alloc w1 _).1
          have hto := to_run (HG.out.2.2.1.ext e2 (fun _ _ h => h)) (by have := HA.out.2.1; omega)
          have H2 := Lib.hid (And.intro e2 rm)
          clear e2 rm
          refine hto.mono ?_
          rintro r2 w2 ⟨v2, rfl, ho2, he2⟩
          have H3 := Lib.hid (And.intro ho2 he2)
          clear hto ho2 he2
          go_wp2_with fail
          have eB : Ext No w w2 := H2.out.1.trans H3.out.2
          refine (building_run true true wei (D := DoIP) (p := p) (B := w.heap.size) (HG.out.1.ext HG.out.2.1 eB (fun _ h => h.elim)) HG.out.2.1 H3.out.1 (by have := HA.out.2.1; omega) (stepsOk_prev (HG.out.2.1.mono eB.size) (by have := HA.out.2.1; omega) HA.out.1 HG.out.2.2.2.1 HA.out.2.2)).mono ?_
          rintro r3 w3 ⟨ov, sE, xs, sps, rfl, hc, ho, ha, he3, hxl⟩
          obtain ⟨f, hf0, -, hsl, hst⟩ := hc.seq
          obtain ⟨qx, cx, rfl, -⟩ := own_read (f := SaidX.c) (fun _ => rfl) ho
          have hmm : w1.heap.size < w2.heap.size := by have := H3.out.2.size; simp at this; omega
          have hM0 : Mo w3 w.heap.size w1.heap.size true true ⟨[], []⟩ nilS nilS := ⟨he3.obj (H3.out.2.obj H2.out.2 id) id, nil_own, nil_own⟩
          have H4 := Lib.hid (And.intro ho (And.intro ha (And.intro (eB.trans he3) (And.intro hxl (And.intro hf0 (And.intro hsl (And.intro hst (And.intro hM0 hmm))))))))
          clear hc ho ha he3 hf0 hsl hst hmm eB hM0
          rw [hxl]
          clear hxl
          go_wp2_with fail
          try go_frame
          go_loopg [44] l.length (fun k iv wr => BLP f w3 w.heap.size w1.heap.size l.length k iv wr)
          case atStart => exact ⟨0, ⟨[], []⟩, nilS, nilS, rfl, by simp, H4.out.2.2.2.2.2.2.2.1, by rw [H4.out.2.2.2.2.1]; exact ⟨Sim.refl _ _, Acyc.nil⟩, nil_fine true, by simp, Ext.refl _ _⟩
          case round =>
            obtain ⟨i, m, vs, es, rfl, hk, hM, hS, hF, hml, he⟩ := hrel
            by_cases hlt : i < l.length
            · have hix : i < xs.length := by rw [H4.out.2.2.2.1]; exact hlt
              have his : i < sps.length := by rw [H4.out.2.2.2.2.2.1]; exact hlt
              have hox := ownsRow_ext H4.out.1 he (fun c hc e => row_ne H4.out.2.2.2.2.2.2.2.1.row H4.out.1 (by decide) (by rw [hc, e]))
              have heW : Ext No w wr := H4.out.2.2.1.then he (fun c hc e => by have := H1.out.size; omega)
              obtain ⟨gx, hqx, hgx, hcx⟩ := own_at (f := SaidX.c) (fun _ => rfl) hox hix
              obtain ⟨g, off, hq, hg, hc⟩ := RdG.at (f := Stp.c) (size := 4) (fun _ => rfl) (HG.out.2.2.1.ext heW (fun _ _ h => h)) hlt
              subst hqx
              subst hq
              have hlt' : (i : Int) < (l.length : Int) := by omega
              have hpos : (0 : Int) ≤ (i : Int) := by omega
              have hixx : (i : Int) < (xs.length : Int) := by omega
              have hok := all2_at H4.out.2.1 hix his
              have hst := H4.out.2.2.2.2.2.2.1 i hlt his
              have hx0 := HG.out.2.2.2.1 _ (List.getElem_mem hlt)
              have hx1 := HA.out.1 _ (List.getElem_mem hlt)
              have c0 : wr.cell? ⟨g, off + i * 4, none⟩ = some (.int .u8 (l[i]'hlt).op) := hc 0 (by decide)
              have c1 : wr.cell? ⟨g, off + i * 4 + 1, none⟩ = some (kI (l[i]'hlt).a) := hc 1 (by decide)
              have c2 : wr.cell? ⟨g, off + i * 4 + 2, none⟩ = some (kI (l[i]'hlt).b) := hc 2 (by decide)
              have c3 : wr.cell? ⟨g, off + i * 4 + 3, none⟩ = some (.int .i64 (l[i]'hlt).wt) := hc 3 (by decide)
              have d0 : wr.cell? ⟨gx, i * 6, none⟩ = some (.int .u8 (xs[i]'hix).er) := hcx 0 (by decide)
              have d1 : wr.cell? ⟨gx, i * 6 + 1, none⟩ = some (kI (xs[i]'hix).a) := hcx 1 (by decide)
              have d2 : wr.cell? ⟨gx, i * 6 + 2, none⟩ = some (kI (xs[i]'hix).b) := hcx 2 (by decide)
              have d3 : wr.cell? ⟨gx, i * 6 + 3, none⟩ = some (.int .i64 (xs[i]'hix).w) := hcx 3 (by decide)
              have d4 : wr.cell? ⟨gx, i * 6 + 4, none⟩ = some (.slice (xs[i]'hix).kq (xs[i]'hix).kn (xs[i]'hix).kc) := hcx 4 (by decide)
              have d5 : wr.cell? ⟨gx, i * 6 + 5, none⟩ = some (.slice (xs[i]'hix).eq (xs[i]'hix).en (xs[i]'hix).ec) := hcx 5 (by decide)
              generalize l[i]'hlt = x at hst hx0 hx1 c0 c1 c2 c3
              generalize xs[i]'hix = y at hok d0 d1 d2 d3 d4 d5
              generalize sps[i]'his = sp at hok hst
              have eA : Ext No wr (wr.alloc (.cells x.c.toArray 35)) := (Ext.refl No wr).alloc _
              have rA : (wr.alloc (.cells x.c.toArray 35)).heap[wr.heap.size]? = some (.cells #[.int .u8 x.op, kI x.a, kI x.b, .int .i64 x.wt] 35 (0, 0)) := (heap_alloc wr _).1
              have HK := Lib.hid (And.intro hk (And.intro hM (And.intro hS (And.intro hF (And.intro hml (And.intro he (And.intro heW (And.intro hok (And.intro hst (And.intro hx0 (And.intro hx1 (And.intro eA rA))))))))))))
              clear hk hM hS hF hml he heW hok hst hx0 hx1 hc hcx hox hix his
              go_wp2_with fail
              have HW0 := Lib.hid (And.intro HK.out.2.2.2.2.2.2.2.2.2.2.2.1 HK.out.2.2.2.2.2.2.2.2.2.2.2.2)
              have d0 := HW0.out.1.cellv d0 id
              have d1 := HW0.out.1.cellv d1 id
              have d2 := HW0.out.1.cellv d2 id
              have d3 := HW0.out.1.cellv d3 id
              have d4 := HW0.out.1.cellv d4 id
              have d5 := HW0.out.1.cellv d5 id
              clear c0 c1 c2 c3
              revert d0 d1 d2 d3 d4 d5 HW0
              generalize wr.alloc (.cells x.c.toArray 35) = W
              intro HW0 d0 d1 d2 d3 d4 d5
              obtain ⟨b0, b1, b2, b3, -⟩ := cells4 HW0.out.2
              have lb := World.block_lt_of_cell? _ _ b0
              have ldx := World.block_lt_of_cell? _ _ d0
              have hMW := Lib.hid (HK.out.2.1.no HW0.out.1)
              clear eA rA
              go_region_held3 (fun u => (u.cell? ⟨gx, i * 6, none⟩ = some (.int .u8 y.er) ∧ u.cell? ⟨gx, i * 6 + 1, none⟩ = some (kI y.a) ∧ u.cell? ⟨gx, i * 6 + 2, none⟩ = some (kI y.b) ∧ u.cell? ⟨gx, i * 6 + 3, none⟩ = some (.int .i64 y.w) ∧ u.cell? ⟨gx, i * 6 + 4, none⟩ = some (.slice y.kq y.kn y.kc) ∧ u.cell? ⟨gx, i * 6 + 5, none⟩ = some (.slice y.eq y.en y.ec)) ∧ u.cell? ⟨wr.heap.size, 0, none⟩ = some (.int .u8 x.op) ∧ u.cell? ⟨wr.heap.size, 1, none⟩ = some (kI x.a) ∧ u.cell? ⟨wr.heap.size, 2, none⟩ = some (kI x.b) ∧ u.cell? ⟨wr.heap.size, 3, none⟩ = some (.int .i64 x.wt)) (first | exact ⟨⟨d0, d1, d2, d3, d4, d5⟩, b0, b1, b2, b3⟩ | exact HC7.out | exact HC8.out)
                (first
                  | (go_at_call 14; (refine (do_prev (x := x) HK.out.2.2.2.2.2.2.2.2.2.1 (right_op HK.out.2.2.2.2.2.2.2.2.2.2.1).1 (hMW.out.no ((Ext.refl No W).drew)) (Nat.le_trans HK.out.2.2.2.2.2.2.1.size HW0.out.1.size) (by have := HK.out.2.2.2.2.1; have := HA.out.2.1; omega)).mono ?_); rintro r7 w7 ⟨m1, sm, vs1, es1, ks1, xs1, rfl, hD, hM1, hks1, hxs1, he7⟩; have H7 := Lib.hid (BL7P.of (HK.out.2.2.1) HK.out.2.2.2.1 HK.out.2.2.2.2.2.2.2.2.1 hD hM1 hks1 hxs1 HK.out.2.2.2.2.2.2.2.1 H4.out.2.2.2.2.2.2.2.1.row ((HK.out.2.2.2.2.2.1.trans (HW0.out.1.no)).trans (((Ext.refl _ W).drew).trans he7)) (by have := HK.out.2.2.2.2.1; have := HA.out.2.1; omega)); have HC7 := Lib.hid (cells10 (w := W) (w' := w7) ((Ext.refl _ W).drew.trans he7) (BLne H4.out.1 H4.out.2.2.2.2.2.2.2.1.row) (by have := H4.out.2.2.2.2.2.2.2.2; have := HK.out.2.2.2.2.2.1.size; have := HK.out.2.2.2.2.2.2.1.size; have h77 := H4.out.2.2.2.2.2.2.2.1.lt' (Nat.le_trans (Nat.le_refl _) H4.out.2.2.1.size); omega) ⟨⟨d0, d1, d2, d3, d4, d5⟩, b0, b1, b2, b3⟩); clear hD hM1 hks1 hxs1 he7)
                  | (go_at_call 13; (refine (H7.out.call x.op).mono ?_); rintro r8 w8 ⟨rfl, h8⟩; have H8 := Lib.hid h8; have HC8 := Lib.hid (cells10 (w := w7) (w' := w8) (S := No) h8 id id HC7.out); clear h8))
              go_wp2_with fail
              go_roundg (l.length - (i + 1))
              case measure => have := HK.out.1; omega
              case rel =>
                have h := H7.out
                obtain ⟨sp', ha⟩ := h.same
                exact ⟨i + 1, m1, vs1, es1, by simp, by omega, h.M.no H8.out, ⟨ha.sim, h.acyc⟩, ha.fine, by have := h.size; have := HK.out.2.2.2.2.1; omega, h.he.trans H8.out.no⟩
            · have hnlt2 : ¬ (i : Int) < (l.length : Int) := by omega
              have heW : Ext No w wr := H4.out.2.2.1.then he (fun c hc e => by have := H1.out.size; omega)
              have HQ := Lib.hid (And.intro hM (And.intro hS.2 (And.intro hml (And.intro heW (show i = l.length by omega)))))
              clear hk hM hS hF hml he heW
              obtain ⟨wx, rfl⟩ : ∃ W : World, W = wr := ⟨_, rfl⟩
              obtain ⟨qm, cm, hqm, -⟩ := own_read (f := triC) (fun _ => rfl) HQ.out.1.E
              subst hqm
              obtain ⟨x0, x1, x2, x3, -⟩ := cells4 HQ.out.1.row
              have lx1 := World.block_lt_of_cell? _ _ x0
              go_wp2_with fail
              clear x0 x1 x2 x3 lx1
              try go_frame
              go_loopg [66] m.E.length (fun k iv wr => ACR m.E.length wx k iv wr)
              case atStart => exact ⟨0, rfl, by simp, Ext.refl _ _⟩
              case round =>
                obtain ⟨j, rfl, hk, he⟩ := hrel
                by_cases hlt2 : j < m.E.length
                · have hMr := HQ.out.1.no he
                  obtain ⟨ge, hqe, hge, hce⟩ := own_at (f := triC) (fun _ => rfl) hMr.E hlt2
                  subst hqe
                  have hlt2' : (j : Int) < (m.E.length : Int) := by omega
                  have c0 : wr.cell? ⟨ge, j * 3, none⟩ = some (kI (m.E[j]'hlt2).1) := hce 0 (by decide)
                  have c1 : wr.cell? ⟨ge, j * 3 + 1, none⟩ = some (kI (m.E[j]'hlt2).2.1) := hce 1 (by decide)
                  have c2 : wr.cell? ⟨ge, j * 3 + 2, none⟩ = some (.int .i64 (m.E[j]'hlt2).2.2) := hce 2 (by decide)
                  have hac := HQ.out.2.1 _ (List.getElem_mem hlt2)
                  generalize m.E[j]'hlt2 = e at c0 c1 c2 hac
                  have eA : Ext No wr (wr.alloc (.cells #[.int .i64 e.1, .int .i64 e.2.1, .int .i64 e.2.2] 48)) := (Ext.refl No wr).alloc _
                  have HE := Lib.hid (And.intro hk (And.intro (he.trans eA) (And.intro hac (hMr.no eA))))
                  clear hk he hac hMr hce eA
                  go_wp2_with fail
                  refine (reaches_run HE.out.2.2.2 (by have := HQ.out.2.2.1; have := HQ.out.2.2.2.2; have := HA.out.2.1; omega)).mono ?_
                  rintro r9 w9 ⟨cc, rfl, hiff, he9⟩
                  have hcf : cc = false := by
                    cases cc with
                    | false => rfl
                    | true => exact absurd (hiff.1 rfl) HE.out.2.2.1
                  subst hcf
                  have H9 := Lib.hid (HE.out.2.1.trans he9)
                  clear hiff he9
                  go_wp2
                  go_roundg (m.E.length - (j + 1))
                  case measure => have := HE.out.1; omega
                  case rel => exact ⟨j + 1, by rw [w64 (by have := HQ.out.2.2.1; have := HQ.out.2.2.2.2; have := HA.out.2.1; omega)], by have := HE.out.1; omega, H9.out⟩
                · have hnlt3 : ¬ (j : Int) < (m.E.length : Int) := by omega
                  have HE := Lib.hid (HQ.out.2.2.2.1.trans he)
                  clear hk he
                  go_wp2_with fail
                  refine (HWk.out _ HE.out).mono ?_
                  rintro r5 w5 ⟨rfl, h5⟩
                  go_wp2
                  go_ret
                  exact ⟨rfl, HE.out.trans h5⟩
    · have hrf : rightL true 200 l = false := by simpa using hr
      rw [hrf]
      clear hr hrf
      go_wp2_with fail
      refine (HWk.out _ H1.out).mono ?_
      rintro r5 w5 ⟨rfl, h5⟩
      go_wp2
      go_ret
      exact ⟨rfl, H1.out.trans h5⟩
  · have hnsz : (2147483647 : Int) < (l.length : Int) := by omega
    clear hp hB hl h0 hsz
    go_enter Tryz.func5, Tryz.ntmps5
    go_wp2
    go_ret
    exact ⟨rfl, Ext.refl _ _⟩
end Go.Proofs.YtcenebjdhbdejaaGreatDoor
