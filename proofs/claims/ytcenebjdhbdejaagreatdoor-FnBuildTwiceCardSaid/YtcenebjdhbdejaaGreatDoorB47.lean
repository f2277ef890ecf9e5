/- Cloned, walked: a graph made by steps, its clone, steps over one of the two. -/
import Derived.Test.YtcenebjdhbdejaaGreatDoorB45
namespace Go.Proofs.YtcenebjdhbdejaaGreatDoor
open Go.MapKept

theorem any_clone (dir : Bool) {w : World} {H : Hd} {τ : Tr} {σ : St} {s : PS} {p : Nat → Addr} {B : Nat} (h : Gr w H τ σ) (hr : Rep dir s τ σ) (hp : Sent w p) (hB : Below6 B p) (hBw : B ≤ w.heap.size) (hprev : τ.prev = false) (hV : s.V.length < 1000000) (hE : (stored dir s.E).length < 1000000) :
    Calls Tryz.prog (gk dir).cl.f #[.pointer (some ⟨H.d, 0, none⟩)] w (Cloned dir τ s w) := by
  cases dir with
  | true => exact d_clone h hr hp hB hBw hprev hV hE
  | false => exact u_clone h hr hp hB hBw hprev hV hE
def gcl : (dir : Bool) → Meth (grT dir) "Clone"
  | true => ⟨106, M141_Clone, fun _ _ => by kernel_rfl⟩
  | false => ⟨131, M143_Clone, fun _ _ => by kernel_rfl⟩
theorem any_clone2 (dir : Bool) {w : World} {H : Hd} {τ : Tr} {σ : St} {s : PS} {p : Nat → Addr} {B : Nat} (h : Gr w H τ σ) (hr : Rep dir s τ σ) (hp : Sent w p) (hB : Below6 B p) (hBw : B ≤ w.heap.size) (hprev : τ.prev = false) (hV : s.V.length < 1000000) (hE : (stored dir s.E).length < 1000000) :
    Calls Tryz.prog (gcl dir).f #[.pointer (some ⟨H.d, 0, none⟩)] w (Cloned dir τ s w) := by
  cases dir with
  | true => exact d_clone h hr hp hB hBw hprev hV hE
  | false => exact u_clone h hr hp hB hBw hprev hV hE

/-- two graphs, apart, that hold the same -/
structure Duo (dir : Bool) (W0 : World) (sO : PS) (HX : Hd) (τX : Tr) (σX : St) (sX : PS) (HY : Hd) (τY : Tr) (σY : St) (sY : PS) (w : World) : Prop where
  gx : Gr w HX τX σX
  rx : Rep dir sX τX σX
  px : τX.prev = false
  sx : Sim dir sX sO
  gy : Gr w HY τY σY
  ry : Rep dir sY τY σY
  py : τY.prev = false
  sy : Sim dir sY sO
  ap : Apart HX σX HY σY
  fx : ∀ c, Gr.foot HX σX c → W0.heap.size ≤ c
  fy : ∀ c, Gr.foot HY σY c → W0.heap.size ≤ c
  he : Ext No W0 w
theorem Duo.swap {dir : Bool} {W0 : World} {sx : PS} {HX HY : Hd} {τX τY : Tr} {σX σY : St} {sX sY : PS} {w : World} (h : Duo dir W0 sx HX τX σX sX HY τY σY sY w) : Duo dir W0 sx HY τY σY sY HX τX σX sX w :=
  ⟨h.gy, h.ry, h.py, h.sy, h.gx, h.rx, h.px, h.sx, h.ap.symm, h.fy, h.fx, h.he⟩
theorem Duo.lenX {dir : Bool} {W0 : World} {sx : PS} {HX HY : Hd} {τX τY : Tr} {σX σY : St} {sX sY : PS} {w : World} (h : Duo dir W0 sx HX τX σX sX HY τY σY sY w) : sX.V.length + sX.E.length = sx.V.length + sx.E.length := by
  have h1 := h.sx.V.length_eq
  have h2 := h.sx.lenE
  omega

/-- results: two variables in memory -/
theorem results_cc {P : Program} {fn : Func} {p q : Tmp} {ty ty' : TypeId} (h : fn.results = #[.cell p ty, .cell q ty']) {tmps : Array Value} {w : World} {g g' : Nat} {t t' : TypeId} {cs cs' : Array Value} {fr fr' : Nat × Nat} {d d' : TypeDesc}
    (hp : tmps.getD p undef = .pointer (some ⟨g, 0, none⟩)) (hg : w.heap[g]? = some (.cells cs t fr)) (hq : tmps.getD q undef = .pointer (some ⟨g', 0, none⟩)) (hg' : w.heap[g']? = some (.cells cs' t' fr'))
    (hu : P.underlying ty = some d) (hd : (match d with | .struct _ | .array _ _ => true | _ => false) = true) (hi : (P.info? ty).map (·.size) = some cs.size)
    (hu' : P.underlying ty' = some d') (hd' : (match d' with | .struct _ | .array _ _ => true | _ => false) = true) (hi' : (P.info? ty').map (·.size) = some cs'.size) :
    (results fn tmps).run P w = .ok (.tuple #[.agg cs, .agg cs']) w := by
  have hp' : tmps[p]?.getD undef = .pointer (some ⟨g, 0, none⟩) := by simpa using hp
  have hq' : tmps[q]?.getD undef = .pointer (some ⟨g', 0, none⟩) := by simpa using hq
  simp [results, h, hp', hq', asAddr, run_loadVar_row w g t ty cs fr d hg hu hd hi, run_loadVar_row w g' t' ty' cs' fr' d' hg' hu' hd' hi']

/-- What Cloned leaves. -/
def ClonedPost (dir : Bool) (l o : List Stp) (w : World) (r : Ending) (w' : World) : Prop :=
  ∃ (sx sa sb sz : PS) (spx spz : List SP) (ks1 es1 ks2 es2 : Value) (s1 s2 : PS) (sp1 sp2 : SP),
    r = .returned (.tuple #[saidV sp1.er sp1.a sp1.b sp1.w ks1 es1, saidV sp2.er sp2.a sp2.b sp2.w ks2 es2]) ∧ Chain (DoI dir) l ⟨[], []⟩ sx spx ∧ Sim dir sa sx ∧ Sim dir sb sx ∧ Chain (DoI dir) o sb sz spz ∧ DoAM dir sa s1 sp1 ∧ DoAM dir sz s2 sp2 ∧
    (w'.ownsRow w.heap.size 2 1 ks1 sp1.ks.length (sp1.ks.flatMap oneC) ∧ w'.ownsRow w.heap.size 59 3 es1 sp1.es.length (sp1.es.flatMap triC)) ∧ (w'.ownsRow w.heap.size 2 1 ks2 sp2.ks.length (sp2.ks.flatMap oneC) ∧ w'.ownsRow w.heap.size 59 3 es2 sp2.es.length (sp2.es.flatMap triC)) ∧ Ext No w w'

/-- two variables side by side -/
def two2 (n c : Nat) : Prop := c = n ∨ c = n + 1

theorem two_said (w : World) : ((w.alloc said0).alloc said0).heap[w.heap.size]? = some said0 ∧ ((w.alloc said0).alloc said0).heap[w.heap.size + 1]? = some said0 := by
  refine ⟨alloc_heap (heap_alloc w _).1 _, ?_⟩
  have := (heap_alloc (w.alloc said0) said0).1
  simpa using this

set_option maxRecDepth 100000 in
set_option maxHeartbeats 8000000 in
theorem cloned2_run (dir wei first : Bool) {p : Nat → Addr} {B1 B2 : Nat} {w : World} {l o : List Stp} {sv ov : Value} (hp : Sent w p) (hB : Below6 w.heap.size p) (hs : w.ownsRow B1 64 4 sv l.length (l.flatMap Stp.c)) (ho : w.ownsRow B2 64 4 ov o.length (o.flatMap Stp.c)) (hl : Plain dir l) (hol : Plain dir o) :
    Calls Tryz.prog 22 #[.bool dir, .bool wei, sv, ov, .bool first] w (ClonedPost dir l o w) := by
  obtain ⟨q, c, rfl, -⟩ := own_read (f := Stp.c) (fun _ => rfl) hs
  obtain ⟨q', c', rfl, -⟩ := own_read (f := Stp.c) (fun _ => rfl) ho
  have HG := Lib.hid (And.intro hp (And.intro hB (And.intro hs (And.intro ho (And.intro hl hol)))))
  clear hp hB hs ho hl hol
  have hM := (gcl dir).m
  have hE := (gcl dir).e
  go_enter Tryz.func22, Tryz.ntmps22
  go_wp2_with fail
  have e0 : Ext No w ((w.alloc said0).alloc said0) := ((Ext.refl No w).alloc _).alloc _
  have HW0 := Lib.hid (And.intro e0 (And.intro (two_said w).1 (And.intro (two_said w).2 (show ((w.alloc said0).alloc said0).heap.size = w.heap.size + 2 by simp))))
  clear e0
  revert HW0
  generalize (w.alloc said0).alloc said0 = W0
  intro HW0
  refine (started_run dir false wei _).mono ?_
  rintro r1 w1 ⟨H1, rfl, g1, e1, f1⟩
  have K1 := Lib.hid (And.intro g1 (And.intro e1 f1))
  clear g1 e1 f1
  go_wp2_with fail
  try go_frame
  have f1' : ∀ c, Gr.foot H1 σ0 c → W0.heap.size ≤ c := K1.out.2.2
  have HF := Lib.hid f1'
  clear f1'
  go_loopg [12, 26] l.length (fun k xv iv wr => XR dir H1 (trOf (oD dir false wei)) σ0 w1 ⟨[], []⟩ 0 l k xv iv wr)
  case atStart => exact ⟨0, σ0, ⟨[], []⟩, [], rfl, rfl, by simp, Turned.same K1.out.1 (Ext.refl _ _), ⟨oD_dir _ _ _, rfl, by cases dir <;> rfl, fun _ e he => by cases he⟩, Chain.nil _, by simp⟩
  case round =>
    obtain ⟨i, σ', s, sps, rfl, rfl, hk, ht, hr, hch, hsz⟩ := hrel
    have hEx : Ext No W0 wr := K1.out.2.1.then ht.2.1 (fun c hc hh => by have := HF.out c (Or.inr (Or.inr hh)); omega)
    by_cases hlt : i < l.length
    · have hsw := own_turned2 K1.out.1 ht (ownsRow_ext (ownsRow_ext HG.out.2.2.1 HW0.out.1 (fun _ _ h => h)) K1.out.2.1 (fun _ _ h => h)) (by decide)
      obtain ⟨g, hq, hg, hc⟩ := own_at (f := Stp.c) (fun _ => rfl) hsw hlt
      subst hq
      have c0 : wr.cell? ⟨g, i * 4, none⟩ = some (.int .u8 (l[i]'hlt).op) := hc 0 (by decide)
      have c1 : wr.cell? ⟨g, i * 4 + 1, none⟩ = some (kI (l[i]'hlt).a) := hc 1 (by decide)
      have c2 : wr.cell? ⟨g, i * 4 + 2, none⟩ = some (kI (l[i]'hlt).b) := hc 2 (by decide)
      have c3 : wr.cell? ⟨g, i * 4 + 3, none⟩ = some (.int .i64 (l[i]'hlt).wt) := hc 3 (by decide)
      have hlt' : (i : Int) < (l.length : Int) := by omega
      have eA : Ext No wr (wr.alloc (.cells (l[i]'hlt).c.toArray 64)) := (Ext.refl No wr).alloc _
      have hcall : Calls Tryz.prog 24 #[gV dir H1, (l[i]'hlt).val] (wr.alloc (.cells (l[i]'hlt).c.toArray 64)) (StepPost dir H1 (trOf (oD dir false wei)) σ' (DoI dir (l[i]'hlt) s) (wr.alloc (.cells (l[i]'hlt).c.toArray 64))) := by
        have hm := List.getElem_mem hlt
        have hpl := HG.out.2.2.2.2.1
        refine step_any dir (B := w.heap.size) (hpl.pos _ hm) (hpl.right _ hm) (hpl.ne _ hm) (ht.1.ext eA (fun _ _ h => h)) hr (HG.out.1.ext HG.out.2.1 ((HW0.out.1.trans hEx).trans eA) (fun _ h => h.elim)) HG.out.2.1 (fun c hc => ?_) (oD_prev _ _ _) (by have := hpl.len; omega)
        rcases ht.2.2 c hc with h7 | h7
        · exact Nat.le_trans HW0.out.1.size (HF.out c (Or.inr (Or.inr h7)))
        · exact Nat.le_trans (Nat.le_trans HW0.out.1.size K1.out.2.1.size) h7
      have HR := Lib.hid (And.intro hk (And.intro ht (And.intro hr (And.intro hch (And.intro hsz eA)))))
      have HCa := Lib.hid hcall
      clear hk ht hr hch hsz hEx hsw hc hcall eA
      go_wp2_with fail
      refine HCa.out.mono ?_
      rintro r3 w3 ⟨σ'', s'', sp, ks, es, rfl, hD, ht3, hr3, hks, hes⟩
      obtain ⟨qa, ca, rfl, -⟩ := own_read (f := oneC) (fun _ => rfl) hks
      obtain ⟨qb, cb, rfl, -⟩ := own_read (f := triC) (fun _ => rfl) hes
      have HD := Lib.hid (And.intro hD (And.intro ht3 hr3))
      clear hD ht3 hr3 hks hes c0 c1 c2 c3
      go_wp2_with fail
      go_roundg (l.length - (i + 1))
      case measure => have := HR.out.1; omega
      case rel => exact XR.next HG.out.2.2.2.2.1.len hlt HR.out.1 HR.out.2.1 HR.out.2.2.2.1 HR.out.2.2.2.2.1 HR.out.2.2.2.2.2 HD.out.1 HD.out.2.1 HD.out.2.2
    · have hnlt : ¬ (i : Int) < (l.length : Int) := by omega
      have hi : i = l.length := by omega
      subst hi
      rw [List.take_length] at hch
      have hf' : ∀ c, Gr.foot H1 σ' c → W0.heap.size ≤ c := fun c hc => by
        rcases hc with rfl | rfl | hc
        · exact HF.out _ (Or.inl rfl)
        · exact HF.out _ (Or.inr (Or.inl rfl))
        · rcases ht.2.2 c hc with h7 | h7
          · exact HF.out c (Or.inr (Or.inr h7))
          · exact Nat.le_trans K1.out.2.1.size h7
      have HX := Lib.hid (And.intro ht.1 (And.intro hr (And.intro hch (And.intro hsz (And.intro hEx hf')))))
      clear hk ht hr hch hsz hEx hf'
      obtain ⟨wx, rfl⟩ : ∃ W : World, W = wr := ⟨_, rfl⟩
      go_wp2_with fail
      have hln : s.V.length + s.E.length < 100000 := by have := HX.out.2.2.2.1; have := HG.out.2.2.2.2.1.len; omega
      refine (any_clone2 dir HX.out.1 HX.out.2.1 (HG.out.1.ext HG.out.2.1 (HW0.out.1.trans HX.out.2.2.2.2.1) (fun _ h => h.elim)) HG.out.2.1 (Nat.le_trans HW0.out.1.size HX.out.2.2.2.2.1.size) (oD_prev _ _ _) (by omega) (by rw [stored_len]; split <;> omega)).mono ?_
      rintro r4 w4 ⟨Hc, τc, σc, sc, rfl, gc, rc, pc, simc, ec, fc⟩
      have hduo : Duo dir W0 s Hc τc σc sc H1 (trOf (oD dir false wei)) σ' s w4 := ⟨gc, rc, pc.trans (oD_prev _ _ _), simc, HX.out.1.ext ec (fun _ _ h => h), HX.out.2.1, oD_prev _ _ _, Sim.refl _ _, fun c h1 h2 => by have := fc c h1; have := HX.out.1.foot_lt h2; omega, fun c hc => Nat.le_trans HX.out.2.2.2.2.1.size (fc c hc), HX.out.2.2.2.2.2, HX.out.2.2.2.2.1.trans ec⟩
      have HL := Lib.hid (And.intro HX.out.2.2.1 hln)
      clear HX gc rc pc simc ec fc hln
      cases first
      case false =>
        have HDu : RowKit.Hid (∃ τX σX sX τY σY sY, Duo dir W0 s Hc τX σX sX H1 τY σY sY w4) := Lib.hid ⟨_, _, _, _, _, _, hduo⟩
        clear hduo
        obtain ⟨HX, rfl⟩ : ∃ h : Hd, h = Hc := ⟨_, rfl⟩
        obtain ⟨HY, rfl⟩ : ∃ h : Hd, h = H1 := ⟨_, rfl⟩
        obtain ⟨τX, σX, sX, τY, σY, sY, hduo⟩ := HDu.out
        have HDv := Lib.hid hduo
        clear hduo HDu
        go_wp2_with fail
        try go_frame
        go_loopg [17, 57] o.length (fun k xv iv wq => XR dir HX τX σX w4 sX 100000 o k xv iv wq)
        case atStart => exact ⟨0, σX, sX, [], rfl, rfl, by simp, Turned.same HDv.out.gx (Ext.refl _ _), HDv.out.rx, Chain.nil _, by have := HDv.out.lenX; have := HL.out.2; omega⟩
        case round =>
          obtain ⟨j, σ2, sz, spz, rfl, rfl, hk, ht, hr, hch, hsz⟩ := hrel
          have hEx : Ext No W0 wr := HDv.out.he.then ht.2.1 (fun c hc hh => by have := HDv.out.fx c (Or.inr (Or.inr hh)); omega)
          by_cases hlt : j < o.length
          · have hsw := own_turned2 HDv.out.gx ht (ownsRow_ext (ownsRow_ext HG.out.2.2.2.1 HW0.out.1 (fun _ _ h => h)) HDv.out.he (fun _ _ h => h)) (by decide)
            obtain ⟨g, hq, hg, hc⟩ := own_at (f := Stp.c) (fun _ => rfl) hsw hlt
            subst hq
            have c0 : wr.cell? ⟨g, j * 4, none⟩ = some (.int .u8 (o[j]'hlt).op) := hc 0 (by decide)
            have c1 : wr.cell? ⟨g, j * 4 + 1, none⟩ = some (kI (o[j]'hlt).a) := hc 1 (by decide)
            have c2 : wr.cell? ⟨g, j * 4 + 2, none⟩ = some (kI (o[j]'hlt).b) := hc 2 (by decide)
            have c3 : wr.cell? ⟨g, j * 4 + 3, none⟩ = some (.int .i64 (o[j]'hlt).wt) := hc 3 (by decide)
            have hlt' : (j : Int) < (o.length : Int) := by omega
            have eA : Ext No wr (wr.alloc (.cells (o[j]'hlt).c.toArray 64)) := (Ext.refl No wr).alloc _
            have hcall : Calls Tryz.prog 24 #[gV dir HX, (o[j]'hlt).val] (wr.alloc (.cells (o[j]'hlt).c.toArray 64)) (StepPost dir HX τX σ2 (DoI dir (o[j]'hlt) sz) (wr.alloc (.cells (o[j]'hlt).c.toArray 64))) := by
              have hm := List.getElem_mem hlt
              have hpl := HG.out.2.2.2.2.2
              refine step_any dir (B := w.heap.size) (hpl.pos _ hm) (hpl.right _ hm) (hpl.ne _ hm) (ht.1.ext eA (fun _ _ h => h)) hr (HG.out.1.ext HG.out.2.1 ((HW0.out.1.trans hEx).trans eA) (fun _ h => h.elim)) HG.out.2.1 (fun c hc => ?_) HDv.out.px (by have := hpl.len; omega)
              rcases ht.2.2 c hc with h7 | h7
              · exact Nat.le_trans HW0.out.1.size (HDv.out.fx c (Or.inr (Or.inr h7)))
              · exact Nat.le_trans (Nat.le_trans HW0.out.1.size HDv.out.he.size) h7
            have HR := Lib.hid (And.intro hk (And.intro ht (And.intro hr (And.intro hch (And.intro hsz eA)))))
            have HCa := Lib.hid hcall
            clear hk ht hr hch hsz hEx hsw hc hcall eA
            go_wp2_with fail
            refine HCa.out.mono ?_
            rintro r3 w3 ⟨σ'', s'', sp, ks, es, rfl, hD, ht3, hr3, hks, hes⟩
            obtain ⟨qa, ca, rfl, -⟩ := own_read (f := oneC) (fun _ => rfl) hks
            obtain ⟨qb, cb, rfl, -⟩ := own_read (f := triC) (fun _ => rfl) hes
            have HD := Lib.hid (And.intro hD (And.intro ht3 hr3))
            clear hD ht3 hr3 hks hes c0 c1 c2 c3
            go_wp2_with fail
            go_roundg (o.length - (j + 1))
            case measure => have := HR.out.1; omega
            case rel => exact XR.next HG.out.2.2.2.2.2.len hlt HR.out.1 HR.out.2.1 HR.out.2.2.2.1 HR.out.2.2.2.2.1 HR.out.2.2.2.2.2 HD.out.1 HD.out.2.1 HD.out.2.2
          · have hnlt2 : ¬ (j : Int) < (o.length : Int) := by omega
            have hj : j = o.length := by omega
            subst hj
            rw [List.take_length] at hch
            have hfx : ∀ c, Gr.foot HX σ2 c → W0.heap.size ≤ c := fun c hc => by
              rcases hc with rfl | rfl | hc
              · exact HDv.out.fx _ (Or.inl rfl)
              · exact HDv.out.fx _ (Or.inr (Or.inl rfl))
              · rcases ht.2.2 c hc with h7 | h7
                · exact HDv.out.fx c (Or.inr (Or.inr h7))
                · exact Nat.le_trans HDv.out.he.size h7
            have HQ := Lib.hid (And.intro ht.1 (And.intro hr (And.intro hch (And.intro hsz (And.intro hEx (And.intro (ht.other HDv.out.ap HDv.out.gy) (And.intro (HDv.out.ap.turned ht HDv.out.gy) hfx)))))))
            clear hk ht hr hch hsz hEx hfx
            obtain ⟨wy, rfl⟩ : ∃ W : World, W = wr := ⟨_, rfl⟩
            have hlY : sY.V.length < 1000000 ∧ (stored dir sY.E).length < 1000000 := by
              have := HDv.out.swap.lenX
              have := HL.out.2
              rw [stored_len]
              constructor
              · omega
              · split <;> omega
            have hlX : sz.V.length < 1000000 ∧ (stored dir sz.E).length < 1000000 := by
              have := HQ.out.2.2.2.1
              have := HG.out.2.2.2.2.2.len
              rw [stored_len]
              constructor
              · omega
              · split <;> omega
            have HLn := Lib.hid hlX
            have HC1 := Lib.hid (step_am dir (a := 0) (b := 0) (wt := 0) HQ.out.2.2.2.2.2.1 HDv.out.ry hlY.1 hlY.2)
            clear hlX hlY
            go_wp2_with fail
            refine HC1.out.mono ?_
            rintro r5 w5 ⟨σ5, s5, sp1, ks1, es1, rfl, hD5, ht5, hr5, hks5, hes5⟩
            obtain ⟨qa, ca, rfl, -⟩ := own_read (f := oneC) (fun _ => rfl) hks5
            obtain ⟨qb, cb, rfl, -⟩ := own_read (f := triC) (fun _ => rfl) hes5
            have hE5 : Ext No W0 w5 := HQ.out.2.2.2.2.1.then ht5.2.1 (fun c hc hh => by have := HDv.out.fy c (Or.inr (Or.inr hh)); omega)
            have r0 := hE5.obj HW0.out.2.1 id
            have z := set6 r0 (.int .u8 sp1.er) (.int .i64 sp1.a) (.int .i64 sp1.b) (.int .i64 sp1.w) (.slice qa sp1.ks.length ca) (.slice qb sp1.es.length cb)
            have eS := (Ext.refl (fun c => c = w.heap.size) w5).set6 (b := w.heap.size) rfl (.int .u8 sp1.er) (.int .i64 sp1.a) (.int .i64 sp1.b) (.int .i64 sp1.w) (.slice qa sp1.ks.length ca) (.slice qb sp1.es.length cb)
            have H5 := Lib.hid (And.intro hD5 (And.intro (ht5.other HQ.out.2.2.2.2.2.2.1.symm HQ.out.1) (And.intro hks5 (And.intro hes5 (And.intro hE5 r0)))))
            have HZ := Lib.hid (And.intro z eS)
            obtain ⟨x0, x1, x2, x3, x4, x5, f0, f1, f2, f3, f4, f5⟩ := cells6 r0
            have l6 := World.block_lt_of_cell? _ _ x0
            clear hD5 ht5 hr5 hks5 hes5 hE5 r0 z eS
            go_wp2_with fail
            clear x0 x1 x2 x3 x4 x5 f0 f1 f2 f3 f4 f5 l6
            generalize ((((((w5.setCell ⟨w.heap.size, 0, none⟩ (.int .u8 sp1.er)).setCell ⟨w.heap.size, 1, none⟩ (.int .i64 sp1.a)).setCell ⟨w.heap.size, 2, none⟩ (.int .i64 sp1.b)).setCell ⟨w.heap.size, 3, none⟩ (.int .i64 sp1.w)).setCell ⟨w.heap.size, 4, none⟩ (.slice qa sp1.ks.length ca)).setCell ⟨w.heap.size, 5, none⟩ (.slice qb sp1.es.length cb)) = W5 at HZ ⊢
            have gX : Gr W5 HX τX σ2 := H5.out.2.1.ext HZ.out.2 (fun c hc hh => by have := HQ.out.2.2.2.2.2.2.2 c hc; have := HW0.out.2.2.2; omega)
            have HG6 := Lib.hid gX
            clear gX
            refine (step_am dir (a := 0) (b := 0) (wt := 0) HG6.out HQ.out.2.1 HLn.out.1 HLn.out.2).mono ?_
            rintro r6 w6 ⟨σ6, s6, sp2, ks2, es2, rfl, hD6, ht6, hr6, hks6, hes6⟩
            obtain ⟨qc, cc, rfl, -⟩ := own_read (f := oneC) (fun _ => rfl) hks6
            obtain ⟨qd, cd, rfl, -⟩ := own_read (f := triC) (fun _ => rfl) hes6
            have hE6 : Ext (fun c => c = w.heap.size) W0 w6 := (H5.out.2.2.2.2.1.no.trans HZ.out.2).then ht6.2.1 (fun c hc hh => by have := HQ.out.2.2.2.2.2.2.2 c (Or.inr (Or.inr hh)); omega)
            have r1 := hE6.obj HW0.out.2.2.1 (by omega)
            have r0 := ht6.2.1.obj HZ.out.1 (fun hh => by have := HQ.out.2.2.2.2.2.2.2 _ (Or.inr (Or.inr hh)); have := HW0.out.2.2.2; omega)
            have ko := own_turned2 HG6.out ht6 (ownsRow_ext H5.out.2.2.1 HZ.out.2 (fun c hc e => row_ne H5.out.2.2.2.2.2 H5.out.2.2.1 (by decide) (by rw [hc, e]))) (by decide)
            have xo := own_turned2 HG6.out ht6 (ownsRow_ext H5.out.2.2.2.1 HZ.out.2 (fun c hc e => row_ne H5.out.2.2.2.2.2 H5.out.2.2.2.1 (by decide) (by rw [hc, e]))) (by decide)
            have z := set6 r1 (.int .u8 sp2.er) (.int .i64 sp2.a) (.int .i64 sp2.b) (.int .i64 sp2.w) (.slice qc sp2.ks.length cc) (.slice qd sp2.es.length cd)
            have eS := (Ext.refl (fun c => c = w.heap.size + 1) w6).set6 (b := w.heap.size + 1) rfl (.int .u8 sp2.er) (.int .i64 sp2.a) (.int .i64 sp2.b) (.int .i64 sp2.w) (.slice qc sp2.ks.length cc) (.slice qd sp2.es.length cd)
            obtain ⟨x0, x1, x2, x3, x4, x5, f0, f1, f2, f3, f4, f5⟩ := cells6 r1
            have l6 := World.block_lt_of_cell? _ _ x0
            have hw5 : w.heap.size ≤ wy.heap.size := Nat.le_trans HW0.out.1.size HQ.out.2.2.2.2.1.size
            have hw6 : w.heap.size ≤ W5.heap.size := Nat.le_trans (Nat.le_trans HW0.out.1.size H5.out.2.2.2.2.1.size) HZ.out.2.size
            have H6 := Lib.hid (And.intro hD6 (And.intro hE6 (And.intro (And.intro (ownsRow_low ko hw5) (ownsRow_low xo hw5)) (And.intro (ownsRow_low hks6 hw6) (ownsRow_low hes6 hw6)))))
            have HZ2 := Lib.hid (And.intro z (And.intro eS (And.intro (eS.obj r0 (by omega)) (And.intro r0 r1))))
            clear hD6 ht6 hr6 hks6 hes6 hE6 r1 r0 z eS ko xo hw5 hw6
            go_wp2_with fail
            clear x0 x1 x2 x3 x4 x5 f0 f1 f2 f3 f4 f5 l6
            generalize ((((((w6.setCell ⟨w.heap.size + 1, 0, none⟩ (.int .u8 sp2.er)).setCell ⟨w.heap.size + 1, 1, none⟩ (.int .i64 sp2.a)).setCell ⟨w.heap.size + 1, 2, none⟩ (.int .i64 sp2.b)).setCell ⟨w.heap.size + 1, 3, none⟩ (.int .i64 sp2.w)).setCell ⟨w.heap.size + 1, 4, none⟩ (.slice qc sp2.ks.length cc)).setCell ⟨w.heap.size + 1, 5, none⟩ (.slice qd sp2.es.length cd)) = W7 at HZ2 ⊢
            obtain ⟨x0, x1, x2, x3, x4, x5, f0, f1, f2, f3, f4, f5⟩ := cells6 HZ2.out.1
            obtain ⟨y0, y1, y2, y3, y4, y5, g0, g1, g2, g3, g4, g5⟩ := cells6 HZ2.out.2.2.1
            have l6 := World.block_lt_of_cell? _ _ x0
            have l5 := World.block_lt_of_cell? _ _ y0
            go_region
            all_goals go_wp2
            all_goals
              refine bodyPost_ret (v := .tuple #[saidV sp1.er sp1.a sp1.b sp1.w (.slice qa sp1.ks.length ca) (.slice qb sp1.es.length cb), saidV sp2.er sp2.a sp2.b sp2.w (.slice qc sp2.ks.length cc) (.slice qd sp2.es.length cd)]) ?hr rfl ?hR
              case hR =>
                have eA := (Ext.refl (fun c => c = w.heap.size) W7).set6 (b := w.heap.size) rfl (.int .u8 sp1.er) (.int .i64 sp1.a) (.int .i64 sp1.b) (.int .i64 sp1.w) (.slice qa sp1.ks.length ca) (.slice qb sp1.es.length cb)
                have eB := ((Ext.refl (fun c => c = w.heap.size + 1) ((((((W7.setCell ⟨w.heap.size, 0, none⟩ (.int .u8 sp1.er)).setCell ⟨w.heap.size, 1, none⟩ (.int .i64 sp1.a)).setCell ⟨w.heap.size, 2, none⟩ (.int .i64 sp1.b)).setCell ⟨w.heap.size, 3, none⟩ (.int .i64 sp1.w)).setCell ⟨w.heap.size, 4, none⟩ (.slice qa sp1.ks.length ca)).setCell ⟨w.heap.size, 5, none⟩ (.slice qb sp1.es.length cb))).set6 (b := w.heap.size + 1) rfl (.int .u8 sp2.er) (.int .i64 sp2.a) (.int .i64 sp2.b) (.int .i64 sp2.w) (.slice qc sp2.ks.length cc) (.slice qd sp2.es.length cd)).drew
                have eT := (HZ2.out.2.1.mono (T := two2 w.heap.size) (fun c _ h => Or.inr h)).trans ((eA.mono (T := two2 w.heap.size) (fun c _ h => Or.inl h)).trans (eB.mono (T := two2 w.heap.size) (fun c _ h => Or.inr h)))
                have hno : ∀ {B e size n : Nat} {v : Value} {xs : List Value}, w6.ownsRow B e size v n xs → e ≠ 39 → ∀ c, v.ownBlock = some c → ¬ two2 w.heap.size c := fun ho hne c hc h => by
                  rcases h with h | h
                  · exact row_ne HZ2.out.2.2.2.1 ho (fun e => hne e.symm) (by rw [hc, h])
                  · exact row_ne HZ2.out.2.2.2.2 ho (fun e => hne e.symm) (by rw [hc, h])
                refine ⟨s, sY, sX, sz, sps, spz, _, _, _, _, s5, s6, sp1, sp2, rfl, HL.out.1, HDv.out.sy, HDv.out.sx, HQ.out.2.2.1, H5.out.1, H6.out.1, ⟨?_, ?_⟩, ⟨?_, ?_⟩, ?_⟩
                · exact ownsRow_ext H6.out.2.2.1.1 eT (hno H6.out.2.2.1.1 (by decide))
                · exact ownsRow_ext H6.out.2.2.1.2 eT (hno H6.out.2.2.1.2 (by decide))
                · exact ownsRow_ext H6.out.2.2.2.1 eT (hno H6.out.2.2.2.1 (by decide))
                · exact ownsRow_ext H6.out.2.2.2.2 eT (hno H6.out.2.2.2.2 (by decide))
                · exact (HW0.out.1.then H6.out.2.1 (fun c hc e => by omega)).then eT (fun c hc h => by rcases h with h | h <;> omega)
              case hr =>
                have hA := set6 HZ2.out.2.2.1 (.int .u8 sp1.er) (.int .i64 sp1.a) (.int .i64 sp1.b) (.int .i64 sp1.w) (.slice qa sp1.ks.length ca) (.slice qb sp1.es.length cb)
                have eA := (Ext.refl (fun c => c = w.heap.size) W7).set6 (b := w.heap.size) rfl (.int .u8 sp1.er) (.int .i64 sp1.a) (.int .i64 sp1.b) (.int .i64 sp1.w) (.slice qa sp1.ks.length ca) (.slice qb sp1.es.length cb)
                have hB := set6 (eA.obj HZ2.out.1 (by omega)) (.int .u8 sp2.er) (.int .i64 sp2.a) (.int .i64 sp2.b) (.int .i64 sp2.w) (.slice qc sp2.ks.length cc) (.slice qd sp2.es.length cd)
                have eB := (Ext.refl (fun c => c = w.heap.size + 1) ((((((W7.setCell ⟨w.heap.size, 0, none⟩ (.int .u8 sp1.er)).setCell ⟨w.heap.size, 1, none⟩ (.int .i64 sp1.a)).setCell ⟨w.heap.size, 2, none⟩ (.int .i64 sp1.b)).setCell ⟨w.heap.size, 3, none⟩ (.int .i64 sp1.w)).setCell ⟨w.heap.size, 4, none⟩ (.slice qa sp1.ks.length ca)).setCell ⟨w.heap.size, 5, none⟩ (.slice qb sp1.es.length cb))).set6 (b := w.heap.size + 1) rfl (.int .u8 sp2.er) (.int .i64 sp2.a) (.int .i64 sp2.b) (.int .i64 sp2.w) (.slice qc sp2.ks.length cc) (.slice qd sp2.es.length cd)
                exact results_cc (fn := Tryz.f22) (p := 10) (q := 11) (ty := 39) (ty' := 39) rfl rfl (at_drew (eB.obj hA (by omega))) rfl (at_drew hB) Tryz.underlying39 rfl sz39 Tryz.underlying39 rfl sz39
      case true =>
        have HDu : RowKit.Hid (∃ τX σX sX τY σY sY, Duo dir W0 s H1 τX σX sX Hc τY σY sY w4) := Lib.hid ⟨_, _, _, _, _, _, hduo.swap⟩
        clear hduo
        obtain ⟨HX, rfl⟩ : ∃ h : Hd, h = H1 := ⟨_, rfl⟩
        obtain ⟨HY, rfl⟩ : ∃ h : Hd, h = Hc := ⟨_, rfl⟩
        obtain ⟨τX, σX, sX, τY, σY, sY, hduo⟩ := HDu.out
        have HDv := Lib.hid hduo
        clear hduo HDu
        go_wp2_with fail
        try go_frame
        go_loopg [17, 57] o.length (fun k xv iv wq => XR dir HX τX σX w4 sX 100000 o k xv iv wq)
        case atStart => exact ⟨0, σX, sX, [], rfl, rfl, by simp, Turned.same HDv.out.gx (Ext.refl _ _), HDv.out.rx, Chain.nil _, by have := HDv.out.lenX; have := HL.out.2; omega⟩
        case round =>
          obtain ⟨j, σ2, sz, spz, rfl, rfl, hk, ht, hr, hch, hsz⟩ := hrel
          have hEx : Ext No W0 wr := HDv.out.he.then ht.2.1 (fun c hc hh => by have := HDv.out.fx c (Or.inr (Or.inr hh)); omega)
          by_cases hlt : j < o.length
          · have hsw := own_turned2 HDv.out.gx ht (ownsRow_ext (ownsRow_ext HG.out.2.2.2.1 HW0.out.1 (fun _ _ h => h)) HDv.out.he (fun _ _ h => h)) (by decide)
            obtain ⟨g, hq, hg, hc⟩ := own_at (f := Stp.c) (fun _ => rfl) hsw hlt
            subst hq
            have c0 : wr.cell? ⟨g, j * 4, none⟩ = some (.int .u8 (o[j]'hlt).op) := hc 0 (by decide)
            have c1 : wr.cell? ⟨g, j * 4 + 1, none⟩ = some (kI (o[j]'hlt).a) := hc 1 (by decide)
            have c2 : wr.cell? ⟨g, j * 4 + 2, none⟩ = some (kI (o[j]'hlt).b) := hc 2 (by decide)
            have c3 : wr.cell? ⟨g, j * 4 + 3, none⟩ = some (.int .i64 (o[j]'hlt).wt) := hc 3 (by decide)
            have hlt' : (j : Int) < (o.length : Int) := by omega
            have eA : Ext No wr (wr.alloc (.cells (o[j]'hlt).c.toArray 64)) := (Ext.refl No wr).alloc _
            have hcall : Calls Tryz.prog 24 #[gV dir HX, (o[j]'hlt).val] (wr.alloc (.cells (o[j]'hlt).c.toArray 64)) (StepPost dir HX τX σ2 (DoI dir (o[j]'hlt) sz) (wr.alloc (.cells (o[j]'hlt).c.toArray 64))) := by
              have hm := List.getElem_mem hlt
              have hpl := HG.out.2.2.2.2.2
              refine step_any dir (B := w.heap.size) (hpl.pos _ hm) (hpl.right _ hm) (hpl.ne _ hm) (ht.1.ext eA (fun _ _ h => h)) hr (HG.out.1.ext HG.out.2.1 ((HW0.out.1.trans hEx).trans eA) (fun _ h => h.elim)) HG.out.2.1 (fun c hc => ?_) HDv.out.px (by have := hpl.len; omega)
              rcases ht.2.2 c hc with h7 | h7
              · exact Nat.le_trans HW0.out.1.size (HDv.out.fx c (Or.inr (Or.inr h7)))
              · exact Nat.le_trans (Nat.le_trans HW0.out.1.size HDv.out.he.size) h7
            have HR := Lib.hid (And.intro hk (And.intro ht (And.intro hr (And.intro hch (And.intro hsz eA)))))
            have HCa := Lib.hid hcall
            clear hk ht hr hch hsz hEx hsw hc hcall eA
            go_wp2_with fail
            refine HCa.out.mono ?_
            rintro r3 w3 ⟨σ'', s'', sp, ks, es, rfl, hD, ht3, hr3, hks, hes⟩
            obtain ⟨qa, ca, rfl, -⟩ := own_read (f := oneC) (fun _ => rfl) hks
            obtain ⟨qb, cb, rfl, -⟩ := own_read (f := triC) (fun _ => rfl) hes
            have HD := Lib.hid (And.intro hD (And.intro ht3 hr3))
            clear hD ht3 hr3 hks hes c0 c1 c2 c3
            go_wp2_with fail
            go_roundg (o.length - (j + 1))
            case measure => have := HR.out.1; omega
            case rel => exact XR.next HG.out.2.2.2.2.2.len hlt HR.out.1 HR.out.2.1 HR.out.2.2.2.1 HR.out.2.2.2.2.1 HR.out.2.2.2.2.2 HD.out.1 HD.out.2.1 HD.out.2.2
          · have hnlt2 : ¬ (j : Int) < (o.length : Int) := by omega
            have hj : j = o.length := by omega
            subst hj
            rw [List.take_length] at hch
            have hfx : ∀ c, Gr.foot HX σ2 c → W0.heap.size ≤ c := fun c hc => by
              rcases hc with rfl | rfl | hc
              · exact HDv.out.fx _ (Or.inl rfl)
              · exact HDv.out.fx _ (Or.inr (Or.inl rfl))
              · rcases ht.2.2 c hc with h7 | h7
                · exact HDv.out.fx c (Or.inr (Or.inr h7))
                · exact Nat.le_trans HDv.out.he.size h7
            have HQ := Lib.hid (And.intro ht.1 (And.intro hr (And.intro hch (And.intro hsz (And.intro hEx (And.intro (ht.other HDv.out.ap HDv.out.gy) (And.intro (HDv.out.ap.turned ht HDv.out.gy) hfx)))))))
            clear hk ht hr hch hsz hEx hfx
            obtain ⟨wy, rfl⟩ : ∃ W : World, W = wr := ⟨_, rfl⟩
            have hlY : sY.V.length < 1000000 ∧ (stored dir sY.E).length < 1000000 := by
              have := HDv.out.swap.lenX
              have := HL.out.2
              rw [stored_len]
              constructor
              · omega
              · split <;> omega
            have hlX : sz.V.length < 1000000 ∧ (stored dir sz.E).length < 1000000 := by
              have := HQ.out.2.2.2.1
              have := HG.out.2.2.2.2.2.len
              rw [stored_len]
              constructor
              · omega
              · split <;> omega
            have HLn := Lib.hid hlX
            have HC1 := Lib.hid (step_am dir (a := 0) (b := 0) (wt := 0) HQ.out.2.2.2.2.2.1 HDv.out.ry hlY.1 hlY.2)
            clear hlX hlY
            go_wp2_with fail
            refine HC1.out.mono ?_
            rintro r5 w5 ⟨σ5, s5, sp1, ks1, es1, rfl, hD5, ht5, hr5, hks5, hes5⟩
            obtain ⟨qa, ca, rfl, -⟩ := own_read (f := oneC) (fun _ => rfl) hks5
            obtain ⟨qb, cb, rfl, -⟩ := own_read (f := triC) (fun _ => rfl) hes5
            have hE5 : Ext No W0 w5 := HQ.out.2.2.2.2.1.then ht5.2.1 (fun c hc hh => by have := HDv.out.fy c (Or.inr (Or.inr hh)); omega)
            have r0 := hE5.obj HW0.out.2.1 id
            have z := set6 r0 (.int .u8 sp1.er) (.int .i64 sp1.a) (.int .i64 sp1.b) (.int .i64 sp1.w) (.slice qa sp1.ks.length ca) (.slice qb sp1.es.length cb)
            have eS := (Ext.refl (fun c => c = w.heap.size) w5).set6 (b := w.heap.size) rfl (.int .u8 sp1.er) (.int .i64 sp1.a) (.int .i64 sp1.b) (.int .i64 sp1.w) (.slice qa sp1.ks.length ca) (.slice qb sp1.es.length cb)
            have H5 := Lib.hid (And.intro hD5 (And.intro (ht5.other HQ.out.2.2.2.2.2.2.1.symm HQ.out.1) (And.intro hks5 (And.intro hes5 (And.intro hE5 r0)))))
            have HZ := Lib.hid (And.intro z eS)
            obtain ⟨x0, x1, x2, x3, x4, x5, f0, f1, f2, f3, f4, f5⟩ := cells6 r0
            have l6 := World.block_lt_of_cell? _ _ x0
            clear hD5 ht5 hr5 hks5 hes5 hE5 r0 z eS
            go_wp2_with fail
            clear x0 x1 x2 x3 x4 x5 f0 f1 f2 f3 f4 f5 l6
            generalize ((((((w5.setCell ⟨w.heap.size, 0, none⟩ (.int .u8 sp1.er)).setCell ⟨w.heap.size, 1, none⟩ (.int .i64 sp1.a)).setCell ⟨w.heap.size, 2, none⟩ (.int .i64 sp1.b)).setCell ⟨w.heap.size, 3, none⟩ (.int .i64 sp1.w)).setCell ⟨w.heap.size, 4, none⟩ (.slice qa sp1.ks.length ca)).setCell ⟨w.heap.size, 5, none⟩ (.slice qb sp1.es.length cb)) = W5 at HZ ⊢
            have gX : Gr W5 HX τX σ2 := H5.out.2.1.ext HZ.out.2 (fun c hc hh => by have := HQ.out.2.2.2.2.2.2.2 c hc; have := HW0.out.2.2.2; omega)
            have HG6 := Lib.hid gX
            clear gX
            refine (step_am dir (a := 0) (b := 0) (wt := 0) HG6.out HQ.out.2.1 HLn.out.1 HLn.out.2).mono ?_
            rintro r6 w6 ⟨σ6, s6, sp2, ks2, es2, rfl, hD6, ht6, hr6, hks6, hes6⟩
            obtain ⟨qc, cc, rfl, -⟩ := own_read (f := oneC) (fun _ => rfl) hks6
            obtain ⟨qd, cd, rfl, -⟩ := own_read (f := triC) (fun _ => rfl) hes6
            have hE6 : Ext (fun c => c = w.heap.size) W0 w6 := (H5.out.2.2.2.2.1.no.trans HZ.out.2).then ht6.2.1 (fun c hc hh => by have := HQ.out.2.2.2.2.2.2.2 c (Or.inr (Or.inr hh)); omega)
            have r1 := hE6.obj HW0.out.2.2.1 (by omega)
            have r0 := ht6.2.1.obj HZ.out.1 (fun hh => by have := HQ.out.2.2.2.2.2.2.2 _ (Or.inr (Or.inr hh)); have := HW0.out.2.2.2; omega)
            have ko := own_turned2 HG6.out ht6 (ownsRow_ext H5.out.2.2.1 HZ.out.2 (fun c hc e => row_ne H5.out.2.2.2.2.2 H5.out.2.2.1 (by decide) (by rw [hc, e]))) (by decide)
            have xo := own_turned2 HG6.out ht6 (ownsRow_ext H5.out.2.2.2.1 HZ.out.2 (fun c hc e => row_ne H5.out.2.2.2.2.2 H5.out.2.2.2.1 (by decide) (by rw [hc, e]))) (by decide)
            have z := set6 r1 (.int .u8 sp2.er) (.int .i64 sp2.a) (.int .i64 sp2.b) (.int .i64 sp2.w) (.slice qc sp2.ks.length cc) (.slice qd sp2.es.length cd)
            have eS := (Ext.refl (fun c => c = w.heap.size + 1) w6).set6 (b := w.heap.size + 1) rfl (.int .u8 sp2.er) (.int .i64 sp2.a) (.int .i64 sp2.b) (.int .i64 sp2.w) (.slice qc sp2.ks.length cc) (.slice qd sp2.es.length cd)
            obtain ⟨x0, x1, x2, x3, x4, x5, f0, f1, f2, f3, f4, f5⟩ := cells6 r1
            have l6 := World.block_lt_of_cell? _ _ x0
            have hw5 : w.heap.size ≤ wy.heap.size := Nat.le_trans HW0.out.1.size HQ.out.2.2.2.2.1.size
            have hw6 : w.heap.size ≤ W5.heap.size := Nat.le_trans (Nat.le_trans HW0.out.1.size H5.out.2.2.2.2.1.size) HZ.out.2.size
            have H6 := Lib.hid (And.intro hD6 (And.intro hE6 (And.intro (And.intro (ownsRow_low ko hw5) (ownsRow_low xo hw5)) (And.intro (ownsRow_low hks6 hw6) (ownsRow_low hes6 hw6)))))
            have HZ2 := Lib.hid (And.intro z (And.intro eS (And.intro (eS.obj r0 (by omega)) (And.intro r0 r1))))
            clear hD6 ht6 hr6 hks6 hes6 hE6 r1 r0 z eS ko xo hw5 hw6
            go_wp2_with fail
            clear x0 x1 x2 x3 x4 x5 f0 f1 f2 f3 f4 f5 l6
            generalize ((((((w6.setCell ⟨w.heap.size + 1, 0, none⟩ (.int .u8 sp2.er)).setCell ⟨w.heap.size + 1, 1, none⟩ (.int .i64 sp2.a)).setCell ⟨w.heap.size + 1, 2, none⟩ (.int .i64 sp2.b)).setCell ⟨w.heap.size + 1, 3, none⟩ (.int .i64 sp2.w)).setCell ⟨w.heap.size + 1, 4, none⟩ (.slice qc sp2.ks.length cc)).setCell ⟨w.heap.size + 1, 5, none⟩ (.slice qd sp2.es.length cd)) = W7 at HZ2 ⊢
            obtain ⟨x0, x1, x2, x3, x4, x5, f0, f1, f2, f3, f4, f5⟩ := cells6 HZ2.out.1
            obtain ⟨y0, y1, y2, y3, y4, y5, g0, g1, g2, g3, g4, g5⟩ := cells6 HZ2.out.2.2.1
            have l6 := World.block_lt_of_cell? _ _ x0
            have l5 := World.block_lt_of_cell? _ _ y0
            go_region
            all_goals go_wp2
            all_goals
              refine bodyPost_ret (v := .tuple #[saidV sp1.er sp1.a sp1.b sp1.w (.slice qa sp1.ks.length ca) (.slice qb sp1.es.length cb), saidV sp2.er sp2.a sp2.b sp2.w (.slice qc sp2.ks.length cc) (.slice qd sp2.es.length cd)]) ?hr rfl ?hR
              case hR =>
                have eA := (Ext.refl (fun c => c = w.heap.size) W7).set6 (b := w.heap.size) rfl (.int .u8 sp1.er) (.int .i64 sp1.a) (.int .i64 sp1.b) (.int .i64 sp1.w) (.slice qa sp1.ks.length ca) (.slice qb sp1.es.length cb)
                have eB := ((Ext.refl (fun c => c = w.heap.size + 1) ((((((W7.setCell ⟨w.heap.size, 0, none⟩ (.int .u8 sp1.er)).setCell ⟨w.heap.size, 1, none⟩ (.int .i64 sp1.a)).setCell ⟨w.heap.size, 2, none⟩ (.int .i64 sp1.b)).setCell ⟨w.heap.size, 3, none⟩ (.int .i64 sp1.w)).setCell ⟨w.heap.size, 4, none⟩ (.slice qa sp1.ks.length ca)).setCell ⟨w.heap.size, 5, none⟩ (.slice qb sp1.es.length cb))).set6 (b := w.heap.size + 1) rfl (.int .u8 sp2.er) (.int .i64 sp2.a) (.int .i64 sp2.b) (.int .i64 sp2.w) (.slice qc sp2.ks.length cc) (.slice qd sp2.es.length cd)).drew
                have eT := (HZ2.out.2.1.mono (T := two2 w.heap.size) (fun c _ h => Or.inr h)).trans ((eA.mono (T := two2 w.heap.size) (fun c _ h => Or.inl h)).trans (eB.mono (T := two2 w.heap.size) (fun c _ h => Or.inr h)))
                have hno : ∀ {B e size n : Nat} {v : Value} {xs : List Value}, w6.ownsRow B e size v n xs → e ≠ 39 → ∀ c, v.ownBlock = some c → ¬ two2 w.heap.size c := fun ho hne c hc h => by
                  rcases h with h | h
                  · exact row_ne HZ2.out.2.2.2.1 ho (fun e => hne e.symm) (by rw [hc, h])
                  · exact row_ne HZ2.out.2.2.2.2 ho (fun e => hne e.symm) (by rw [hc, h])
                refine ⟨s, sY, sX, sz, sps, spz, _, _, _, _, s5, s6, sp1, sp2, rfl, HL.out.1, HDv.out.sy, HDv.out.sx, HQ.out.2.2.1, H5.out.1, H6.out.1, ⟨?_, ?_⟩, ⟨?_, ?_⟩, ?_⟩
                · exact ownsRow_ext H6.out.2.2.1.1 eT (hno H6.out.2.2.1.1 (by decide))
                · exact ownsRow_ext H6.out.2.2.1.2 eT (hno H6.out.2.2.1.2 (by decide))
                · exact ownsRow_ext H6.out.2.2.2.1 eT (hno H6.out.2.2.2.1 (by decide))
                · exact ownsRow_ext H6.out.2.2.2.2 eT (hno H6.out.2.2.2.2 (by decide))
                · exact (HW0.out.1.then H6.out.2.1 (fun c hc e => by omega)).then eT (fun c hc h => by rcases h with h | h <;> omega)
              case hr =>
                have hA := set6 HZ2.out.2.2.1 (.int .u8 sp1.er) (.int .i64 sp1.a) (.int .i64 sp1.b) (.int .i64 sp1.w) (.slice qa sp1.ks.length ca) (.slice qb sp1.es.length cb)
                have eA := (Ext.refl (fun c => c = w.heap.size) W7).set6 (b := w.heap.size) rfl (.int .u8 sp1.er) (.int .i64 sp1.a) (.int .i64 sp1.b) (.int .i64 sp1.w) (.slice qa sp1.ks.length ca) (.slice qb sp1.es.length cb)
                have hB := set6 (eA.obj HZ2.out.1 (by omega)) (.int .u8 sp2.er) (.int .i64 sp2.a) (.int .i64 sp2.b) (.int .i64 sp2.w) (.slice qc sp2.ks.length cc) (.slice qd sp2.es.length cd)
                have eB := (Ext.refl (fun c => c = w.heap.size + 1) ((((((W7.setCell ⟨w.heap.size, 0, none⟩ (.int .u8 sp1.er)).setCell ⟨w.heap.size, 1, none⟩ (.int .i64 sp1.a)).setCell ⟨w.heap.size, 2, none⟩ (.int .i64 sp1.b)).setCell ⟨w.heap.size, 3, none⟩ (.int .i64 sp1.w)).setCell ⟨w.heap.size, 4, none⟩ (.slice qa sp1.ks.length ca)).setCell ⟨w.heap.size, 5, none⟩ (.slice qb sp1.es.length cb))).set6 (b := w.heap.size + 1) rfl (.int .u8 sp2.er) (.int .i64 sp2.a) (.int .i64 sp2.b) (.int .i64 sp2.w) (.slice qc sp2.ks.length cc) (.slice qd sp2.es.length cd)
                exact results_cc (fn := Tryz.f22) (p := 10) (q := 11) (ty := 39) (ty' := 39) rfl rfl (at_drew (eB.obj hA (by omega))) rfl (at_drew hB) Tryz.underlying39 rfl sz39 Tryz.underlying39 rfl sz39
end Go.Proofs.YtcenebjdhbdejaaGreatDoor
