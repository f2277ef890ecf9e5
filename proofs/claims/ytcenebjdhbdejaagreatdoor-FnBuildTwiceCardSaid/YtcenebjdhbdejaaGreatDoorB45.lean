/- From, walked: a graph made by steps, another one by steps of its own and by AddVerticesFrom and AddEdgesFrom of the first. -/
import Derived.Test.YtcenebjdhbdejaaGreatDoorB41
namespace Go.Proofs.YtcenebjdhbdejaaGreatDoor
open Go.MapKept

/-- A kind of graph: the methods that add another one. -/
structure GF (T : TypeId) where
  av : Meth T "AddVerticesFrom"
  ae : Meth T "AddEdgesFrom"
def gf : (dir : Bool) → GF (grT dir)
  | true => ⟨⟨104, M141_AddVerticesFrom, fun _ _ => by kernel_rfl⟩, ⟨102, M141_AddEdgesFrom, fun _ _ => by kernel_rfl⟩⟩
  | false => ⟨⟨129, M143_AddVerticesFrom, fun _ _ => by kernel_rfl⟩, ⟨127, M143_AddEdgesFrom, fun _ _ => by kernel_rfl⟩⟩

theorem Apart.symm {H H2 : Hd} {σ σ2 : St} (h : Apart H σ H2 σ2) : Apart H2 σ2 H σ := fun c h1 h2 => h c h2 h1

theorem any_addVerticesFrom (dir : Bool) {w : World} {H : Hd} {τ : Tr} {σ : St} {H2 : Hd} {τ2 : Tr} {σ2 : St} {p : Nat → Addr} {B : Nat} (h : Gr w H τ σ) (h2 : Gr w H2 τ2 σ2) (ha : Apart H σ H2 σ2) (hp : Sent w p) (hB : Below6 B p) (hBw : B ≤ w.heap.size) (hf : ∀ c, σ.foot H.A c → B ≤ c)
    (hV : σ2.V.length < 1000000) (hE : σ2.E.length < 1000000) :
    Calls Tryz.prog (gf dir).av.f #[.pointer (some ⟨H.d, 0, none⟩), gV dir H2] w (AddedVs p H τ σ (σ2.V.map (·.1)) w) := by
  cases dir with
  | true => exact d_addVerticesFrom h h2 ha hp hB hBw hf hV hE
  | false => exact u_addVerticesFrom h h2 ha hp hB hBw hf hV hE

theorem any_addEdgesFrom (dir : Bool) {w : World} {H : Hd} {τ : Tr} {σ : St} {s : PS} {H2 : Hd} {τ2 : Tr} {σ2 : St} {s2 : PS} {p : Nat → Addr} {B : Nat} (h : Gr w H τ σ) (hr : Rep dir s τ σ) (h2 : Gr w H2 τ2 σ2) (hr2 : Rep dir s2 τ2 σ2) (ha : Apart H σ H2 σ2) (hp : Sent w p) (hB : Below6 B p) (hBw : B ≤ w.heap.size) (hf : ∀ c, σ.foot H.A c → B ≤ c)
    (hprev : τ.prev = false) (hE : (stored dir s2.E).length < 1000000) :
    Calls Tryz.prog (gf dir).ae.f #[.pointer (some ⟨H.d, 0, none⟩), gV dir H2] w (AddedEs p dir H τ σ s s2 σ2 w) := by
  cases dir with
  | true => exact d_addEdgesFrom h hr h2 hr2 ha hp hB hBw hf hprev hE
  | false => exact u_addEdgesFrom h hr h2 hr2 ha hp hB hBw hf hprev hE

/-- any step but Clone -/
theorem step_any (dir : Bool) {w : World} {H : Hd} {τ : Tr} {σ : St} {s : PS} {x : Stp} {p : Nat → Addr} {B : Nat} (h0 : 0 ≤ x.op) (h1 : rightS dir x = true) (hne : x.op ≠ 11) (h : Gr w H τ σ) (hr : Rep dir s τ σ) (hp : Sent w p) (hB : Below6 B p) (hf : ∀ c, σ.foot H.A c → B ≤ c) (hprev : τ.prev = false) (hl : s.V.length + s.E.length < 400000) :
    Calls Tryz.prog 24 #[gV dir H, x.val] w (StepPost dir H τ σ (DoI dir x s) w) := by
  have hV : s.V.length < 1000000 := by omega
  have hE : (stored dir s.E).length < 1000000 := by rw [stored_len]; split <;> omega
  obtain ⟨hx1, hab⟩ := right_op h1
  obtain ⟨op, a, b, wt⟩ := x
  simp only at h0 hx1 hab hne
  have key : ∀ {D : PS → SP → Prop} {op' : Int}, op = op' → (∀ s' sp, D s' sp → DoI dir ⟨op, a, b, wt⟩ s s' sp) → Calls Tryz.prog 24 #[gV dir H, stepV op' a b wt] w (StepPost dir H τ σ D w) →
      Calls Tryz.prog 24 #[gV dir H, (⟨op, a, b, wt⟩ : Stp).val] w (StepPost dir H τ σ (DoI dir ⟨op, a, b, wt⟩ s) w) := by
    intro D op' ho hd hc
    subst ho
    refine hc.mono fun r w' hh => ?_
    obtain ⟨σ', s', sp, ks, es, h2, h3, h4⟩ := hh
    exact ⟨σ', s', sp, ks, es, h2, hd _ _ h3, h4⟩
  rcases op_cases h0 hx1 with h9 | h9 | h9 | h9 | h9 | h9 | h9 | h9 | h9 | h9 | h9 | h9
  · exact key h9 (fun s' sp hh => by subst h9; simpa [DoI] using hh) (step_av dir h hr hp hB hf)
  · exact key h9 (fun s' sp hh => by subst h9; simpa [DoI] using hh) (step_rv dir h hr hp hB hf)
  · exact key h9 (fun s' sp hh => by subst h9; simpa [DoI] using hh) (step_ae dir h hr hp hB hf hprev (fun e => hab e (by omega) (by omega)))
  · exact key h9 (fun s' sp hh => by subst h9; simpa [DoI] using hh) (step_re dir h hr hp hB hf (fun e => hab e (by omega) (by omega)))
  · exact key h9 (fun s' sp hh => by subst h9; simpa [DoI] using hh) (step_ue dir h hr hp hB hf (fun e => hab e (by omega) (by omega)))
  · exact key h9 (fun s' sp hh => by subst h9; simpa [DoI] using hh) (step_vx dir h hr hp hB)
  · exact key h9 (fun s' sp hh => by subst h9; simpa [DoI] using hh) (step_ed dir h hr hp hB)
  · exact key h9 (fun s' sp hh => by subst h9; simpa [DoI] using hh) (step_ct dir h hr hV hE)
  · exact key h9 (fun s' sp hh => by subst h9; simpa [DoI] using hh) (step_es dir h hr hE)
  · exact key h9 (fun s' sp hh => by subst h9; simpa [DoI] using hh) (step_am dir h hr hV hE)
  · exact key h9 (fun s' sp hh => by subst h9; simpa [DoI] using hh) (step_pm dir h hr hV hE)
  · exact absurd h9 hne

/-- steps that may be done here -/
structure Plain (dir : Bool) (l : List Stp) : Prop where
  pos : ∀ x ∈ l, 0 ≤ x.op
  right : ∀ x ∈ l, rightS dir x = true
  ne : ∀ x ∈ l, x.op ≠ 11
  len : l.length < 100000

/-- a round of steps over a graph of two -/
def XR (dir : Bool) (H : Hd) (τ : Tr) (σ : St) (w : World) (s0 : PS) (n0 : Nat) (l : List Stp) (k : Nat) (xv iv : Value) (wr : World) : Prop :=
  ∃ (i : Nat) (σ' : St) (s : PS) (sps : List SP), xv = gV dir H ∧ iv = .int .i64 i ∧ i + k = l.length ∧ Turned H τ σ σ' w wr ∧ Rep dir s τ σ' ∧ Chain (DoI dir) (l.take i) s0 s sps ∧ s.V.length + s.E.length ≤ n0 + i

theorem XR.next {dir : Bool} {H : Hd} {τ : Tr} {σ σ' σ'' : St} {w wr W w2 : World} {l : List Stp} {i k n0 : Nat} {s0 s s'' : PS} {sps : List SP} {sp : SP} (hl : l.length < 100000) (hlt : i < l.length) (hk : i + k = l.length) (ht : Turned H τ σ σ' w wr) (hch : Chain (DoI dir) (l.take i) s0 s sps) (hsz : s.V.length + s.E.length ≤ n0 + i)
    (eA : Ext No wr W) (hD : DoI dir l[i] s s'' sp) (h2 : Turned H τ σ' σ'' W w2) (hr : Rep dir s'' τ σ'') : XR dir H τ σ w s0 n0 l (l.length - (i + 1)) (gV dir H) (.int .i64 (RowKit.wrap64 ((i : Int) + 1))) w2 := by
  refine ⟨i + 1, σ'', s'', sps ++ [sp], rfl, by rw [w64 (by omega)], by omega, (ht.no eA).trans h2, hr, ?_, by have := hD.size; omega⟩
  rw [List.take_add_one, List.getElem?_eq_getElem hlt]
  exact hch.snoc hD

/-- results: two in slots, and a variable in memory -/
theorem results_ttc {P : Program} {fn : Func} {p q r : Tmp} {ty : TypeId} (h : fn.results = #[.tmp q, .tmp r, .cell p ty]) {tmps : Array Value} {w : World} {g : Nat} {t : TypeId} {cs : Array Value} {fr : Nat × Nat} {d : TypeDesc}
    (hp : tmps.getD p undef = .pointer (some ⟨g, 0, none⟩)) (hg : w.heap[g]? = some (.cells cs t fr))
    (hu : P.underlying ty = some d) (hd : (match d with | .struct _ | .array _ _ => true | _ => false) = true) (hi : (P.info? ty).map (·.size) = some cs.size) {v u : Value} (hv : tmps.getD q undef = v) (hr : tmps.getD r undef = u) :
    (results fn tmps).run P w = .ok (.tuple #[v, u, .agg cs]) w := by
  have hp' : tmps[p]?.getD undef = .pointer (some ⟨g, 0, none⟩) := by simpa using hp
  have hv' : tmps[q]?.getD undef = v := by simpa using hv
  have hr' : tmps[r]?.getD undef = u := by simpa using hr
  simp [results, h, hp', hv', hr', asAddr, run_loadVar_row w g t ty cs fr d hg hu hd hi]

/-- what From says of vertices: their order, how far it came -/
def VsSaid (sx sy : PS) (K : List Int) (n : Nat) (ev : Int) : Prop :=
  K.Perm sx.V ∧ ((n = K.length ∧ ev = 0) ∨ ∃ hn : n < K.length, K[n] ∈ sy.V ++ K.take n ∧ ev = 1)
/-- what From says of edges -/
def EsSaid (dir : Bool) (sx sy : PS) (L : List Tri) (n : Nat) (ee : Int) : Prop :=
  (stored dir L).Perm (stored dir sx.E) ∧ ((n = L.length ∧ ee = 0) ∨ ∃ hn : n < L.length, (L[n].1 ∉ sy.V ∨ L[n].2.1 ∉ sy.V ∨ hasE dir (sy.E ++ L.take n) L[n].1 L[n].2.1))

/-- What From leaves. -/
def FromPost (dir : Bool) (l o : List Stp) (w : World) (r : Ending) (w' : World) : Prop :=
  ∃ (sx sy : PS) (spx spy : List SP) (K : List Int) (n : Nat) (L : List Tri) (m : Nat) (ev ee : Int) (ks es : Value) (s' : PS) (sp : SP),
    r = .returned (.tuple #[.int .u8 ev, .int .u8 ee, saidV sp.er sp.a sp.b sp.w ks es]) ∧ Chain (DoI dir) l ⟨[], []⟩ sx spx ∧ Chain (DoI dir) o ⟨[], []⟩ sy spy ∧ VsSaid sx sy K n ev ∧ EsSaid dir sx ⟨sy.V ++ K.take n, sy.E⟩ L m ee ∧
    DoAM dir ⟨sy.V ++ K.take n, sy.E ++ L.take m⟩ s' sp ∧ Fine dir ⟨sy.V ++ K.take n, sy.E ++ L.take m⟩ ∧ w'.ownsRow w.heap.size 2 1 ks sp.ks.length (sp.ks.flatMap oneC) ∧ w'.ownsRow w.heap.size 59 3 es sp.es.length (sp.es.flatMap triC) ∧ Ext No w w'

theorem own_turned2 {w w' : World} {H : Hd} {τ : Tr} {σ σ' : St} (hg : Gr w H τ σ) (ht : Turned H τ σ σ' w w') {B e size n : Nat} {v : Value} {xs : List Value} (h : w.ownsRow B e size v n xs) (hne : e ≠ 149) : w'.ownsRow B e size v n xs := own_turned hg ht.2.1 (fun _ h => h) h hne

set_option maxRecDepth 100000 in
set_option maxHeartbeats 4000000 in
theorem from_run (dir wei : Bool) {p : Nat → Addr} {B1 B2 : Nat} {w : World} {l o : List Stp} {sv ov : Value} (hp : Sent w p) (hB : Below6 w.heap.size p) (hs : w.ownsRow B1 64 4 sv l.length (l.flatMap Stp.c)) (ho : w.ownsRow B2 64 4 ov o.length (o.flatMap Stp.c)) (hl : Plain dir l) (hol : Plain dir o) :
    Calls Tryz.prog 20 #[.bool dir, .bool wei, sv, ov] w (FromPost dir l o w) := by
  obtain ⟨q, c, rfl, -⟩ := own_read (f := Stp.c) (fun _ => rfl) hs
  obtain ⟨q', c', rfl, -⟩ := own_read (f := Stp.c) (fun _ => rfl) ho
  have HG := Lib.hid (And.intro hp (And.intro hB (And.intro hs (And.intro ho (And.intro hl hol)))))
  clear hp hB hs ho hl hol
  have hM1 := (gf dir).av.m
  have hE1 := (gf dir).av.e
  have hM2 := (gf dir).ae.m
  have hE2 := (gf dir).ae.e
  go_enter Tryz.func20, Tryz.ntmps20
  go_wp2_with fail
  refine (started_run dir false wei _).mono ?_
  rintro r1 w1 ⟨H1, rfl, g1, e1, f1⟩
  have e01 : Ext No w w1 := ((Ext.refl No w).alloc _).trans e1
  have rA := e1.obj (heap_alloc w said0).1 id
  have K1 := Lib.hid (And.intro g1 (And.intro f1 (And.intro e01 (And.intro rA e1))))
  clear g1 e1 f1 e01 rA
  go_wp2_with fail
  refine (started_run dir false wei _).mono ?_
  rintro r2 w2 ⟨H2, rfl, g2, e2, f2⟩
  have K2 := Lib.hid (And.intro g2 (And.intro e2 f2))
  clear g2 e2 f2
  go_wp2_with fail
  try go_frame
  have eW2 : Ext No (w.alloc said0) w2 := (show Ext No (w.alloc said0) w1 from K1.out.2.2.2.2).trans K2.out.2.1
  have gx2 := K1.out.1.ext K2.out.2.1 (fun _ _ h => h)
  have hA12 : Apart H1 σ0 H2 σ0 := fun c h1 h2 => by
    have := K1.out.1.foot_lt h1
    have := K2.out.2.2 c h2
    omega
  have f1' : ∀ c, Gr.foot H1 σ0 c → (w.alloc said0).heap.size ≤ c := K1.out.2.1
  have f2' : ∀ c, Gr.foot H2 σ0 c → (w.alloc said0).heap.size ≤ c := fun c hc => Nat.le_trans K1.out.2.2.2.2.size (K2.out.2.2 c hc)
  have hW0 : w.heap.size ≤ (w.alloc said0).heap.size := by simp
  have KE := Lib.hid (And.intro eW2 (And.intro gx2 (And.intro hA12 (And.intro f1' (And.intro f2' hW0)))))
  clear eW2 gx2 hA12 f1' f2' hW0
  go_loopg [11, 25] l.length (fun k xv iv wr => XR dir H1 (trOf (oD dir false wei)) σ0 w2 ⟨[], []⟩ 0 l k xv iv wr)
  case atStart => exact ⟨0, σ0, ⟨[], []⟩, [], rfl, rfl, by simp, Turned.same KE.out.2.1 (Ext.refl _ _), ⟨oD_dir _ _ _, rfl, by cases dir <;> rfl, fun _ e he => by cases he⟩, Chain.nil _, by simp⟩
  case round =>
    obtain ⟨i, σ', s, sps, rfl, rfl, hk, ht, hr, hch, hsz⟩ := hrel
    have hEx : Ext No (w.alloc said0) wr := KE.out.1.then ht.2.1 (fun c hc hh => by have := KE.out.2.2.2.1 c (Or.inr (Or.inr hh)); omega)
    by_cases hlt : i < l.length
    · have hsw := own_turned2 KE.out.2.1 ht (ownsRow_ext (HG.out.2.2.1.alloc said0) KE.out.1 (fun _ _ h => h)) (by decide)
      obtain ⟨g, hq, hg, hc⟩ := own_at (f := Stp.c) (fun _ => rfl) hsw hlt
      subst hq
      have c0 : wr.cell? ⟨g, i * 4, none⟩ = some (.int .u8 (l[i]'hlt).op) := hc 0 (by decide)
      have c1 : wr.cell? ⟨g, i * 4 + 1, none⟩ = some (kI (l[i]'hlt).a) := hc 1 (by decide)
      have c2 : wr.cell? ⟨g, i * 4 + 2, none⟩ = some (kI (l[i]'hlt).b) := hc 2 (by decide)
      have c3 : wr.cell? ⟨g, i * 4 + 3, none⟩ = some (.int .i64 (l[i]'hlt).wt) := hc 3 (by decide)
      have hlt' : (i : Int) < (l.length : Int) := by omega
      have eA : Ext No wr (wr.alloc (.cells (l[i]'hlt).c.toArray 64)) := (Ext.refl No wr).alloc _
      have hcall : Calls Tryz.prog 24 #[gV dir H1, (l[i]'hlt).val] (wr.alloc (.cells (l[i]'hlt).c.toArray 64)) (StepPost dir H1 (trOf (oD dir false wei)) σ' (DoI dir (l[i]'hlt) s) (wr.alloc (.cells (l[i]'hlt).c.toArray 64))) := by
        have hm := List.getElem_mem hlt
        have hpl := HG.out.2.2.2.2.1
        refine step_any dir (B := w.heap.size) (hpl.pos _ hm) (hpl.right _ hm) (hpl.ne _ hm) (ht.1.ext eA (fun _ _ h => h)) hr (HG.out.1.ext HG.out.2.1 ((((Ext.refl No w).alloc said0).trans hEx).trans eA) (fun _ h => h.elim)) HG.out.2.1 (fun c hc => ?_) (oD_prev _ _ _) (by have := hpl.len; omega)
        rcases ht.2.2 c hc with h7 | h7
        · exact Nat.le_trans KE.out.2.2.2.2.2 (KE.out.2.2.2.1 c (Or.inr (Or.inr h7)))
        · exact Nat.le_trans (Nat.le_trans KE.out.2.2.2.2.2 KE.out.1.size) h7
      have HR := Lib.hid (And.intro hk (And.intro ht (And.intro hr (And.intro hch (And.intro hsz eA)))))
      have HCa := Lib.hid hcall
      clear hk ht hr hch hsz hEx hsw hc hcall eA
      go_wp2_with fail
      refine HCa.out.mono ?_
      rintro r3 w3 ⟨σ'', s'', sp, ks, es, rfl, hD, ht3, hr3, hks, hes⟩
      obtain ⟨qa, ca, rfl, -⟩ := own_read (f := oneC) (fun _ => rfl) hks
      obtain ⟨qb, cb, rfl, -⟩ := own_read (f := triC) (fun _ => rfl) hes
      have HD := Lib.hid (And.intro hD (And.intro ht3 hr3))
      clear hD ht3 hr3 hks hes c0 c1 c2 c3
      go_wp2_with fail
      go_roundg (l.length - (i + 1))
      case measure => have := HR.out.1; omega
      case rel => exact XR.next HG.out.2.2.2.2.1.len hlt HR.out.1 HR.out.2.1 HR.out.2.2.2.1 HR.out.2.2.2.2.1 HR.out.2.2.2.2.2 HD.out.1 HD.out.2.1 HD.out.2.2
    · have hnlt : ¬ (i : Int) < (l.length : Int) := by omega
      have hi : i = l.length := by omega
      subst hi
      rw [List.take_length] at hch
      have gy : Gr wr H2 (trOf (oD dir false wei)) σ0 := ht.other KE.out.2.2.1 K2.out.1
      have hAx := (KE.out.2.2.1.turned ht K2.out.1).symm
      have HX := Lib.hid (And.intro ht (And.intro hr (And.intro hch (And.intro hsz (And.intro hEx (And.intro gy hAx))))))
      clear hk ht hr hch hsz hEx gy hAx
      obtain ⟨wx, rfl⟩ : ∃ W : World, W = wr := ⟨_, rfl⟩
      go_wp2_with fail
      try go_frame
      go_loopg [12, 38] o.length (fun k xv iv wq => XR dir H2 (trOf (oD dir false wei)) σ0 wx ⟨[], []⟩ 0 o k xv iv wq)
      case atStart => exact ⟨0, σ0, ⟨[], []⟩, [], rfl, rfl, by simp, Turned.same HX.out.2.2.2.2.2.1 (Ext.refl _ _), ⟨oD_dir _ _ _, rfl, by cases dir <;> rfl, fun _ e he => by cases he⟩, Chain.nil _, by simp⟩
      case round =>
        obtain ⟨j, σy, sy, spy, rfl, rfl, hk, ht, hr, hch, hsz⟩ := hrel
        have hEx : Ext No (w.alloc said0) wr := HX.out.2.2.2.2.1.then ht.2.1 (fun c hc hh => by have := KE.out.2.2.2.2.1 c (Or.inr (Or.inr hh)); omega)
        by_cases hlt : j < o.length
        · have hsw := own_turned2 HX.out.2.2.2.2.2.1 ht (ownsRow_ext (HG.out.2.2.2.1.alloc said0) HX.out.2.2.2.2.1 (fun _ _ h => h)) (by decide)
          obtain ⟨g, hq, hg, hc⟩ := own_at (f := Stp.c) (fun _ => rfl) hsw hlt
          subst hq
          have c0 : wr.cell? ⟨g, j * 4, none⟩ = some (.int .u8 (o[j]'hlt).op) := hc 0 (by decide)
          have c1 : wr.cell? ⟨g, j * 4 + 1, none⟩ = some (kI (o[j]'hlt).a) := hc 1 (by decide)
          have c2 : wr.cell? ⟨g, j * 4 + 2, none⟩ = some (kI (o[j]'hlt).b) := hc 2 (by decide)
          have c3 : wr.cell? ⟨g, j * 4 + 3, none⟩ = some (.int .i64 (o[j]'hlt).wt) := hc 3 (by decide)
          have hlt' : (j : Int) < (o.length : Int) := by omega
          have eA : Ext No wr (wr.alloc (.cells (o[j]'hlt).c.toArray 64)) := (Ext.refl No wr).alloc _
          have hcall : Calls Tryz.prog 24 #[gV dir H2, (o[j]'hlt).val] (wr.alloc (.cells (o[j]'hlt).c.toArray 64)) (StepPost dir H2 (trOf (oD dir false wei)) σy (DoI dir (o[j]'hlt) sy) (wr.alloc (.cells (o[j]'hlt).c.toArray 64))) := by
            have hm := List.getElem_mem hlt
            have hpl := HG.out.2.2.2.2.2
            refine step_any dir (B := w.heap.size) (hpl.pos _ hm) (hpl.right _ hm) (hpl.ne _ hm) (ht.1.ext eA (fun _ _ h => h)) hr (HG.out.1.ext HG.out.2.1 ((((Ext.refl No w).alloc said0).trans hEx).trans eA) (fun _ h => h.elim)) HG.out.2.1 (fun c hc => ?_) (oD_prev _ _ _) (by have := hpl.len; omega)
            rcases ht.2.2 c hc with h7 | h7
            · exact Nat.le_trans KE.out.2.2.2.2.2 (KE.out.2.2.2.2.1 c (Or.inr (Or.inr h7)))
            · exact Nat.le_trans (Nat.le_trans KE.out.2.2.2.2.2 HX.out.2.2.2.2.1.size) h7
          have HR := Lib.hid (And.intro hk (And.intro ht (And.intro hr (And.intro hch (And.intro hsz eA)))))
          have HCa := Lib.hid hcall
          clear hk ht hr hch hsz hEx hsw hc hcall eA
          go_wp2_with fail
          refine HCa.out.mono ?_
          rintro r3 w3 ⟨σ'', s'', sp, ks, es, rfl, hD, ht3, hr3, hks, hes⟩
          obtain ⟨qa, ca, rfl, -⟩ := own_read (f := oneC) (fun _ => rfl) hks
          obtain ⟨qb, cb, rfl, -⟩ := own_read (f := triC) (fun _ => rfl) hes
          have HD := Lib.hid (And.intro hD (And.intro ht3 hr3))
          clear hD ht3 hr3 hks hes c0 c1 c2 c3
          go_wp2_with fail
          go_roundg (o.length - (j + 1))
          case measure => have := HR.out.1; omega
          case rel => exact XR.next HG.out.2.2.2.2.2.len hlt HR.out.1 HR.out.2.1 HR.out.2.2.2.1 HR.out.2.2.2.2.1 HR.out.2.2.2.2.2 HD.out.1 HD.out.2.1 HD.out.2.2
        · have hnlt2 : ¬ (j : Int) < (o.length : Int) := by omega
          have hj : j = o.length := by omega
          subst hj
          rw [List.take_length] at hch
          have gx := ht.other HX.out.2.2.2.2.2.2 HX.out.1.1
          have hAy := HX.out.2.2.2.2.2.2.turned ht HX.out.1.1
          have hfy : ∀ c, σy.foot H2.A c → w.heap.size ≤ c := fun c hc => by
            rcases ht.2.2 c hc with h7 | h7
            · exact Nat.le_trans KE.out.2.2.2.2.2 (KE.out.2.2.2.2.1 c (Or.inr (Or.inr h7)))
            · exact Nat.le_trans (Nat.le_trans KE.out.2.2.2.2.2 HX.out.2.2.2.2.1.size) h7
          have hfy0 : ∀ c, σy.foot H2.A c → (w.alloc said0).heap.size ≤ c := fun c hc => by
            rcases ht.2.2 c hc with h7 | h7
            · exact KE.out.2.2.2.2.1 c (Or.inr (Or.inr h7))
            · exact Nat.le_trans HX.out.2.2.2.2.1.size h7
          have hVx : σ'.V.length < 1000000 := by rw [HX.out.2.1.lenV]; have := HX.out.2.2.2.1; have := HG.out.2.2.2.2.1.len; omega
          have hEx2 : (stored dir s.E).length < 1000000 := by rw [stored_len]; have := HX.out.2.2.2.1; have := HG.out.2.2.2.2.1.len; split <;> omega
          have hsw : w.heap.size ≤ wr.heap.size := Nat.le_trans KE.out.2.2.2.2.2 hEx.size
          have HY := Lib.hid (And.intro ht.1 (And.intro hr (And.intro hch (And.intro hsz (And.intro hEx (And.intro gx (And.intro hAy (And.intro hfy (And.intro hfy0 (And.intro hVx (And.intro hEx2 hsw)))))))))))
          clear hk ht hr hch hsz hEx gx hAy hfy hfy0 hVx hEx2 hsw
          obtain ⟨wy, rfl⟩ : ∃ W : World, W = wr := ⟨_, rfl⟩
          go_wp2_with fail
          refine (any_addVerticesFrom dir HY.out.1 HY.out.2.2.2.2.2.1 HY.out.2.2.2.2.2.2.1 (HG.out.1.ext HG.out.2.1 (((Ext.refl No w).alloc said0).trans HY.out.2.2.2.2.1) (fun _ h => h.elim)) HG.out.2.1 HY.out.2.2.2.2.2.2.2.2.2.2.2 HY.out.2.2.2.2.2.2.2.1 HY.out.2.2.2.2.2.2.2.2.2.1 (by have := HY.out.2.2.2.2.2.2.2.2.2.2.1; rw [← HX.out.2.1.E, List.length_map] at this; exact this)).mono ?_
          rintro r7 w7 ⟨K, n, σ7, hK, ht7, hV7, hE7, hres7⟩
          obtain ⟨er, hr7, hno7, hvs⟩ : ∃ er : Option Er, r7 = .returned (erv p er) ∧ (∀ x, er = some x → x.no < 6) ∧ VsSaid s sy K n (numOf er) := by
            have hK' : K.Perm s.V := by rw [← HX.out.2.1.V]; exact hK
            rcases hres7 with ⟨rfl, rfl⟩ | ⟨hn, hm, rfl⟩
            · exact ⟨none, rfl, (fun x h => by cases h), hK', Or.inl ⟨rfl, rfl⟩⟩
            · exact ⟨some (.wrap (.sent 0)), rfl, (fun x h => by cases h; decide), hK', Or.inr ⟨hn, by rw [← HY.out.2.1.V]; exact hm, rfl⟩⟩
          subst hr7
          have hr7' : Rep dir ⟨sy.V ++ K.take n, sy.E⟩ (trOf (oD dir false wei)) σ7 := ⟨HY.out.2.1.hd, by rw [hV7, HY.out.2.1.V], by rw [hE7]; exact HY.out.2.1.E, HY.out.2.1.loop⟩
          have hEx7 : Ext No (w.alloc said0) w7 := HY.out.2.2.2.2.1.then ht7.2.1 (fun c hc hh => by have := HY.out.2.2.2.2.2.2.2.2.1 c hh; omega)
          have gx7 := ht7.other HY.out.2.2.2.2.2.2.1 HY.out.2.2.2.2.2.1
          have hA7 := HY.out.2.2.2.2.2.2.1.turned ht7 HY.out.2.2.2.2.2.1
          have hf7 : ∀ c, σ7.foot H2.A c → (w.alloc said0).heap.size ≤ c := fun c hc => by
            rcases ht7.2.2 c hc with h7 | h7
            · exact HY.out.2.2.2.2.2.2.2.2.1 c h7
            · exact Nat.le_trans HY.out.2.2.2.2.1.size h7
          have H7 := Lib.hid (And.intro hno7 (And.intro hvs (And.intro ht7.1 (And.intro hr7' (And.intro hEx7 (And.intro gx7 (And.intro hA7 hf7)))))))
          clear hK ht7 hV7 hE7 hres7 hno7 hvs hr7' hEx7 gx7 hA7 hf7
          go_wp2_with fail
          refine (errorOf_any (HG.out.1.ext HG.out.2.1 (((Ext.refl No w).alloc said0).trans H7.out.2.2.2.2.1) (fun _ h => h.elim)) HG.out.2.1 er H7.out.1).mono ?_
          rintro r8 w8 ⟨rfl, h8⟩
          have H8 := Lib.hid (And.intro (H7.out.2.2.2.2.1.trans h8) h8)
          clear h8
          go_wp2_with fail
          refine (any_addEdgesFrom dir (H7.out.2.2.1.ext H8.out.2 (fun _ _ h => h)) H7.out.2.2.2.1 (H7.out.2.2.2.2.2.1.ext H8.out.2 (fun _ _ h => h)) HX.out.2.1 H7.out.2.2.2.2.2.2.1 (HG.out.1.ext HG.out.2.1 (((Ext.refl No w).alloc said0).trans H8.out.1) (fun _ h => h.elim)) HG.out.2.1 (Nat.le_trans KE.out.2.2.2.2.2 H8.out.1.size) (fun c hc => Nat.le_trans KE.out.2.2.2.2.2 (H7.out.2.2.2.2.2.2.2 c hc)) (oD_prev _ _ _) HY.out.2.2.2.2.2.2.2.2.2.2.1).mono ?_
          rintro r9 w9 ⟨le, m, σ9, hl9, ht9, hr9, hres9⟩
          obtain ⟨er9, hr9r, hno9, hes9⟩ : ∃ er : Option Er, r9 = .returned (erv p er) ∧ (∀ x, er = some x → x.no < 6) ∧ EsSaid dir s ⟨sy.V ++ K.take n, sy.E⟩ (le.map EdgeR.tri) m (numOf er) := by
            rcases hres9 with ⟨rfl, rfl⟩ | ⟨hm, e, hno, rfl, hbad⟩
            · exact ⟨none, rfl, (fun x h => by cases h), hl9.1, Or.inl ⟨by simp, rfl⟩⟩
            · refine ⟨some (.wrap e), rfl, (fun x h => by cases h; exact hno), hl9.1, Or.inr ⟨by simpa using hm, ?_⟩⟩
              simpa [List.map_take] using hbad
          subst hr9r
          have hr9' : Rep dir ⟨sy.V ++ K.take n, sy.E ++ (le.map EdgeR.tri).take m⟩ (trOf (oD dir false wei)) σ9 := by rw [← List.map_take]; exact hr9
          have hEx9 : Ext No (w.alloc said0) w9 := H8.out.1.then ht9.2.1 (fun c hc hh => by have := H7.out.2.2.2.2.2.2.2 c hh; omega)
          have hf9 : ∀ c, σ9.foot H2.A c → (w.alloc said0).heap.size ≤ c := fun c hc => by
            rcases ht9.2.2 c hc with h7 | h7
            · exact H7.out.2.2.2.2.2.2.2 c h7
            · exact Nat.le_trans H8.out.1.size h7
          have H9 := Lib.hid (And.intro hno9 (And.intro hes9 (And.intro ht9.1 (And.intro hr9' (And.intro hEx9 hf9)))))
          clear hl9 ht9 hr9 hres9 hno9 hes9 hr9' hEx9 hf9
          go_wp2_with fail
          refine (errorOf_any (HG.out.1.ext HG.out.2.1 (((Ext.refl No w).alloc said0).trans H9.out.2.2.2.2.1) (fun _ h => h.elim)) HG.out.2.1 er9 H9.out.1).mono ?_
          rintro r10 w10 ⟨rfl, h10⟩
          have H10 := Lib.hid (And.intro (H9.out.2.2.2.2.1.trans h10) h10)
          clear h10
          have hVn : (sy.V ++ K.take n).length < 1000000 := by
            have h1 := H7.out.2.1.1.length_eq
            have := HX.out.2.2.2.1; have := HG.out.2.2.2.2.1.len
            have := HY.out.2.2.2.1; have := HG.out.2.2.2.2.2.len
            rw [List.length_append, List.length_take]; omega
          have hEn : (stored dir (sy.E ++ (le.map EdgeR.tri).take m)).length < 1000000 := by
            have h1 := H9.out.2.1.1.length_eq
            rw [stored_len, stored_len] at h1
            have := HX.out.2.2.2.1; have := HG.out.2.2.2.2.1.len
            have := HY.out.2.2.2.1; have := HG.out.2.2.2.2.2.len
            rw [stored_len, List.length_append, List.length_take]
            cases dir <;> simp at h1 ⊢ <;> omega
          have hcall : Calls Tryz.prog 24 #[gV dir H2, stepV 9 0 0 0] w10 (StepPost dir H2 (trOf (oD dir false wei)) σ9 (DoAM dir ⟨sy.V ++ K.take n, sy.E ++ (le.map EdgeR.tri).take m⟩) w10) := step_am dir (H9.out.2.2.1.ext H10.out.2 (fun _ _ h => h)) H9.out.2.2.2.1 hVn hEn
          have HCa := Lib.hid hcall
          clear hcall hVn hEn
          go_wp2_with fail
          refine HCa.out.mono ?_
          rintro r11 w11 ⟨σ'', s'', sp, ks, es, rfl, hD, ht11, hr11, hks, hes⟩
          obtain ⟨qa, ca, rfl, -⟩ := own_read (f := oneC) (fun _ => rfl) hks
          obtain ⟨qb, cb, rfl, -⟩ := own_read (f := triC) (fun _ => rfl) hes
          have hEx11 : Ext No (w.alloc said0) w11 := H10.out.1.then ht11.2.1 (fun c hc hh => by have := H9.out.2.2.2.2.2 c hh; omega)
          have r11 : w11.heap[w.heap.size]? = some said0 := hEx11.obj (heap_alloc w said0).1 id
          have hle : w.heap.size ≤ w10.heap.size := Nat.le_trans KE.out.2.2.2.2.2 H10.out.1.size
          have HZ := Lib.hid (And.intro hD (And.intro (ownsRow_low hks hle) (And.intro (ownsRow_low hes hle) (And.intro (((Ext.refl No w).alloc said0).trans hEx11) r11))))
          clear hD ht11 hr11 hks hes hEx11 r11 hle
          obtain ⟨x0, x1, x2, x3, x4, x5, f0, f1, f2, f3, f4, f5⟩ := cells6 HZ.out.2.2.2.2
          have l6 := World.block_lt_of_cell? _ _ x0
          go_wp2_with fail
          have z := set6 HZ.out.2.2.2.2 (.int .u8 sp.er) (.int .i64 sp.a) (.int .i64 sp.b) (.int .i64 sp.w) (.slice qa sp.ks.length ca) (.slice qb sp.es.length cb)
          have eS := (Ext.refl (fun c => c = w.heap.size) w11).set6 (b := w.heap.size) rfl (.int .u8 sp.er) (.int .i64 sp.a) (.int .i64 sp.b) (.int .i64 sp.w) (.slice qa sp.ks.length ca) (.slice qb sp.es.length cb)
          have HY2 := Lib.hid (And.intro z eS)
          clear z eS x0 x1 x2 x3 x4 x5 f0 f1 f2 f3 f4 f5 l6
          generalize ((((((w11.setCell ⟨w.heap.size, 0, none⟩ (.int .u8 sp.er)).setCell ⟨w.heap.size, 1, none⟩ (.int .i64 sp.a)).setCell ⟨w.heap.size, 2, none⟩ (.int .i64 sp.b)).setCell ⟨w.heap.size, 3, none⟩ (.int .i64 sp.w)).setCell ⟨w.heap.size, 4, none⟩ (.slice qa sp.ks.length ca)).setCell ⟨w.heap.size, 5, none⟩ (.slice qb sp.es.length cb)) = W at HY2 ⊢
          obtain ⟨x0, x1, x2, x3, x4, x5, f0, f1, f2, f3, f4, f5⟩ := cells6 HY2.out.1
          have l6 := World.block_lt_of_cell? _ _ x0
          go_region
          all_goals go_wp2
          all_goals
            refine bodyPost_ret (v := .tuple #[.int .u8 (numOf er), .int .u8 (numOf er9), saidV sp.er sp.a sp.b sp.w (.slice qa sp.ks.length ca) (.slice qb sp.es.length cb)]) ?hr rfl ?hR
            case hR =>
              have e7 := ((Ext.refl (fun c => c = w.heap.size) W).set6 (b := w.heap.size) rfl (.int .u8 sp.er) (.int .i64 sp.a) (.int .i64 sp.b) (.int .i64 sp.w) (.slice qa sp.ks.length ca) (.slice qb sp.es.length cb)).drew
              have e8 := HY2.out.2.trans e7
              refine ⟨s, sy, sps, spy, K, n, le.map EdgeR.tri, m, _, _, _, _, s'', sp, rfl, HX.out.2.2.1, HY.out.2.2.1, H7.out.2.1, H9.out.2.1, HZ.out.1, H9.out.2.2.2.1.fine H9.out.2.2.1.st, ?_, ?_, HZ.out.2.2.2.1.then e8 (fun c hc e => by omega)⟩
              · exact ownsRow_ext HZ.out.2.1 e8 (fun c hc e => row_ne HZ.out.2.2.2.2 HZ.out.2.1 (by decide) (by rw [hc, e]))
              · exact ownsRow_ext HZ.out.2.2.1 e8 (fun c hc e => row_ne HZ.out.2.2.2.2 HZ.out.2.2.1 (by decide) (by rw [hc, e]))
            case hr =>
              have hg := set6 HY2.out.1 (.int .u8 sp.er) (.int .i64 sp.a) (.int .i64 sp.b) (.int .i64 sp.w) (.slice qa sp.ks.length ca) (.slice qb sp.es.length cb)
              exact results_ttc (fn := Tryz.f20) (g := w.heap.size) (p := 10) (q := 8) (r := 9) (ty := 39) rfl rfl (at_drew hg) Tryz.underlying39 rfl sz39 rfl rfl
end Go.Proofs.YtcenebjdhbdejaaGreatDoor
