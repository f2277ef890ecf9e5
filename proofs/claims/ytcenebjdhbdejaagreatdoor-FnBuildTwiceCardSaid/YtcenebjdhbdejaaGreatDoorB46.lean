/- FnBuildFrom: the plain law; walked. -/
import Derived.Test.YtcenebjdhbdejaaGreatDoorB45
import Derived.Test.YtcenebjdhbdejaaGreatDoorB42
namespace Go.Proofs.YtcenebjdhbdejaaGreatDoor
open Go.MapKept

theorem DoM.grow {dir : Bool} {x : Stp} {s s' : PS} {sp : SP} (h : DoM dir x s s' sp) : s'.V.length + s'.E.length ≤ s.V.length + s.E.length + 1 := by
  unfold DoM at h
  split at h
  · unfold DoAV at h; split at h
    · rw [h.1]; omega
    · rw [h.1]; simp; omega
  split at h
  · unfold DoRV at h
    split at h
    · rw [h.1]; omega
    · split at h
      · rw [h.1]; omega
      · rw [h.1]; have := List.length_filter_le (fun y => !(y == x.a)) s.V; simp only []; omega
  split at h
  · unfold DoAE at h
    split at h
    · rw [h.1]; omega
    · split at h
      · rw [h.1]; omega
      · rw [h.1]; simp; omega
  split at h
  · rcases h with ⟨-, h, -⟩ | ⟨i, hi, -, h, -⟩
    · rw [h]; omega
    · rw [h]; simp only []; rw [List.length_eraseIdx]; split <;> omega
  split at h
  · rcases h with ⟨-, h, -⟩ | ⟨i, hi, -, h, -⟩
    · rw [h]; omega
    · rw [h]; simp
  split at h
  · rw [h.1]; omega
  split at h
  · rw [h.1]; omega
  split at h
  · rw [h.1]; omega
  split at h
  · rw [h.1]; omega
  split at h
  · rw [h.1]; omega
  split at h
  · rw [h.1]; omega
  · rw [h.1]; omega

/-- the same steps on both -/
theorem chains_sim2 {d : Bool} {l : List Stp} {s0 m0 s m : PS} {sps sps' : List SP} (hs0 : Sim d s0 m0) (hf0 : Fine d m0) (h : Chain (DoI d) l s0 s sps) (h' : Chain (DoM d) l m0 m sps') (hr : ∀ x ∈ l, rightS d x = true) : Sim d s m ∧ Fine d m := by
  obtain ⟨f, f0, f1, f2, f3⟩ := h.seq
  obtain ⟨g, g0, g1, g2, g3⟩ := h'.seq
  have key : ∀ i, i ≤ l.length → Sim d (f i) (g i) ∧ Fine d (g i) := by
    intro i
    induction i with
    | zero => intro _; rw [f0, g0]; exact ⟨hs0, hf0⟩
    | succ i ih =>
      intro hi
      obtain ⟨a, b⟩ := ih (by omega)
      have hx := (right_op (hr _ (List.getElem_mem (show i < l.length by omega)))).2
      have := step_law a b (fun h1 h2 => hx h1 (by omega) (by omega)) (f3 i (by omega) (by omega)) (g3 i (by omega) (by omega))
      exact ⟨this.sim, this.fine⟩
  have := key l.length (Nat.le_refl _)
  rw [f1, g1] at this
  exact this
theorem chains_sim {d : Bool} {l : List Stp} {s m : PS} {sps sps' : List SP} (h : Chain (DoI d) l ⟨[], []⟩ s sps) (h' : Chain (DoM d) l ⟨[], []⟩ m sps') (hr : ∀ x ∈ l, rightS d x = true) : Sim d s m ∧ Fine d m :=
  chains_sim2 (Sim.refl _ _) (nil_fine d) h h' hr

theorem not_refusedT {dir : Bool} {s : PS} {L : List Tri} {K : List Int} (hK : K.Perm s.V) (hf : Fine dir s) (hl : (stored dir L).Perm (stored dir s.E)) {n : Nat} (hn : n < L.length) :
    ¬ (L[n].1 ∉ K ∨ L[n].2.1 ∉ K ∨ hasE dir ([] ++ L.take n) L[n].1 L[n].2.1) := by
  have hm : L[n] ∈ stored dir s.E := hl.mem_iff.1 (mem_stored_self (List.getElem_mem hn))
  have he := hf.ends _ hm
  have hu : ((stored dir L).map prT).Nodup := (hl.map _).nodup_iff.2 hf.uq
  have h1 := one_isE (a := L[n].1) (b := L[n].2.1) hu
  rintro (h | h | h)
  · exact h (hK.mem_iff.2 he.1)
  · exact h (hK.mem_iff.2 he.2)
  · rw [List.nil_append] at h
    obtain ⟨e, hem, hj⟩ := hasE_iff.1 h
    obtain ⟨j, hj2, rfl⟩ := List.mem_take_iff_getElem.1 hem
    have := List.pairwise_iff_getElem.1 h1 j n (by omega) (by omega) (by omega)
    exact this ⟨hj, by simp [isE]⟩

/-- both maps of like graphs say the same -/
theorem maps_same {d : Bool} {s m s' m' : PS} {sp sm : SP} (hS : Sim d s m) (hF : Fine d m) (ha : DoAM d s s' sp) (hb : DoBM d false m m' sm) : sp = sm := by
  have hx9 : DoI d ⟨9, 0, 0, 0⟩ s s' sp := by simpa [DoI] using ha
  have hm9 : DoM d ⟨9, 0, 0, 0⟩ m m' sm := by simpa [DoM] using hb
  exact (step_law hS hF (fun _ h => by simp at h) hx9 hm9).same

/-- THE PLAIN LAW of FnBuildFrom -/
theorem from_law {d : Bool} {l : List Stp} {sx sy m s' : PS} {spx spy spm : List SP} {K : List Int} {n k : Nat} {L : List Tri} {ev ee : Int} {sp : SP} (hx : Chain (DoI d) l ⟨[], []⟩ sx spx) (hy : Chain (DoI d) [] ⟨[], []⟩ sy spy) (hm : Chain (DoM d) l ⟨[], []⟩ m spm) (hr : ∀ x ∈ l, rightS d x = true)
    (hv : VsSaid sx sy K n ev) (he : EsSaid d sx ⟨sy.V ++ K.take n, sy.E⟩ L k ee) (ha : DoAM d ⟨sy.V ++ K.take n, sy.E ++ L.take k⟩ s' sp) : ev = 0 ∧ ee = 0 ∧ ∀ m' sm, DoBM d false m m' sm → sp = sm := by
  obtain ⟨rfl, -⟩ := hy.inv0
  obtain ⟨hS, hF⟩ := chains_sim hx hm hr
  have hFx := hS.fine hF
  obtain ⟨hK, hv⟩ := hv
  have hnd : K.Nodup := hK.nodup_iff.2 hFx.nd
  rcases hv with ⟨rfl, rfl⟩ | ⟨hn, hbad, -⟩
  · obtain ⟨hL, he⟩ := he
    simp only [List.nil_append, List.take_length] at he ha
    rcases he with ⟨rfl, rfl⟩ | ⟨hk, hbad⟩
    · rw [List.take_length] at ha
      have hS2 : Sim d ⟨K, L⟩ m := Sim.trans ⟨hK, hL⟩ hS
      exact ⟨rfl, rfl, fun m' sm hb => maps_same hS2 hF ha hb⟩
    · exact absurd (by simpa using hbad) (not_refusedT hK hFx hL hk)
  · exfalso
    simp only [List.nil_append] at hbad
    obtain ⟨j, hj, hje⟩ := List.mem_take_iff_getElem.1 hbad
    have := List.pairwise_iff_getElem.1 hnd j n (by omega) hn (by omega)
    exact this hje

theorem DoBM.len {dir : Bool} {s s' : PS} {sp : SP} (h : DoBM dir false s s' sp) : sp.ks.length ≤ s.V.length ∧ sp.es.length ≤ 2 * s.E.length := by
  obtain ⟨-, -, -, -, -, h1, -, h2, -⟩ := h
  rw [h1.length_eq, h2.length_eq]
  exact ⟨Nat.le_refl _, bothAll_len dir false s.E⟩

/-- six cells -/
abbrev Six (b : Nat) (a0 a1 a2 a3 a4 a5 : Value) (u : World) : Prop := u.cell? ⟨b, 0, none⟩ = some a0 ∧ u.cell? ⟨b, 1, none⟩ = some a1 ∧ u.cell? ⟨b, 2, none⟩ = some a2 ∧ u.cell? ⟨b, 3, none⟩ = some a3 ∧ u.cell? ⟨b, 4, none⟩ = some a4 ∧ u.cell? ⟨b, 5, none⟩ = some a5
theorem Six.ext {S : Nat → Prop} {w w' : World} {b : Nat} {a0 a1 a2 a3 a4 a5 : Value} (h : Six b a0 a1 a2 a3 a4 a5 w) (he : Ext S w w') (hb : ¬ S b) : Six b a0 a1 a2 a3 a4 a5 w' := by
  obtain ⟨x0, x1, x2, x3, x4, x5⟩ := h
  exact ⟨he.cellv x0 hb, he.cellv x1 hb, he.cellv x2 hb, he.cellv x3 hb, he.cellv x4 hb, he.cellv x5 hb⟩
theorem Six.of {w : World} {b : Nat} {c0 c1 c2 c3 c4 c5 : Value} {T : TypeId} (h : w.heap[b]? = some (.cells #[c0, c1, c2, c3, c4, c5] T (0, 0))) : Six b c0 c1 c2 c3 c4 c5 w := by
  obtain ⟨x0, x1, x2, x3, x4, x5, -⟩ := cells6 h
  exact ⟨x0, x1, x2, x3, x4, x5⟩

/-- a round of buildCloned -/
def CLR (l : List Stp) (w : World) (k : Nat) (x : Value) (wr : World) : Prop := ∃ i : Nat, x = .int .i64 i ∧ i + k = l.length ∧ (l.take i).any (fun x => x.op == 11) = false ∧ Ext No w wr

set_option maxRecDepth 100000 in
set_option maxHeartbeats 1000000 in
theorem cloned_run {w : World} {l : List Stp} {lv : Value} (h : RdG w lv l Stp.c) (hl : l.length < 1099511627776) : Calls Tryz.prog 19 #[lv] w (SaysB (l.any fun x => x.op == 11) w) := by
  obtain ⟨q, c, rfl⟩ := h.form
  have HH := Lib.hid (And.intro h hl)
  clear h hl
  go_enter Tryz.func19, Tryz.ntmps19
  go_wp2_with fail
  try go_frame
  go_loopg [7] l.length (fun k x wr => CLR l w k x wr)
  case atStart => exact ⟨0, rfl, by simp, rfl, Ext.refl _ _⟩
  case round =>
    obtain ⟨i, rfl, hk, hn, he⟩ := hrel
    by_cases hlt : i < l.length
    · obtain ⟨g, off, rfl, hg, hc⟩ := RdG.at (f := Stp.c) (size := 4) (fun _ => rfl) (HH.out.1.ext he (fun _ _ h => h)) hlt
      have hlt' : (i : Int) < (l.length : Int) := by omega
      have c0 : wr.cell? ⟨g, off + i * 4, none⟩ = some (.int .u8 (l[i]'hlt).op) := hc 0 (by decide)
      have c1 : wr.cell? ⟨g, off + i * 4 + 1, none⟩ = some (kI (l[i]'hlt).a) := hc 1 (by decide)
      have c2 : wr.cell? ⟨g, off + i * 4 + 2, none⟩ = some (kI (l[i]'hlt).b) := hc 2 (by decide)
      have c3 : wr.cell? ⟨g, off + i * 4 + 3, none⟩ = some (.int .i64 (l[i]'hlt).wt) := hc 3 (by decide)
      have HK := Lib.hid (And.intro hk (And.intro hn he))
      clear hk hn he hc
      generalize hx : l[i]'hlt = x at c0 c1 c2 c3
      have HX := Lib.hid hx
      clear hx
      by_cases h11 : x.op = 11
      · have hb : (x.op == 11) = true := by simpa using h11
        have HR : RowKit.Hid ((l.any fun x => x.op == 11) = true) := Lib.hid (List.any_eq_true.2 ⟨_, List.getElem_mem hlt, by rw [HX.out]; exact hb⟩)
        clear h11
        go_wp2
        go_ret
        rw [HR.out]
        exact ⟨rfl, HK.out.2.2.alloc _⟩
      · have hb : (x.op == 11) = false := by simpa using h11
        have HB := Lib.hid hb
        clear h11
        go_wp2
        go_roundg (l.length - (i + 1))
        case measure => have := HK.out.1; omega
        case rel =>
          refine ⟨i + 1, by rw [w64L (by have := HH.out.2; omega)], by have := HK.out.1; omega, ?_, HK.out.2.2.alloc _⟩
          rw [List.take_add_one, List.getElem?_eq_getElem hlt, List.any_append, HK.out.2.1, HX.out]
          simp only [Option.toList_some, List.any_cons, List.any_nil, Bool.or_false, Bool.false_or]
          exact HB.out
    · have hnlt : ¬ (i : Int) < (l.length : Int) := by omega
      have hi : i = l.length := by omega
      subst hi
      rw [List.take_length] at hn
      have HK := Lib.hid (And.intro hn he)
      clear hk hn he
      go_wp2
      go_ret
      rw [HK.out.1]
      exact ⟨rfl, HK.out.2⟩

/-- a round of the model's steps -/
def MLR (dir : Bool) (m0 : PS) (n0 : Nat) (l : List Stp) (w3 : World) (N mm : Nat) (k : Nat) (iv : Value) (wr : World) : Prop :=
  ∃ (i : Nat) (m : PS) (sps : List SP) (vs es : Value), iv = .int .i64 i ∧ i + k = l.length ∧ Mo wr N mm dir false m vs es ∧ Chain (DoM dir) (l.take i) m0 m sps ∧ m.V.length + m.E.length ≤ n0 + i ∧ Ext (fun c => c = mm) w3 wr

theorem MLR.next {dir : Bool} {l : List Stp} {w3 wr W w4 : World} {N mm i k n0 : Nat} {m0 m m1 : PS} {sps : List SP} {sm : SP} {vs1 es1 : Value} (_hl : l.length < 100000) (hlt : i < l.length) (hk : i + k = l.length) (hch : Chain (DoM dir) (l.take i) m0 m sps) (hsz : m.V.length + m.E.length ≤ n0 + i)
    (he : Ext (fun c => c = mm) w3 wr) (eA : Ext No wr W) (hD : DoM dir l[i] m m1 sm) (hM1 : Mo w4 N mm dir false m1 vs1 es1) (he4 : Ext (fun c => c = mm) W w4) : MLR dir m0 n0 l w3 N mm (l.length - (i + 1)) (.int .i64 ((i : Int) + 1)) w4 := by
  refine ⟨i + 1, m1, sps ++ [sm], vs1, es1, by simp, by omega, hM1, ?_, by have := hD.grow; omega, (he.trans eA.no).trans he4⟩
  rw [List.take_add_one, List.getElem?_eq_getElem hlt]
  exact hch.snoc hD

/-- what is read of both at the comparison -/
theorem AllRd.of {w5 W wD : World} {B N5 mm : Nat} {cs : Array Value} {fr : Nat × Nat} {sp : SP} {ks es kD xD : Value} {m : PS} (hks : w5.ownsRow B 2 1 ks sp.ks.length (sp.ks.flatMap oneC)) (hes : w5.ownsRow B 59 3 es sp.es.length (sp.es.flatMap triC)) (h6 : Ext No w5 W) (hm : w5.heap[mm]? = some (.cells cs 29 fr))
    (hkD : wD.ownsRow N5 2 1 kD sp.ks.length (sp.ks.flatMap oneC)) (hxD : wD.ownsRow N5 48 3 xD sp.es.length (sp.es.flatMap triC)) (he : Ext (fun c => c = mm) W wD) (hlen : sp.ks.length ≤ m.V.length ∧ sp.es.length ≤ 2 * m.E.length) (hm1 : m.V.length + m.E.length ≤ 200) :
    RdS wD ks sp.ks oneC ∧ RdS wD es sp.es triC ∧ RdS wD kD sp.ks oneC ∧ RdS wD xD sp.es triC ∧ sp.ks.length < 1099511627776 ∧ sp.es.length < 1099511627776 := by
  refine ⟨RdS.of_own (ownsRow_ext (ownsRow_ext hks h6 (fun _ _ h => h)) he (fun c hc e => row_ne hm hks (by decide) (by rw [hc, e]))), RdS.of_own (ownsRow_ext (ownsRow_ext hes h6 (fun _ _ h => h)) he (fun c hc e => row_ne hm hes (by decide) (by rw [hc, e]))), RdS.of_own hkD, RdS.of_own hxD, by omega, by omega⟩

set_option maxRecDepth 100000 in
set_option maxHeartbeats 4000000 in
theorem bfrom_run {w : World} {dir wei : Bool} {lv : Value} {l : List Stp} {p : Nat → Addr} (hp : Sent w p) (hB : Below6 w.heap.size p) (hl : RdG w lv l Stp.c) (h0 : ∀ x ∈ l, 0 ≤ x.op) :
    Calls Tryz.prog 6 #[.bool dir, .bool wei, lv] w (Trues w) := by
  obtain ⟨q, c, rfl⟩ := hl.form
  by_cases hsz : l.length ≤ 2147483647
  · have hnsz : ¬ (2147483647 : Int) < (l.length : Int) := by omega
    have HG := Lib.hid (And.intro hp (And.intro hB (And.intro hl (And.intro h0 hsz))))
    clear hp hB hl h0 hsz
    go_enter Tryz.func6, Tryz.ntmps6
    go_wp2_with fail
    refine (right_run (dir := dir) (most := 100) HG.out.2.2.1 (by have := HG.out.2.2.2.2; omega)).mono ?_
    rintro r1 w1 ⟨rfl, he1⟩
    have H1 := Lib.hid he1
    clear he1
    have awake : ∀ W, Ext No w W → Calls Tryz.prog 10 #[] W (Trues W) := fun W hx => awake_run (HG.out.1.ext HG.out.2.1 hx (fun _ h => h.elim)) (HG.out.2.1.mono hx.size)
    have HW := Lib.hid awake
    clear awake
    by_cases hr : rightL dir 100 l = true
    · rw [hr]
      have hall : (∀ x ∈ l, rightS dir x = true) ∧ l.length ≤ 100 := by
        unfold rightL at hr
        simp only [Bool.and_eq_true, List.all_eq_true, decide_eq_true_eq] at hr
        exact ⟨hr.1, by omega⟩
      have HA := Lib.hid hall
      clear hr hall
      go_wp2_with fail
      refine (cloned_run (HG.out.2.2.1.ext H1.out (fun _ _ h => h)) (by have := HG.out.2.2.2.2; omega)).mono ?_
      rintro r2 w2 ⟨rfl, he2⟩
      have H2 := Lib.hid (H1.out.trans he2)
      clear he2
      by_cases hcl : (l.any fun x => x.op == 11) = true
      · rw [hcl]
        clear hcl
        go_wp2_with fail
        refine (HW.out _ H2.out).mono ?_
        rintro r5 w5 ⟨rfl, h5⟩
        go_wp2
        go_ret
        exact ⟨rfl, H2.out.trans h5⟩
      · have hclf : (l.any fun x => x.op == 11) = false := by simpa using hcl
        have hpl : Plain dir l := ⟨HG.out.2.2.2.1, HA.out.1, fun x hx h11 => hcl (List.any_eq_true.2 ⟨x, hx, by simpa using h11⟩), by have := HA.out.2; omega⟩
        have HP := Lib.hid hpl
        clear hcl hpl
        rw [hclf]
        clear hclf
        go_wp2_with fail
        have e3 : Ext No w (w2.alloc (.cells #[.bool dir, .bool false, nilS, nilS] 29)) := H2.out.alloc _
        have rm : (w2.alloc (.cells #[.bool dir, .bool false, nilS, nilS] 29)).heap[w2.heap.size]? = some (.cells #[.bool dir, .bool false, nilS, nilS] 29 (0, 0)) := (heap_alloc w2 _).1
        have H3 := Lib.hid (And.intro e3 rm)
        clear e3 rm
        try go_frame
        go_loopg [30] l.length (fun k iv wr => MLR dir ⟨[], []⟩ 0 l (w2.alloc (.cells #[.bool dir, .bool false, nilS, nilS] 29)) w.heap.size w2.heap.size k iv wr)
        case atStart => exact ⟨0, ⟨[], []⟩, [], nilS, nilS, rfl, by simp, ⟨H3.out.2, nil_own, nil_own⟩, Chain.nil _, by simp, Ext.refl _ _⟩
        case round =>
          obtain ⟨i, m, sps, vs, es, rfl, hk, hM, hch, hsz, he⟩ := hrel
          have heW : Ext No w wr := H3.out.1.then he (fun c hc e => by have := H2.out.size; omega)
          by_cases hlt : i < l.length
          · obtain ⟨g, off, hq, hg, hc⟩ := RdG.at (f := Stp.c) (size := 4) (fun _ => rfl) (HG.out.2.2.1.ext heW (fun _ _ h => h)) hlt
            subst hq
            have hlt' : (i : Int) < (l.length : Int) := by omega
            have c0 : wr.cell? ⟨g, off + i * 4, none⟩ = some (.int .u8 (l[i]'hlt).op) := hc 0 (by decide)
            have c1 : wr.cell? ⟨g, off + i * 4 + 1, none⟩ = some (kI (l[i]'hlt).a) := hc 1 (by decide)
            have c2 : wr.cell? ⟨g, off + i * 4 + 2, none⟩ = some (kI (l[i]'hlt).b) := hc 2 (by decide)
            have c3 : wr.cell? ⟨g, off + i * 4 + 3, none⟩ = some (.int .i64 (l[i]'hlt).wt) := hc 3 (by decide)
            have eA : Ext No wr (wr.alloc (.cells (l[i]'hlt).c.toArray 35)) := (Ext.refl No wr).alloc _
            have hcall := do_all (dir := dir) (x := l[i]'hlt) (HG.out.2.2.2.1 _ (List.getElem_mem hlt)) (right_op (HA.out.1 _ (List.getElem_mem hlt))).1 (hM.no eA) (Nat.le_trans heW.size eA.size) (by have := HA.out.2; omega)
            have HR := Lib.hid (And.intro hk (And.intro hM (And.intro hch (And.intro hsz (And.intro he eA)))))
            have HCa := Lib.hid hcall
            clear hk hM hch hsz he heW eA hc hcall
            go_wp2_with fail
            refine HCa.out.mono ?_
            rintro r4 w4 ⟨m1, sm, vs1, es1, ks1, xs1, rfl, hD, hM1, hks1, hxs1, he4⟩
            have HD := Lib.hid (And.intro hD (And.intro hM1 he4))
            clear hD hM1 hks1 hxs1 he4
            go_wp2_with fail
            go_roundg (l.length - (i + 1))
            case measure => have := HR.out.1; omega
            case rel => exact MLR.next (by have := HA.out.2; omega) hlt HR.out.1 HR.out.2.2.1 HR.out.2.2.2.1 HR.out.2.2.2.2.1 HR.out.2.2.2.2.2 HD.out.1 HD.out.2.1 HD.out.2.2
          · have hnlt : ¬ (i : Int) < (l.length : Int) := by omega
            have hi : i = l.length := by omega
            subst hi
            rw [List.take_length] at hch
            have HX := Lib.hid (And.intro hM (And.intro hch (And.intro hsz heW)))
            clear hk hM hch hsz he heW
            obtain ⟨wx, rfl⟩ : ∃ W : World, W = wr := ⟨_, rfl⟩
            go_wp2_with fail
            refine (to_run (HG.out.2.2.1.ext HX.out.2.2.2 (fun _ _ h => h)) (by have := HA.out.2; omega)).mono ?_
            rintro r4 w4 ⟨v4, rfl, ho4, he4⟩
            obtain ⟨q4, c4, rfl, -⟩ := own_read (f := Stp.c) (fun _ => rfl) ho4
            have H4 := Lib.hid (And.intro ho4 (And.intro (HX.out.2.2.2.trans he4) (HX.out.1.no he4)))
            clear ho4 he4
            go_wp2_with fail
            refine (from_run dir wei (B2 := 0) (o := []) (HG.out.1.ext HG.out.2.1 H4.out.2.1 (fun _ h => h.elim)) (HG.out.2.1.mono H4.out.2.1.size) H4.out.1 nil_own HP.out ⟨fun x hx => (List.not_mem_nil hx).elim, fun x hx => (List.not_mem_nil hx).elim, fun x hx => (List.not_mem_nil hx).elim, by simp⟩).mono ?_
            rintro r5 w5 ⟨sx, sy, spx, spy, K, n, L, k, ev, ee, ks, es', s', sp, rfl, hcx, hcy, hv, he', ha, hfin, hks, hes, he5⟩
            obtain ⟨rfl, rfl, hsame⟩ := from_law hcx hcy HX.out.2.1 HA.out.1 hv he' ha
            obtain ⟨qa, ca, rfl, -⟩ := own_read (f := oneC) (fun _ => rfl) hks
            obtain ⟨qb, cb, rfl, -⟩ := own_read (f := triC) (fun _ => rfl) hes
            have H5 := Lib.hid (And.intro hks (And.intro hes (And.intro (H4.out.2.1.trans he5) (And.intro (H4.out.2.2.no he5) (And.intro hsame (show m.V.length + m.E.length ≤ 100 by have := HX.out.2.2.1; have := HA.out.2; omega))))))
            clear hcx hcy hv he' ha hfin hks hes he5 hsame
            go_wp2_with fail
            have r6 : (w5.alloc (.cells #[.int .u8 sp.er, .int .i64 sp.a, .int .i64 sp.b, .int .i64 sp.w, .slice qa sp.ks.length ca, .slice qb sp.es.length cb] 39)).heap[w5.heap.size]? = some (.cells #[.int .u8 sp.er, .int .i64 sp.a, .int .i64 sp.b, .int .i64 sp.w, .slice qa sp.ks.length ca, .slice qb sp.es.length cb] 39 (0, 0)) := (heap_alloc w5 _).1
            have e6 : Ext No w5 (w5.alloc (.cells #[.int .u8 sp.er, .int .i64 sp.a, .int .i64 sp.b, .int .i64 sp.w, .slice qa sp.ks.length ca, .slice qb sp.es.length cb] 39)) := (Ext.refl No w5).alloc _
            have H6 := Lib.hid (And.intro (Six.of r6) e6)
            clear r6 e6
            revert H6
            generalize (w5.alloc (.cells #[.int .u8 sp.er, .int .i64 sp.a, .int .i64 sp.b, .int .i64 sp.w, .slice qa sp.ks.length ca, .slice qb sp.es.length cb] 39)) = W6
            intro H6
            obtain ⟨x0, x1, x2, x3, x4, x5⟩ := H6.out.1
            have l6 := World.block_lt_of_cell? _ _ x0
            go_region_held3 (fun u => u.cell? ⟨w5.heap.size, 0, none⟩ = some (.int .u8 sp.er) ∧ u.cell? ⟨w5.heap.size, 1, none⟩ = some (.int .i64 sp.a) ∧ u.cell? ⟨w5.heap.size, 2, none⟩ = some (.int .i64 sp.b) ∧ u.cell? ⟨w5.heap.size, 3, none⟩ = some (.int .i64 sp.w) ∧ u.cell? ⟨w5.heap.size, 4, none⟩ = some (.slice qa sp.ks.length ca) ∧ u.cell? ⟨w5.heap.size, 5, none⟩ = some (.slice qb sp.es.length cb)) (first | exact ⟨x0, x1, x2, x3, x4, x5⟩ | exact ⟨a0, a1, a2, a3, a4, a5⟩ | exact ⟨b0, b1, b2, b3, b4, b5⟩ | exact ⟨d0, d1, d2, d3, d4, d5⟩)
              (first
                | (go_at_call 10; (refine (HW.out _ HXE.out).mono ?_); rintro rF wF ⟨rfl, heF⟩; have HXF := Lib.hid (HXE.out.trans heF); have HSF := Lib.hid (HSE.out.ext heF id); clear heF; obtain ⟨d0, d1, d2, d3, d4, d5⟩ := HSF.out)
                | (go_at_call 16; (refine (same_run HRD.out.1 HRD.out.2.1 HRD.out.2.2.1 HRD.out.2.2.2.1 HRD.out.2.2.2.2.1 HRD.out.2.2.2.2.2).mono ?_); rintro rE wE ⟨rfl, heE⟩; have HXE := Lib.hid (HXD.out.trans heE); have HSE := Lib.hid (HSD.out.ext heE id); clear heE; obtain ⟨b0, b1, b2, b3, b4, b5⟩ := HSE.out)
                | (go_at_call 17; (refine (all_run (H5.out.2.2.2.1.no (H6.out.2.trans ((Ext.refl No W6).drew))) (Nat.le_trans H5.out.2.2.1.size H6.out.2.size) (by have := H5.out.2.2.2.2.2; omega)).mono ?_); rintro rD wD ⟨mD, sm, vD, eD, kD, xD, rfl, hDD, hMD, hkD, hxD, heD⟩; have hsm := H5.out.2.2.2.2.1 _ _ hDD; subst hsm; have HRD := Lib.hid (AllRd.of H5.out.1 H5.out.2.1 (H6.out.2.trans ((Ext.refl No W6).drew)) H5.out.2.2.2.1.row hkD hxD heD hDD.len (Nat.le_trans H5.out.2.2.2.2.2 (by decide))); obtain ⟨qkD, ckD, rfl, -⟩ := own_read (f := oneC) (fun _ => rfl) hkD; obtain ⟨qxD, cxD, rfl, -⟩ := own_read (f := triC) (fun _ => rfl) hxD; have HXD := Lib.hid ((H5.out.2.2.1.trans (H6.out.2.trans ((Ext.refl No W6).drew))).then heD (S := No) (fun c hc e => by have := H2.out.size; omega)); have HSD := Lib.hid ((H6.out.1.ext ((Ext.refl No W6).drew) id).ext heD (by have := H5.out.2.2.2.1.lt' H5.out.2.2.1.size; show ¬ (w5.heap.size = w2.heap.size); omega)); clear hDD hMD hkD hxD heD; obtain ⟨a0, a1, a2, a3, a4, a5⟩ := HSD.out))
            go_wp2
            go_ret
            exact ⟨rfl, HXF.out⟩
    · have hrf : rightL dir 100 l = false := by simpa using hr
      rw [hrf]
      clear hr hrf
      go_wp2_with fail
      refine (HW.out _ H1.out).mono ?_
      rintro r5 w5 ⟨rfl, h5⟩
      go_wp2
      go_ret
      exact ⟨rfl, H1.out.trans h5⟩
  · have hnsz : (2147483647 : Int) < (l.length : Int) := by omega
    clear hp hB hl h0 hsz
    go_enter Tryz.func6, Tryz.ntmps6
    go_wp2
    go_ret
    exact ⟨rfl, Ext.refl _ _⟩
end Go.Proofs.YtcenebjdhbdejaaGreatDoor
