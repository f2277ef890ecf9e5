/- FnBuildClone, walked. -/
import Derived.Test.YtcenebjdhbdejaaGreatDoorB46
import Derived.Test.YtcenebjdhbdejaaGreatDoorB47
namespace Go.Proofs.YtcenebjdhbdejaaGreatDoor
open Go.MapKept

/-- two lists that may be built of: both right, no clones -/
def OkL (dir : Bool) (l : List Stp) : Prop := (∀ x ∈ l, rightS dir x = true) ∧ l.length ≤ 100 ∧ ∀ x ∈ l, x.op ≠ 11
theorem OkL.plain {dir : Bool} {l : List Stp} (h : OkL dir l) (h0 : ∀ x ∈ l, 0 ≤ x.op) : Plain dir l := ⟨h0, h.1, h.2.2, by have := h.2.1; omega⟩
theorem OkL.of {dir : Bool} {l : List Stp} (h : rightL dir 100 l = true) (hc : (l.any fun x => x.op == 11) = false) : OkL dir l := by
  unfold rightL at h
  simp only [Bool.and_eq_true, List.all_eq_true, decide_eq_true_eq] at h
  refine ⟨h.1, by omega, fun x hx h11 => ?_⟩
  have := List.any_eq_false.1 hc x hx
  simp [h11] at this

theorem Six.row {S : Nat → Prop} {w w' : World} {b : Nat} {a0 a1 a2 a3 a4 a5 : Value} (h : Six b a0 a1 a2 a3 a4 a5 w) (he : Ext S w w') (hb : ¬ S b) : Six b a0 a1 a2 a3 a4 a5 w' := h.ext he hb

theorem six3 {S : Nat → Prop} {w w' : World} {b c d : Nat} {a0 a1 a2 a3 a4 a5 b0 b1 b2 b3 b4 b5 c0 c1 c2 c3 c4 c5 : Value} (h : Six b a0 a1 a2 a3 a4 a5 w ∧ Six c b0 b1 b2 b3 b4 b5 w ∧ Six d c0 c1 c2 c3 c4 c5 w) (he : Ext S w w') (hb : ¬ S b) (hc : ¬ S c) (hd : ¬ S d) :
    Six b a0 a1 a2 a3 a4 a5 w' ∧ Six c b0 b1 b2 b3 b4 b5 w' ∧ Six d c0 c1 c2 c3 c4 c5 w' := ⟨h.1.ext he hb, h.2.1.ext he hc, h.2.2.ext he hd⟩

/-- three results, in memory -/
theorem three_rows (w : World) (c1 c2 : Array Value) : ((w.alloc (.cells c1 39)).alloc (.cells c2 39)).heap[w.heap.size]? = some (.cells c1 39 (0, 0)) ∧ ((w.alloc (.cells c1 39)).alloc (.cells c2 39)).heap[w.heap.size + 1]? = some (.cells c2 39 (0, 0)) := by
  refine ⟨alloc_heap (heap_alloc w _).1 _, ?_⟩
  have := (heap_alloc (w.alloc (.cells c1 39)) (.cells c2 39)).1
  simpa using this

/-- THE PLAIN LAW of FnBuildClone -/
theorem clone_law {d : Bool} {l o : List Stp} {sx sa sb sz m m2 s1 s2 : PS} {spx spz spm spm2 : List SP} {sp1 sp2 : SP} (hx : Chain (DoI d) l ⟨[], []⟩ sx spx) (hm : Chain (DoM d) l ⟨[], []⟩ m spm) (hm2 : Chain (DoM d) o m m2 spm2) (hr : ∀ x ∈ l, rightS d x = true) (hr2 : ∀ x ∈ o, rightS d x = true)
    (ha : Sim d sa sx) (hb : Sim d sb sx) (hz : Chain (DoI d) o sb sz spz) (h1 : DoAM d sa s1 sp1) (h2 : DoAM d sz s2 sp2) : (∀ m' sm, DoBM d false m m' sm → sp1 = sm) ∧ ∀ m' sm, DoBM d false m2 m' sm → sp2 = sm := by
  obtain ⟨hS, hF⟩ := chains_sim hx hm hr
  obtain ⟨hS2, hF2⟩ := chains_sim2 (hb.trans hS) hF hz hm2 hr2
  exact ⟨fun m' sm h => maps_same (ha.trans hS) hF h1 h, fun m' sm h => maps_same hS2 hF2 h2 h⟩

set_option maxRecDepth 100000 in
set_option maxHeartbeats 8000000 in
theorem bclone_run {w : World} {dir wei first : Bool} {lv ov : Value} {l o : List Stp} {p : Nat → Addr} (hp : Sent w p) (hB : Below6 w.heap.size p) (hl : RdG w lv l Stp.c) (h0 : ∀ x ∈ l, 0 ≤ x.op) (ho : RdG w ov o Stp.c) (ho0 : ∀ x ∈ o, 0 ≤ x.op) :
    Calls Tryz.prog 8 #[.bool dir, .bool wei, lv, ov, .bool first] w (Trues w) := by
  obtain ⟨q, c, rfl⟩ := hl.form
  obtain ⟨q', c', rfl⟩ := ho.form
  by_cases hsz : l.length ≤ 2147483647
  · have hnsz : ¬ (2147483647 : Int) < (l.length : Int) := by omega
    by_cases hso : o.length ≤ 2147483647
    · have hnso : ¬ (2147483647 : Int) < (o.length : Int) := by omega
      have HG := Lib.hid (And.intro hp (And.intro hB (And.intro hl (And.intro h0 (And.intro ho (And.intro ho0 (And.intro hsz hso)))))))
      clear hp hB hl h0 hsz ho ho0 hso
      have awake : ∀ W, Ext No w W → Calls Tryz.prog 10 #[] W (Trues W) := fun W hx => awake_run (HG.out.1.ext HG.out.2.1 hx (fun _ h => h.elim)) (HG.out.2.1.mono hx.size)
      have HW := Lib.hid awake
      clear awake
      go_enter Tryz.func8, Tryz.ntmps8
      go_wp2_with fail
      refine (right_run (dir := dir) (most := 100) HG.out.2.2.1 (by have := HG.out.2.2.2.2.2.2.1; omega)).mono ?_
      rintro r1 w1 ⟨rfl, he1⟩
      have H1 := Lib.hid he1
      clear he1
      by_cases hr : rightL dir 100 l = true
      · rw [hr]
        go_wp2_with fail
        refine (right_run (dir := dir) (most := 100) (HG.out.2.2.2.2.1.ext H1.out (fun _ _ h => h)) (by have := HG.out.2.2.2.2.2.2.2; omega)).mono ?_
        rintro r2 w2 ⟨rfl, he2⟩
        have H2 := Lib.hid (H1.out.trans he2)
        clear he2
        by_cases hr2 : rightL dir 100 o = true
        · rw [hr2]
          go_wp2_with fail
          refine (cloned_run (HG.out.2.2.1.ext H2.out (fun _ _ h => h)) (by have := HG.out.2.2.2.2.2.2.1; omega)).mono ?_
          rintro r3 w3 ⟨rfl, he3⟩
          have H3 := Lib.hid (H2.out.trans he3)
          clear he3
          by_cases hcl : (l.any fun x => x.op == 11) = true
          · rw [hcl]
            clear hcl
            go_wp2_with fail
            refine (HW.out _ H3.out).mono ?_
            rintro r9 w9 ⟨rfl, h9⟩
            go_wp2
            go_ret
            exact ⟨rfl, H3.out.trans h9⟩
          · have hclf : (l.any fun x => x.op == 11) = false := by simpa using hcl
            clear hcl
            rw [hclf]
            go_wp2_with fail
            refine (cloned_run (HG.out.2.2.2.2.1.ext H3.out (fun _ _ h => h)) (by have := HG.out.2.2.2.2.2.2.2; omega)).mono ?_
            rintro r4 w4 ⟨rfl, he4⟩
            have H4 := Lib.hid (H3.out.trans he4)
            clear he4
            by_cases hcl2 : (o.any fun x => x.op == 11) = true
            · rw [hcl2]
              clear hcl2
              go_wp2_with fail
              refine (HW.out _ H4.out).mono ?_
              rintro r9 w9 ⟨rfl, h9⟩
              go_wp2
              go_ret
              exact ⟨rfl, H4.out.trans h9⟩
            · have hclf2 : (o.any fun x => x.op == 11) = false := by simpa using hcl2
              clear hcl2
              rw [hclf2]
              have HL := Lib.hid (And.intro (OkL.of hr hclf) (OkL.of hr2 hclf2))
              clear hr hr2 hclf hclf2
              go_wp2_with fail
              have e5 : Ext No w (w4.alloc (.cells #[.bool dir, .bool false, nilS, nilS] 29)) := H4.out.alloc _
              have rm : (w4.alloc (.cells #[.bool dir, .bool false, nilS, nilS] 29)).heap[w4.heap.size]? = some (.cells #[.bool dir, .bool false, nilS, nilS] 29 (0, 0)) := (heap_alloc w4 _).1
              have H5 := Lib.hid (And.intro e5 rm)
              clear e5 rm
              try go_frame
              go_loopg [51] l.length (fun k iv wr => MLR dir ⟨[], []⟩ 0 l (w4.alloc (.cells #[.bool dir, .bool false, nilS, nilS] 29)) w.heap.size w4.heap.size k iv wr)
              case atStart => exact ⟨0, ⟨[], []⟩, [], nilS, nilS, rfl, by simp, ⟨H5.out.2, nil_own, nil_own⟩, Chain.nil _, by simp, Ext.refl _ _⟩
              case round =>
                obtain ⟨i, m', sps, vs, es, rfl, hk, hM, hch, hsz, he⟩ := hrel
                have heW : Ext No w wr := H5.out.1.then he (fun c hc e => by have := H4.out.size; omega)
                by_cases hlt : i < l.length
                · obtain ⟨g, off, hq, hg, hc⟩ := RdG.at (f := Stp.c) (size := 4) (fun _ => rfl) (HG.out.2.2.1.ext heW (fun _ _ h => h)) hlt
                  subst hq
                  have hlt' : (i : Int) < (l.length : Int) := by omega
                  have c0 : wr.cell? ⟨g, off + i * 4, none⟩ = some (.int .u8 (l[i]'hlt).op) := hc 0 (by decide)
                  have c1 : wr.cell? ⟨g, off + i * 4 + 1, none⟩ = some (kI (l[i]'hlt).a) := hc 1 (by decide)
                  have c2 : wr.cell? ⟨g, off + i * 4 + 2, none⟩ = some (kI (l[i]'hlt).b) := hc 2 (by decide)
                  have c3 : wr.cell? ⟨g, off + i * 4 + 3, none⟩ = some (.int .i64 (l[i]'hlt).wt) := hc 3 (by decide)
                  have eA : Ext No wr (wr.alloc (.cells (l[i]'hlt).c.toArray 35)) := (Ext.refl No wr).alloc _
                  have hcall := do_all (dir := dir) (x := l[i]'hlt) (HG.out.2.2.2.1 _ (List.getElem_mem hlt)) (right_op (HL.out.1.1 _ (List.getElem_mem hlt))).1 (hM.no eA) (Nat.le_trans heW.size eA.size) (by have := HL.out.1.2.1; omega)
                  have HR := Lib.hid (And.intro hk (And.intro hM (And.intro hch (And.intro hsz (And.intro he eA)))))
                  have HCa := Lib.hid hcall
                  clear hk hM hch hsz he heW eA hc hcall
                  go_wp2_with fail
                  refine HCa.out.mono ?_
                  rintro r6 w6 ⟨m1, sm, vs1, es1, ks1, xs1, rfl, hD, hM1, hks1, hxs1, he6⟩
                  have HD := Lib.hid (And.intro hD (And.intro hM1 he6))
                  clear hD hM1 hks1 hxs1 he6
                  go_wp2_with fail
                  go_roundg (l.length - (i + 1))
                  case measure => have := HR.out.1; omega
                  case rel => exact MLR.next (by have := HL.out.1.2.1; omega) hlt HR.out.1 HR.out.2.2.1 HR.out.2.2.2.1 HR.out.2.2.2.2.1 HR.out.2.2.2.2.2 HD.out.1 HD.out.2.1 HD.out.2.2
                · have hnlt : ¬ (i : Int) < (l.length : Int) := by omega
                  have hi : i = l.length := by omega
                  subst hi
                  rw [List.take_length] at hch
                  have hlm : m'.V.length + m'.E.length ≤ 100 := by have := HL.out.1.2.1; omega
                  have HX := Lib.hid (And.intro hM (And.intro hch (And.intro hlm heW)))
                  clear hk hM hch hsz he heW hlm
                  obtain ⟨wx, rfl⟩ : ∃ W : World, W = wr := ⟨_, rfl⟩
                  obtain ⟨m, rfl⟩ : ∃ x : PS, x = m' := ⟨_, rfl⟩
                  go_wp2_with fail
                  refine (all_run HX.out.1 HX.out.2.2.2.size (by have := HX.out.2.2.1; omega)).mono ?_
                  rintro r7 w7 ⟨mD, sm1, vD, eD, kD, xD, rfl, hDD, hMD, hkD, hxD, heD⟩
                  obtain ⟨qkD, ckD, rfl, -⟩ := own_read (f := oneC) (fun _ => rfl) hkD
                  obtain ⟨qxD, cxD, rfl, -⟩ := own_read (f := triC) (fun _ => rfl) hxD
                  have heW7 : Ext No w w7 := HX.out.2.2.2.then heD (fun c hc e => by have := H4.out.size; omega)
                  have H77 := Lib.hid (show wx.heap.size ≤ w7.heap.size from heD.size)
                  have hmD := hDD.1
                  subst hmD
                  have e8 : Ext No w7 (w7.alloc (.cells #[.int .u8 sm1.er, .int .i64 sm1.a, .int .i64 sm1.b, .int .i64 sm1.w, .slice qkD sm1.ks.length ckD, .slice qxD sm1.es.length cxD] 41)) := (Ext.refl No w7).alloc _
                  have r8 : (w7.alloc (.cells #[.int .u8 sm1.er, .int .i64 sm1.a, .int .i64 sm1.b, .int .i64 sm1.w, .slice qkD sm1.ks.length ckD, .slice qxD sm1.es.length cxD] 41)).heap[w7.heap.size]? = some (.cells #[.int .u8 sm1.er, .int .i64 sm1.a, .int .i64 sm1.b, .int .i64 sm1.w, .slice qkD sm1.ks.length ckD, .slice qxD sm1.es.length cxD] 41 (0, 0)) := (heap_alloc w7 _).1
                  have H7 := Lib.hid (And.intro hDD (And.intro (hMD.no e8) (And.intro (ownsRow_ext hkD e8 (fun _ _ h => h)) (And.intro (ownsRow_ext hxD e8 (fun _ _ h => h)) (And.intro (heW7.trans e8) r8)))))
                  clear hDD hMD hkD hxD heD heW7 e8 r8
                  go_wp2_with fail
                  revert H7
                  generalize hW8 : (w7.alloc (.cells #[.int .u8 sm1.er, .int .i64 sm1.a, .int .i64 sm1.b, .int .i64 sm1.w, .slice qkD sm1.ks.length ckD, .slice qxD sm1.es.length cxD] 41)) = W8
                  intro H7
                  try go_frame
                  have hlt0 : ¬ l.length < l.length := by omega
                  clear hlt0
                  go_loopg [63] o.length (fun k iv wr => MLR dir mD 100 o W8 w.heap.size w4.heap.size k iv wr)
                  case atStart => exact ⟨0, mD, [], vD, eD, rfl, by simp, H7.out.2.1, Chain.nil _, by have := HX.out.2.2.1; omega, Ext.refl _ _⟩
                  case round =>
                    obtain ⟨i, m', sps, vs, es, rfl, hk, hM, hch, hsz, he⟩ := hrel
                    have heW : Ext No w wr := H7.out.2.2.2.2.1.then he (fun c hc e => by have := H4.out.size; omega)
                    by_cases hlt : i < o.length
                    · obtain ⟨g, off, hq, hg, hc⟩ := RdG.at (f := Stp.c) (size := 4) (fun _ => rfl) (HG.out.2.2.2.2.1.ext heW (fun _ _ h => h)) hlt
                      subst hq
                      have hlt' : (i : Int) < (o.length : Int) := by omega
                      have c0 : wr.cell? ⟨g, off + i * 4, none⟩ = some (.int .u8 (o[i]'hlt).op) := hc 0 (by decide)
                      have c1 : wr.cell? ⟨g, off + i * 4 + 1, none⟩ = some (kI (o[i]'hlt).a) := hc 1 (by decide)
                      have c2 : wr.cell? ⟨g, off + i * 4 + 2, none⟩ = some (kI (o[i]'hlt).b) := hc 2 (by decide)
                      have c3 : wr.cell? ⟨g, off + i * 4 + 3, none⟩ = some (.int .i64 (o[i]'hlt).wt) := hc 3 (by decide)
                      have eA : Ext No wr (wr.alloc (.cells (o[i]'hlt).c.toArray 35)) := (Ext.refl No wr).alloc _
                      have hcall := do_all (dir := dir) (x := o[i]'hlt) (HG.out.2.2.2.2.2.1 _ (List.getElem_mem hlt)) (right_op (HL.out.2.1 _ (List.getElem_mem hlt))).1 (hM.no eA) (Nat.le_trans heW.size eA.size) (by have := HL.out.2.2.1; omega)
                      have HR := Lib.hid (And.intro hk (And.intro hM (And.intro hch (And.intro hsz (And.intro he eA)))))
                      have HCa := Lib.hid hcall
                      clear hk hM hch hsz he heW eA hc hcall
                      go_wp2_with fail
                      refine HCa.out.mono ?_
                      rintro r6 w6 ⟨m1, sm, vs1, es1, ks1, xs1, rfl, hD, hM1, hks1, hxs1, he6⟩
                      have HD := Lib.hid (And.intro hD (And.intro hM1 he6))
                      clear hD hM1 hks1 hxs1 he6
                      go_wp2_with fail
                      go_roundg (o.length - (i + 1))
                      case measure => have := HR.out.1; omega
                      case rel => exact MLR.next (by have := HL.out.2.2.1; omega) hlt HR.out.1 HR.out.2.2.1 HR.out.2.2.2.1 HR.out.2.2.2.2.1 HR.out.2.2.2.2.2 HD.out.1 HD.out.2.1 HD.out.2.2
                    · have hnlt : ¬ (i : Int) < (o.length : Int) := by omega
                      have hi : i = o.length := by omega
                      subst hi
                      rw [List.take_length] at hch
                      have hlm : m'.V.length + m'.E.length ≤ 200 := by have := HL.out.2.2.1; omega
                      have hkD := ownsRow_ext H7.out.2.2.1 he (fun c hc e => row_ne H7.out.2.1.row H7.out.2.2.1 (by decide) (by rw [hc, e]))
                      have hxD := ownsRow_ext H7.out.2.2.2.1 he (fun c hc e => row_ne H7.out.2.1.row H7.out.2.2.2.1 (by decide) (by rw [hc, e]))
                      have hmm : w7.heap.size ≠ w4.heap.size := by have := H4.out.size; have h1 := HX.out.1.lt' HX.out.2.2.2.size; have h2 := H77.out; omega
                      have r8 := he.obj H7.out.2.2.2.2.2 (fun e => hmm e)
                      have HX2 := Lib.hid (And.intro hM (And.intro hch (And.intro hlm (And.intro heW (And.intro hkD (And.intro hxD r8))))))
                      clear hk hM hch hsz he heW hlm hkD hxD hmm r8
                      obtain ⟨wx2, rfl⟩ : ∃ W : World, W = wr := ⟨_, rfl⟩
                      obtain ⟨m2, rfl⟩ : ∃ x : PS, x = m' := ⟨_, rfl⟩
                      go_wp2_with fail
                      refine (to_run (HG.out.2.2.1.ext HX2.out.2.2.2.1 (fun _ _ h => h)) (by have := HL.out.1.2.1; omega)).mono ?_
                      rintro r9 w9 ⟨v9, rfl, ho9, he9⟩
                      obtain ⟨q9, c9, rfl, -⟩ := own_read (f := Stp.c) (fun _ => rfl) ho9
                      have H9 := Lib.hid (And.intro ho9 he9)
                      clear ho9 he9
                      go_wp2_with fail
                      refine (to_run (HG.out.2.2.2.2.1.ext (HX2.out.2.2.2.1.trans H9.out.2) (fun _ _ h => h)) (by have := HL.out.2.2.1; omega)).mono ?_
                      rintro r10 w10 ⟨v10, rfl, ho10, he10⟩
                      obtain ⟨q10, c10, rfl, -⟩ := own_read (f := Stp.c) (fun _ => rfl) ho10
                      have H10 := Lib.hid (And.intro (ownsRow_ext H9.out.1 he10 (fun _ _ h => h)) (And.intro ho10 (And.intro (HX2.out.2.2.2.1.trans (H9.out.2.trans he10)) (H9.out.2.trans he10))))
                      clear ho10 he10
                      go_wp2_with fail
                      refine (cloned2_run dir wei first (HG.out.1.ext HG.out.2.1 H10.out.2.2.1 (fun _ h => h.elim)) (HG.out.2.1.mono H10.out.2.2.1.size) H10.out.1 H10.out.2.1 (HL.out.1.plain HG.out.2.2.2.1) (HL.out.2.plain HG.out.2.2.2.2.2.1)).mono ?_
                      rintro r11 w11 ⟨sx, sa, sb, sz, spx, spz, ks1, es1, ks2, es2, s1, s2, sp1, sp2, rfl, hcx, hsa, hsb, hcz, ha1, ha2, ⟨hk1, hx1⟩, ⟨hk2, hx2⟩, he11⟩
                      obtain ⟨law1, law2⟩ := clone_law hcx HX.out.2.1 HX2.out.2.1 HL.out.1.1 HL.out.2.1 hsa hsb hcz ha1 ha2
                      have hsm := law1 _ _ H7.out.1
                      subst hsm
                      obtain ⟨qa, ca, rfl, -⟩ := own_read (f := oneC) (fun _ => rfl) hk1
                      obtain ⟨qb, cb, rfl, -⟩ := own_read (f := triC) (fun _ => rfl) hx1
                      obtain ⟨qc, cc, rfl, -⟩ := own_read (f := oneC) (fun _ => rfl) hk2
                      obtain ⟨qd, cd, rfl, -⟩ := own_read (f := triC) (fun _ => rfl) hx2
                      have e11 := H10.out.2.2.2.trans he11
                      have H11 := Lib.hid (And.intro (And.intro hk1 hx1) (And.intro (And.intro hk2 hx2) (And.intro (H10.out.2.2.1.trans he11) (And.intro (HX2.out.1.no e11) (And.intro (And.intro (ownsRow_ext HX2.out.2.2.2.2.1 e11 (fun _ _ h => h)) (ownsRow_ext HX2.out.2.2.2.2.2.1 e11 (fun _ _ h => h))) (And.intro (e11.obj HX2.out.2.2.2.2.2.2 id) law2))))))
                      clear hcx hsa hsb hcz ha1 ha2 hk1 hx1 hk2 hx2 he11 law1 law2 e11
                      go_wp2_with fail
                      have e12 : Ext No w11 ((w11.alloc (.cells #[.int .u8 sp1.er, .int .i64 sp1.a, .int .i64 sp1.b, .int .i64 sp1.w, .slice qa sp1.ks.length ca, .slice qb sp1.es.length cb] 39)).alloc (.cells #[.int .u8 sp2.er, .int .i64 sp2.a, .int .i64 sp2.b, .int .i64 sp2.w, .slice qc sp2.ks.length cc, .slice qd sp2.es.length cd] 39)) := ((Ext.refl No w11).alloc _).alloc _
                      have r12 := three_rows w11 #[.int .u8 sp1.er, .int .i64 sp1.a, .int .i64 sp1.b, .int .i64 sp1.w, .slice qa sp1.ks.length ca, .slice qb sp1.es.length cb] #[.int .u8 sp2.er, .int .i64 sp2.a, .int .i64 sp2.b, .int .i64 sp2.w, .slice qc sp2.ks.length cc, .slice qd sp2.es.length cd]
                      have H12 := Lib.hid (And.intro e12 (And.intro (Six.of r12.1) (And.intro (Six.of r12.2) (Six.of (e12.obj H11.out.2.2.2.2.2.1 id)))))
                      clear e12 r12
                      revert H12
                      generalize ((w11.alloc (.cells #[.int .u8 sp1.er, .int .i64 sp1.a, .int .i64 sp1.b, .int .i64 sp1.w, .slice qa sp1.ks.length ca, .slice qb sp1.es.length cb] 39)).alloc (.cells #[.int .u8 sp2.er, .int .i64 sp2.a, .int .i64 sp2.b, .int .i64 sp2.w, .slice qc sp2.ks.length cc, .slice qd sp2.es.length cd] 39)) = W12
                      intro H12
                      have hlen1 : sp1.ks.length < 1099511627776 ∧ sp1.es.length < 1099511627776 := by have := H7.out.1.len; have := HX.out.2.2.1; omega
                      have HR1 := Lib.hid (And.intro (RdS.of_own (ownsRow_ext H11.out.1.1 H12.out.1 (fun _ _ h => h))) (And.intro (RdS.of_own (ownsRow_ext H11.out.1.2 H12.out.1 (fun _ _ h => h))) (And.intro (RdS.of_own (ownsRow_ext H11.out.2.2.2.2.1.1 H12.out.1 (fun _ _ h => h))) (And.intro (RdS.of_own (ownsRow_ext H11.out.2.2.2.2.1.2 H12.out.1 (fun _ _ h => h))) hlen1))))
                      have HM2 := Lib.hid (And.intro (H11.out.2.2.2.1.no H12.out.1) (And.intro (H11.out.2.2.1.trans H12.out.1) (And.intro (ownsRow_ext H11.out.2.1.1 H12.out.1 (fun _ _ h => h)) (ownsRow_ext H11.out.2.1.2 H12.out.1 (fun _ _ h => h)))))
                      have hb : w11.heap.size ≠ w4.heap.size ∧ w11.heap.size + 1 ≠ w4.heap.size ∧ w7.heap.size ≠ w4.heap.size := by
                        have h1 := HX.out.1.lt' HX.out.2.2.2.size
                        have h2 := H77.out
                        have h3 := H11.out.2.2.2.1.lt' H11.out.2.2.1.size
                        omega
                      have HB := Lib.hid hb
                      clear hlen1 hb
                      obtain ⟨⟨x0, x1, x2, x3, x4, x5⟩, ⟨y0, y1, y2, y3, y4, y5⟩, z0, z1, z2, z3, z4, z5⟩ := H12.out.2
                      have lx := World.block_lt_of_cell? _ _ x0
                      have ly := World.block_lt_of_cell? _ _ y0
                      have lz := World.block_lt_of_cell? _ _ z0
                      go_region_held3 (fun u => (u.cell? ⟨w11.heap.size, 0, none⟩ = some (.int .u8 sp1.er) ∧ u.cell? ⟨w11.heap.size, 1, none⟩ = some (.int .i64 sp1.a) ∧ u.cell? ⟨w11.heap.size, 2, none⟩ = some (.int .i64 sp1.b) ∧ u.cell? ⟨w11.heap.size, 3, none⟩ = some (.int .i64 sp1.w) ∧ u.cell? ⟨w11.heap.size, 4, none⟩ = some (.slice qa sp1.ks.length ca) ∧ u.cell? ⟨w11.heap.size, 5, none⟩ = some (.slice qb sp1.es.length cb)) ∧ (u.cell? ⟨w11.heap.size + 1, 0, none⟩ = some (.int .u8 sp2.er) ∧ u.cell? ⟨w11.heap.size + 1, 1, none⟩ = some (.int .i64 sp2.a) ∧ u.cell? ⟨w11.heap.size + 1, 2, none⟩ = some (.int .i64 sp2.b) ∧ u.cell? ⟨w11.heap.size + 1, 3, none⟩ = some (.int .i64 sp2.w) ∧ u.cell? ⟨w11.heap.size + 1, 4, none⟩ = some (.slice qc sp2.ks.length cc) ∧ u.cell? ⟨w11.heap.size + 1, 5, none⟩ = some (.slice qd sp2.es.length cd)) ∧ (u.cell? ⟨w7.heap.size, 0, none⟩ = some (.int .u8 sp1.er) ∧ u.cell? ⟨w7.heap.size, 1, none⟩ = some (.int .i64 sp1.a) ∧ u.cell? ⟨w7.heap.size, 2, none⟩ = some (.int .i64 sp1.b) ∧ u.cell? ⟨w7.heap.size, 3, none⟩ = some (.int .i64 sp1.w) ∧ u.cell? ⟨w7.heap.size, 4, none⟩ = some (.slice qkD sp1.ks.length ckD) ∧ u.cell? ⟨w7.heap.size, 5, none⟩ = some (.slice qxD sp1.es.length cxD))) (first | exact ⟨⟨x0, x1, x2, x3, x4, x5⟩, ⟨y0, y1, y2, y3, y4, y5⟩, ⟨z0, z1, z2, z3, z4, z5⟩⟩ | exact HSA.out | exact HSC.out | exact HSE.out | exact HSF.out)
                        (first
                          | (go_at_call 10; (refine (HW.out _ HXE.out).mono ?_); rintro rF wF ⟨rfl, heF⟩; have HXF := Lib.hid (HXE.out.trans heF); have HSF := Lib.hid (six3 HSE.out heF id id id); clear heF)
                          | (go_at_call 16; (refine (same_run HRC.out.1 HRC.out.2.1 HRC.out.2.2.1 HRC.out.2.2.2.1 HRC.out.2.2.2.2.1 HRC.out.2.2.2.2.2).mono ?_); rintro rE wE ⟨rfl, heE⟩; have HXE := Lib.hid (HXC.out.trans heE); have HSE := Lib.hid (six3 HSC.out heE id id id); clear heE)
                          | (go_at_call 17; (refine (all_run HMA.out HXA.out.size (by have := HX2.out.2.2.1; omega)).mono ?_); rintro rC wC ⟨mC, sm, vC, eC, kC, xC, rfl, hDC, hMC, hkC, hxC, heC⟩; have hsm := H11.out.2.2.2.2.2.2 _ _ hDC; subst hsm; have HRC := Lib.hid (AllRd.of HKA.out.1 HKA.out.2 (Ext.refl No wA) HMA.out.row hkC hxC heC hDC.len (Nat.le_trans HX2.out.2.2.1 (Nat.le_refl _))); obtain ⟨qkC, ckC, rfl, -⟩ := own_read (f := oneC) (fun _ => rfl) hkC; obtain ⟨qxC, cxC, rfl, -⟩ := own_read (f := triC) (fun _ => rfl) hxC; have HXC := Lib.hid (HXA.out.then heC (S := No) (fun c hc e => by have := H4.out.size; omega)); have HSC := Lib.hid (six3 HSA.out heC HB.out.1 HB.out.2.1 HB.out.2.2); clear hDC hMC hkC hxC heC)
                          | (go_at_call 16; (refine (same_run (HR1.out.1.ext ((Ext.refl No W12).drew) (fun _ _ h => h)) (HR1.out.2.1.ext ((Ext.refl No W12).drew) (fun _ _ h => h)) (HR1.out.2.2.1.ext ((Ext.refl No W12).drew) (fun _ _ h => h)) (HR1.out.2.2.2.1.ext ((Ext.refl No W12).drew) (fun _ _ h => h)) HR1.out.2.2.2.2.1 HR1.out.2.2.2.2.2).mono ?_); rintro rA wA ⟨rfl, heA⟩; have heA1 : Ext No W12 wA := ((Ext.refl No W12).drew).trans heA; have HXA := Lib.hid (HM2.out.2.1.trans heA1); have HMA := Lib.hid (HM2.out.1.no heA1); have HKA := Lib.hid (And.intro (ownsRow_ext HM2.out.2.2.1 heA1 (fun _ _ h => h)) (ownsRow_ext HM2.out.2.2.2 heA1 (fun _ _ h => h))); have HSA := Lib.hid (six3 H12.out.2 heA1 id id id); clear heA heA1))
                      go_wp2
                      go_ret
                      exact ⟨rfl, HXF.out⟩
        · have hrf : rightL dir 100 o = false := by simpa using hr2
          rw [hrf]
          clear hr2 hrf
          go_wp2_with fail
          refine (HW.out _ H2.out).mono ?_
          rintro r9 w9 ⟨rfl, h9⟩
          go_wp2
          go_ret
          exact ⟨rfl, H2.out.trans h9⟩
      · have hrf : rightL dir 100 l = false := by simpa using hr
        rw [hrf]
        clear hr hrf
        go_wp2_with fail
        refine (HW.out _ H1.out).mono ?_
        rintro r9 w9 ⟨rfl, h9⟩
        go_wp2
        go_ret
        exact ⟨rfl, H1.out.trans h9⟩
    · have hnso : (2147483647 : Int) < (o.length : Int) := by omega
      clear hp hB hl h0 hsz ho ho0
      go_enter Tryz.func8, Tryz.ntmps8
      go_wp2
      go_ret
      exact ⟨rfl, Ext.refl _ _⟩
  · have hnsz : (2147483647 : Int) < (l.length : Int) := by omega
    clear hp hB hl h0 hsz ho ho0
    go_enter Tryz.func8, Tryz.ntmps8
    go_wp2
    go_ret
    exact ⟨rfl, Ext.refl _ _⟩
end Go.Proofs.YtcenebjdhbdejaaGreatDoor
