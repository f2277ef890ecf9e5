/- FnBuildTwice, walked. -/
import Derived.Test.YtcenebjdhbdejaaGreatDoorB49
namespace Go.Proofs.YtcenebjdhbdejaaGreatDoor
open Go.MapKept

set_option maxRecDepth 100000 in
set_option maxHeartbeats 8000000 in
theorem btwice_run {w : World} {dir wei : Bool} {lv ov : Value} {l o : List Stp} {p : Nat → Addr} (hp : Sent w p) (hB : Below6 w.heap.size p) (hl : RdG w lv l Stp.c) (h0 : ∀ x ∈ l, 0 ≤ x.op) (ho : RdG w ov o Stp.c) (ho0 : ∀ x ∈ o, 0 ≤ x.op) :
    Calls Tryz.prog 7 #[.bool dir, .bool wei, lv, ov] w (Trues w) := by
  obtain ⟨q, c, rfl⟩ := hl.form
  obtain ⟨q', c', rfl⟩ := ho.form
  by_cases hsz : l.length ≤ 2147483647
  · have hnsz : ¬ (2147483647 : Int) < (l.length : Int) := by omega
    by_cases hso : o.length ≤ 2147483647
    · have hnso : ¬ (2147483647 : Int) < (o.length : Int) := by omega
      have HG := Lib.hid (And.intro hp (And.intro hB (And.intro hl (And.intro h0 (And.intro ho (And.intro ho0 (And.intro hsz hso)))))))
      clear hp hB hl h0 hsz ho ho0 hso
      have awake : ∀ W, Ext No w W → Calls Tryz.prog 10 #[] W (Trues W) := fun W hx => awake_run (HG.out.1.ext HG.out.2.1 hx (fun _ h => h.elim)) (HG.out.2.1.mono hx.size)
      have HW := Lib.hid awake
      clear awake
      go_enter Tryz.func7, Tryz.ntmps7
      go_wp2_with fail
      refine (right_run (dir := dir) (most := 100) HG.out.2.2.1 (by have := HG.out.2.2.2.2.2.2.1; omega)).mono ?_
      rintro r1 w1 ⟨rfl, he1⟩
      have H1 := Lib.hid he1
      clear he1
      by_cases hr : rightL dir 100 l = true
      · rw [hr]
        go_wp2_with fail
        refine (right_run (dir := dir) (most := 100) (HG.out.2.2.2.2.1.ext H1.out (fun _ _ h => h)) (by have := HG.out.2.2.2.2.2.2.2; omega)).mono ?_
        rintro r2 w2 ⟨rfl, he2⟩
        have H2 := Lib.hid (H1.out.trans he2)
        clear he2
        by_cases hr2 : rightL dir 100 o = true
        · rw [hr2]
          go_wp2_with fail
          refine (cloned_run (HG.out.2.2.1.ext H2.out (fun _ _ h => h)) (by have := HG.out.2.2.2.2.2.2.1; omega)).mono ?_
          rintro r3 w3 ⟨rfl, he3⟩
          have H3 := Lib.hid (H2.out.trans he3)
          clear he3
          by_cases hcl : (l.any fun x => x.op == 11) = true
          · rw [hcl]
            clear hcl
            go_wp2_with fail
            refine (HW.out _ H3.out).mono ?_
            rintro r9 w9 ⟨rfl, h9⟩
            go_wp2
            go_ret
            exact ⟨rfl, H3.out.trans h9⟩
          · have hclf : (l.any fun x => x.op == 11) = false := by simpa using hcl
            clear hcl
            rw [hclf]
            go_wp2_with fail
            refine (cloned_run (HG.out.2.2.2.2.1.ext H3.out (fun _ _ h => h)) (by have := HG.out.2.2.2.2.2.2.2; omega)).mono ?_
            rintro r4 w4 ⟨rfl, he4⟩
            have H4 := Lib.hid (H3.out.trans he4)
            clear he4
            by_cases hcl2 : (o.any fun x => x.op == 11) = true
            · rw [hcl2]
              clear hcl2
              go_wp2_with fail
              refine (HW.out _ H4.out).mono ?_
              rintro r9 w9 ⟨rfl, h9⟩
              go_wp2
              go_ret
              exact ⟨rfl, H4.out.trans h9⟩
            · have hclf2 : (o.any fun x => x.op == 11) = false := by simpa using hcl2
              clear hcl2
              rw [hclf2]
              have HL := Lib.hid (And.intro (OkL.of hr hclf) (OkL.of hr2 hclf2))
              clear hr hr2 hclf hclf2
              go_wp2_with fail
              have e5 : Ext No w ((w4.alloc (.cells #[.bool dir, .bool false, nilS, nilS] 29)).alloc (.cells #[.bool dir, .bool false, nilS, nilS] 29)) := (H4.out.alloc _).alloc _
              have rm : ((w4.alloc (.cells #[.bool dir, .bool false, nilS, nilS] 29)).alloc (.cells #[.bool dir, .bool false, nilS, nilS] 29)).heap[w4.heap.size]? = some (.cells #[.bool dir, .bool false, nilS, nilS] 29 (0, 0)) := alloc_heap (heap_alloc w4 _).1 _
              have rn : ((w4.alloc (.cells #[.bool dir, .bool false, nilS, nilS] 29)).alloc (.cells #[.bool dir, .bool false, nilS, nilS] 29)).heap[w4.heap.size + 1]? = some (.cells #[.bool dir, .bool false, nilS, nilS] 29 (0, 0)) := by
                have := (heap_alloc (w4.alloc (.cells #[.bool dir, .bool false, nilS, nilS] 29)) (.cells #[.bool dir, .bool false, nilS, nilS] 29)).1
                simpa using this
              have H5 := Lib.hid (And.intro e5 (And.intro rm rn))
              clear e5 rm rn
              revert H5
              generalize ((w4.alloc (.cells #[.bool dir, .bool false, nilS, nilS] 29)).alloc (.cells #[.bool dir, .bool false, nilS, nilS] 29)) = W5
              intro H5
              try go_frame
              go_loopg [66] l.length (fun k iv wr => MLR dir ⟨[], []⟩ 0 l W5 w.heap.size w4.heap.size k iv wr)
              case atStart => exact ⟨0, ⟨[], []⟩, [], nilS, nilS, rfl, by simp, ⟨H5.out.2.1, nil_own, nil_own⟩, Chain.nil _, by simp, Ext.refl _ _⟩
              case round =>
                obtain ⟨i, m', sps, vs, es, rfl, hk, hM, hch, hsz, he⟩ := hrel
                have heW : Ext No w wr := H5.out.1.then he (fun c hc e => by have := H4.out.size; omega)
                by_cases hlt : i < l.length
                · obtain ⟨g, off, hq, hg, hc⟩ := RdG.at (f := Stp.c) (size := 4) (fun _ => rfl) (HG.out.2.2.1.ext heW (fun _ _ h => h)) hlt
                  subst hq
                  have hlt' : (i : Int) < (l.length : Int) := by omega
                  have c0 : wr.cell? ⟨g, off + i * 4, none⟩ = some (.int .u8 (l[i]'hlt).op) := hc 0 (by decide)
                  have c1 : wr.cell? ⟨g, off + i * 4 + 1, none⟩ = some (kI (l[i]'hlt).a) := hc 1 (by decide)
                  have c2 : wr.cell? ⟨g, off + i * 4 + 2, none⟩ = some (kI (l[i]'hlt).b) := hc 2 (by decide)
                  have c3 : wr.cell? ⟨g, off + i * 4 + 3, none⟩ = some (.int .i64 (l[i]'hlt).wt) := hc 3 (by decide)
                  have eA : Ext No wr (wr.alloc (.cells (l[i]'hlt).c.toArray 35)) := (Ext.refl No wr).alloc _
                  have hcall := do_all (dir := dir) (x := l[i]'hlt) (HG.out.2.2.2.1 _ (List.getElem_mem hlt)) (right_op (HL.out.1.1 _ (List.getElem_mem hlt))).1 (hM.no eA) (Nat.le_trans heW.size eA.size) (by have := HL.out.1.2.1; omega)
                  have HR := Lib.hid (And.intro hk (And.intro hM (And.intro hch (And.intro hsz (And.intro he eA)))))
                  have HCa := Lib.hid hcall
                  clear hk hM hch hsz he heW eA hc hcall
                  go_wp2_with fail
                  refine HCa.out.mono ?_
                  rintro r6 w6 ⟨m1, sm, vs1, es1, ks1, xs1, rfl, hD, hM1, hks1, hxs1, he6⟩
                  have HD := Lib.hid (And.intro hD (And.intro hM1 he6))
                  clear hD hM1 hks1 hxs1 he6
                  go_wp2_with fail
                  go_roundg (l.length - (i + 1))
                  case measure => have := HR.out.1; omega
                  case rel => exact MLR.next (by have := HL.out.1.2.1; omega) hlt HR.out.1 HR.out.2.2.1 HR.out.2.2.2.1 HR.out.2.2.2.2.1 HR.out.2.2.2.2.2 HD.out.1 HD.out.2.1 HD.out.2.2
                · have hnlt : ¬ (i : Int) < (l.length : Int) := by omega
                  have hi : i = l.length := by omega
                  subst hi
                  rw [List.take_length] at hch
                  have hlm : m'.V.length + m'.E.length ≤ 100 := by have := HL.out.1.2.1; omega
                  have HX := Lib.hid (And.intro hM (And.intro hch (And.intro hlm (And.intro heW (he.obj H5.out.2.2 (by omega))))))
                  clear hk hM hch hsz he heW hlm
                  obtain ⟨wx, rfl⟩ : ∃ W : World, W = wr := ⟨_, rfl⟩
                  obtain ⟨m, rfl⟩ : ∃ x : PS, x = m' := ⟨_, rfl⟩
                  obtain ⟨vm, rfl⟩ : ∃ x : Value, x = vs := ⟨_, rfl⟩
                  obtain ⟨em, rfl⟩ : ∃ x : Value, x = es := ⟨_, rfl⟩
                  go_wp2_with fail
                  try go_frame
                  go_loopg [76] o.length (fun k iv wr => MLR dir ⟨[], []⟩ 0 o wx w.heap.size (w4.heap.size + 1) k iv wr)
                  case atStart => exact ⟨0, ⟨[], []⟩, [], nilS, nilS, rfl, by simp, ⟨HX.out.2.2.2.2, nil_own, nil_own⟩, Chain.nil _, by simp, Ext.refl _ _⟩
                  case round =>
                    obtain ⟨i, m', sps, vs, es, rfl, hk, hM, hch, hsz, he⟩ := hrel
                    have heW : Ext No w wr := HX.out.2.2.2.1.then he (fun c hc e => by have := H4.out.size; omega)
                    by_cases hlt : i < o.length
                    · obtain ⟨g, off, hq, hg, hc⟩ := RdG.at (f := Stp.c) (size := 4) (fun _ => rfl) (HG.out.2.2.2.2.1.ext heW (fun _ _ h => h)) hlt
                      subst hq
                      have hlt' : (i : Int) < (o.length : Int) := by omega
                      have c0 : wr.cell? ⟨g, off + i * 4, none⟩ = some (.int .u8 (o[i]'hlt).op) := hc 0 (by decide)
                      have c1 : wr.cell? ⟨g, off + i * 4 + 1, none⟩ = some (kI (o[i]'hlt).a) := hc 1 (by decide)
                      have c2 : wr.cell? ⟨g, off + i * 4 + 2, none⟩ = some (kI (o[i]'hlt).b) := hc 2 (by decide)
                      have c3 : wr.cell? ⟨g, off + i * 4 + 3, none⟩ = some (.int .i64 (o[i]'hlt).wt) := hc 3 (by decide)
                      have eA : Ext No wr (wr.alloc (.cells (o[i]'hlt).c.toArray 35)) := (Ext.refl No wr).alloc _
                      have hcall := do_all (dir := dir) (x := o[i]'hlt) (HG.out.2.2.2.2.2.1 _ (List.getElem_mem hlt)) (right_op (HL.out.2.1 _ (List.getElem_mem hlt))).1 (hM.no eA) (Nat.le_trans heW.size eA.size) (by have := HL.out.2.2.1; omega)
                      have HR := Lib.hid (And.intro hk (And.intro hM (And.intro hch (And.intro hsz (And.intro he eA)))))
                      have HCa := Lib.hid hcall
                      clear hk hM hch hsz he heW eA hc hcall
                      go_wp2_with fail
                      refine HCa.out.mono ?_
                      rintro r6 w6 ⟨m1, sm, vs1, es1, ks1, xs1, rfl, hD, hM1, hks1, hxs1, he6⟩
                      have HD := Lib.hid (And.intro hD (And.intro hM1 he6))
                      clear hD hM1 hks1 hxs1 he6
                      go_wp2_with fail
                      go_roundg (o.length - (i + 1))
                      case measure => have := HR.out.1; omega
                      case rel => exact MLR.next (by have := HL.out.2.2.1; omega) hlt HR.out.1 HR.out.2.2.1 HR.out.2.2.2.1 HR.out.2.2.2.2.1 HR.out.2.2.2.2.2 HD.out.1 HD.out.2.1 HD.out.2.2
                    · have hnlt : ¬ (i : Int) < (o.length : Int) := by omega
                      have hi : i = o.length := by omega
                      subst hi
                      rw [List.take_length] at hch
                      have hlm : m'.V.length + m'.E.length ≤ 100 := by have := HL.out.2.2.1; omega
                      have hM1 := HX.out.1.off he (by omega) HX.out.2.2.2.2
                      have hmm : w4.heap.size + 1 < wx.heap.size := by have h := HX.out.2.2.2.2; exact (Array.getElem?_eq_some_iff.1 h).1
                      have HY := Lib.hid (And.intro hM (And.intro hch (And.intro hlm (And.intro heW (And.intro hM1 (Nat.lt_of_lt_of_le hmm he.size))))))
                      clear hk hM hch hsz he heW hlm hM1 hmm
                      obtain ⟨wy, rfl⟩ : ∃ W : World, W = wr := ⟨_, rfl⟩
                      obtain ⟨n, rfl⟩ : ∃ x : PS, x = m' := ⟨_, rfl⟩
                      obtain ⟨vn, rfl⟩ : ∃ x : Value, x = vs := ⟨_, rfl⟩
                      obtain ⟨en, rfl⟩ : ∃ x : Value, x = es := ⟨_, rfl⟩
                      obtain ⟨q5, c5, hvm, -⟩ := own_read (f := oneC) (fun _ => rfl) HY.out.2.2.2.2.1.V
                      subst hvm
                      obtain ⟨x0, x1, x2, x3, -⟩ := cells4 HY.out.2.2.2.2.1.row
                      have l1 := World.block_lt_of_cell? _ _ x0
                      go_wp2_with fail
                      clear x0 x1 x2 x3 l1
                      try go_frame
                      go_loopg [15, 89] m.V.length (fun k tv iv wr => ASR m.V n.V w.heap.size (w4.heap.size + 1) dir n wy k tv iv wr)
                      case atStart => exact ⟨0, rfl, rfl, by simp, ⟨_, _, HY.out.1⟩, Ext.refl _ _⟩
                      case round =>
                        obtain ⟨i, rfl, rfl, hk, ⟨vn', en', hM⟩, he⟩ := hrel
                        have hM1 := HY.out.2.2.2.2.1.off he (by omega) HY.out.1.row
                        by_cases hlt : i < m.V.length
                        · obtain ⟨g, hq, hg, hc⟩ := own_at (f := oneC) (fun _ => rfl) hM1.V hlt
                          subst hq
                          have hlt' : (i : Int) < (m.V.length : Int) := by omega
                          have hx : wr.cell? ⟨g, i, none⟩ = some (kI (m.V[i]'hlt)) := by have := hc 0 (by decide); simpa using this
                          have htk : (m.V.take (i + 1)).any (fun v => decide (v ∈ n.V)) = ((m.V.take i).any (fun v => decide (v ∈ n.V)) || decide (m.V[i]'hlt ∈ n.V)) := by
                            rw [List.take_add_one, List.getElem?_eq_getElem hlt, List.any_append]
                            simp
                          have hcall := do_vx (a := m.V[i]'hlt) (b := 0) (wt := 0) hM (Nat.le_trans HY.out.2.2.2.1.size he.size) (by have := HY.out.2.2.1; omega)
                          have HR := Lib.hid (And.intro hk (And.intro hM (And.intro he (And.intro htk hcall))))
                          clear hk hM he htk hcall hc hM1
                          generalize hb : (m.V.take i).any (fun v => decide (v ∈ n.V)) = b at *
                          cases b with
                          | true =>
                            go_wp2
                            go_roundg (m.V.length - (i + 1))
                            case measure => have := HR.out.1; omega
                            case rel => exact ⟨i + 1, by rw [HR.out.2.2.2.1]; simp, by rw [w64 (by have := HX.out.2.2.1; omega)], by have := HR.out.1; omega, ⟨_, _, HR.out.2.1⟩, HR.out.2.2.1⟩
                          | false =>
                            go_wp2_with fail
                            refine HR.out.2.2.2.2.mono ?_
                            rintro r6 w6 ⟨n1, sm, vs1, es1, ks1, xs1, rfl, hD, hM1, hks1, hxs1, he6⟩
                            obtain ⟨hn1, hD⟩ := hD
                            subst hn1
                            obtain ⟨q6, c6, rfl, -⟩ := own_read (f := oneC) (fun _ => rfl) hks1
                            obtain ⟨q7, c7, rfl, -⟩ := own_read (f := triC) (fun _ => rfl) hxs1
                            have HD := Lib.hid (And.intro hM1 (HR.out.2.2.1.trans he6))
                            clear hM1 hks1 hxs1 he6
                            rcases hD with ⟨hin, hsm⟩ | ⟨hin, hsm⟩
                            · have hdec : decide (m.V[i]'hlt ∈ n1.V) = true := by simpa using hin
                              have HI := Lib.hid hdec
                              have her : sm.er = 0 := by rw [hsm]
                              clear hin hdec hsm
                              have hfl := said_field0 0 sm.a sm.b sm.w (.slice q6 sm.ks.length c6) (.slice q7 sm.es.length c7) w6
                              rw [her]
                              clear her
                              go_wp2
                              go_roundg (m.V.length - (i + 1))
                              case measure => have := HR.out.1; omega
                              case rel => exact ⟨i + 1, by rw [HR.out.2.2.2.1, HI.out]; rfl, by rw [w64 (by have := HX.out.2.2.1; omega)], by have := HR.out.1; omega, ⟨_, _, HD.out.1⟩, HD.out.2⟩
                            · have hdec : decide (m.V[i]'hlt ∈ n1.V) = false := by simpa using hin
                              have HI := Lib.hid hdec
                              have her : sm.er = 2 := by rw [hsm]
                              clear hin hdec hsm
                              have hfl := said_field0 2 sm.a sm.b sm.w (.slice q6 sm.ks.length c6) (.slice q7 sm.es.length c7) w6
                              rw [her]
                              clear her
                              go_wp2
                              go_roundg (m.V.length - (i + 1))
                              case measure => have := HR.out.1; omega
                              case rel => exact ⟨i + 1, by rw [HR.out.2.2.2.1, HI.out]; rfl, by rw [w64 (by have := HX.out.2.2.1; omega)], by have := HR.out.1; omega, ⟨_, _, HD.out.1⟩, HD.out.2⟩
                        · have hnlt : ¬ (i : Int) < (m.V.length : Int) := by omega
                          have hi : i = m.V.length := by omega
                          subst hi
                          rw [List.take_length]
                          have heW : Ext No w wr := HY.out.2.2.2.1.then he (fun c hc e => by have := H4.out.size; omega)
                          have HZ := Lib.hid (And.intro hM heW)
                          clear hk hM he hM1 heW
                          obtain ⟨wz, rfl⟩ : ∃ W : World, W = wr := ⟨_, rfl⟩
                          obtain ⟨fl, hfl⟩ : ∃ b : Bool, b = m.V.any (fun v => decide (v ∈ n.V)) := ⟨_, rfl⟩
                          rw [← hfl]
                          have HFl := Lib.hid hfl
                          clear hfl
                          go_wp2_with fail
                          refine (to_run (HG.out.2.2.1.ext HZ.out.2 (fun _ _ h => h)) (by have := HL.out.1.2.1; omega)).mono ?_
                          rintro r9 w9 ⟨v9, rfl, ho9, he9⟩
                          obtain ⟨q9, c9, rfl, -⟩ := own_read (f := Stp.c) (fun _ => rfl) ho9
                          have H9 := Lib.hid (And.intro ho9 he9)
                          clear ho9 he9
                          go_wp2_with fail
                          refine (to_run (HG.out.2.2.2.2.1.ext (HZ.out.2.trans H9.out.2) (fun _ _ h => h)) (by have := HL.out.2.2.1; omega)).mono ?_
                          rintro r10 w10 ⟨v10, rfl, ho10, he10⟩
                          obtain ⟨q10, c10, rfl, -⟩ := own_read (f := Stp.c) (fun _ => rfl) ho10
                          have H10 := Lib.hid (And.intro (ownsRow_ext H9.out.1 he10 (fun _ _ h => h)) (And.intro ho10 (And.intro (HZ.out.2.trans (H9.out.2.trans he10)) (H9.out.2.trans he10))))
                          clear ho10 he10
                          go_wp2_with fail
                          refine (from_run dir wei (HG.out.1.ext HG.out.2.1 H10.out.2.2.1 (fun _ h => h.elim)) (HG.out.2.1.mono H10.out.2.2.1.size) H10.out.1 H10.out.2.1 (HL.out.1.plain HG.out.2.2.2.1) (HL.out.2.plain HG.out.2.2.2.2.2.1)).mono ?_
                          rintro r11 w11 ⟨sx, sy, spx, spy, K, j, L, k, ev, ee, ks, es', s', sp, rfl, hcx, hcy, hv, he', ha, hfin, hks, hes, he11⟩
                          obtain ⟨hfl, hall, hallE⟩ := twice_law hcx hcy HX.out.2.1 HY.out.2.1 HL.out.1.1 HL.out.2.1 hv ha hfin
                          obtain ⟨qa, ca, rfl, -⟩ := own_read (f := oneC) (fun _ => rfl) hks
                          obtain ⟨qb, cb, rfl, -⟩ := own_read (f := triC) (fun _ => rfl) hes
                          have e11 := H10.out.2.2.2.trans he11
                          have hlen : sp.ks.length < 1000000 ∧ sp.es.length < 1000000 := by have := said_len hcx hcy hv he' ha; have := HL.out.1.2.1; have := HL.out.2.2.1; omega
                          have H11 := Lib.hid (And.intro hks (And.intro hes (And.intro (H10.out.2.2.1.trans he11) (And.intro (HZ.out.1.no e11) (And.intro hall (And.intro hallE hlen))))))
                          rw [← HFl.out] at hfl
                          clear hcx hcy hv he' ha hfin hks hes he11 hall hallE e11 hlen
                          have hev : (ev = 0 ∧ fl = false) ∨ (ev = 1 ∧ fl = true) := hfl
                          have HEv := Lib.hid hev
                          clear hfl HFl hev
                          go_upto_region 23 with (fail)
                          have e12 : Ext No w11 (w11.alloc (.cells #[.int .u8 sp.er, .int .i64 sp.a, .int .i64 sp.b, .int .i64 sp.w, .slice qa sp.ks.length ca, .slice qb sp.es.length cb] 39)) := (Ext.refl No w11).alloc _
                          have r12 : (w11.alloc (.cells #[.int .u8 sp.er, .int .i64 sp.a, .int .i64 sp.b, .int .i64 sp.w, .slice qa sp.ks.length ca, .slice qb sp.es.length cb] 39)).heap[w11.heap.size]? = some (.cells #[.int .u8 sp.er, .int .i64 sp.a, .int .i64 sp.b, .int .i64 sp.w, .slice qa sp.ks.length ca, .slice qb sp.es.length cb] 39 (0, 0)) := (heap_alloc w11 _).1
                          have H12 := Lib.hid (And.intro e12 r12)
                          clear e12 r12
                          revert H12
                          generalize (w11.alloc (.cells #[.int .u8 sp.er, .int .i64 sp.a, .int .i64 sp.b, .int .i64 sp.w, .slice qa sp.ks.length ca, .slice qb sp.es.length cb] 39)) = W12
                          intro H12
                          have hM12 := H11.out.2.2.2.1.no H12.out.1
                          obtain ⟨q8, c8, rfl, -⟩ := own_read (f := oneC) (fun _ => rfl) hM12.V
                          obtain ⟨x0, x1, x2, x3, -⟩ := cells4 hM12.row
                          have l1 := World.block_lt_of_cell? _ _ x0
                          have HM12 := Lib.hid (And.intro hM12 (H11.out.2.2.1.trans H12.out.1))
                          clear hM12
                          obtain ⟨hv, hf⟩ | ⟨hv, hf⟩ := HEv.out
                          all_goals
                            clear HEv
                            rw [hv, hf]
                            clear hv hf
                            go_wp2_with fail
                            clear x0 x1 x2 x3 l1
                            try go_frame
                            go_loopg [131] n.V.length (fun k iv wr => EAR n.V.length W12 k iv wr)
                            case atStart => exact ⟨0, rfl, by simp, Ext.refl _ _⟩
                            case round =>
                              obtain ⟨i, rfl, hk, he⟩ := hrel
                              by_cases hlt : i < n.V.length
                              · have hMr := HM12.out.1.no he
                                obtain ⟨g, hq, hg, hc⟩ := own_at (f := oneC) (fun _ => rfl) hMr.V hlt
                                subst hq
                                have hlt' : (i : Int) < (n.V.length : Int) := by omega
                                have hx : wr.cell? ⟨g, i, none⟩ = some (kI (n.V[i]'hlt)) := by have := hc 0 (by decide); simpa using this
                                obtain ⟨x0, x1, x2, x3, x4, x5, -⟩ := cells6 (he.obj H12.out.2 id)
                                have lx := World.block_lt_of_cell? _ _ x0
                                have hin : n.V[i]'hlt ∈ sp.ks := H11.out.2.2.2.2.1 _ (List.getElem_mem hlt)
                                have HK := Lib.hid (And.intro hk he)
                                clear hk he hMr hc
                                generalize n.V[i]'hlt = v at hx hin
                                have HIn := Lib.hid hin
                                clear hin
                                obtain ⟨wd, rfl⟩ : ∃ W : World, W = wr := ⟨_, rfl⟩
                                go_wp2_with fail
                                clear x0 x1 x2 x3 x4 x5 lx hx
                                try go_frame
                                go_loopg [23, 138] sp.ks.length (fun k tv iv wr => FIR (fun j => decide (sp.ks[j]? = some v)) sp.ks.length wd k tv iv wr)
                                case atStart => exact ⟨0, rfl, rfl, by simp, Ext.refl _ _⟩
                                case round =>
                                  obtain ⟨j2, rfl, rfl, hk2, he2⟩ := hrel
                                  by_cases hlt2 : j2 < sp.ks.length
                                  · have hko := ownsRow_ext H11.out.1 ((H12.out.1.trans HK.out.2).trans he2) (fun _ _ h => h)
                                    obtain ⟨g2, hq2, hg2, hc2⟩ := own_at (f := oneC) (fun _ => rfl) hko hlt2
                                    subst hq2
                                    have hlt2' : (j2 : Int) < (sp.ks.length : Int) := by omega
                                    have hx2 : wr.cell? ⟨g2, j2, none⟩ = some (kI (sp.ks[j2]'hlt2)) := by have := hc2 0 (by decide); simpa using this
                                    have hrg : (List.range (j2 + 1)).any (fun j => decide (sp.ks[j]? = some v)) = ((List.range j2).any (fun j => decide (sp.ks[j]? = some v)) || decide (sp.ks[j2]'hlt2 = v)) := by
                                      rw [List.range_succ, List.any_append]
                                      simp [List.getElem?_eq_getElem hlt2]
                                    have HR2 := Lib.hid (And.intro hk2 (And.intro he2 hrg))
                                    clear hk2 he2 hrg hc2 hko
                                    generalize hb : (List.range j2).any (fun j => decide (sp.ks[j]? = some v)) = b at *
                                    cases b with
                                    | true =>
                                      go_wp2
                                      go_roundg (sp.ks.length - (j2 + 1))
                                      case measure => have := HR2.out.1; omega
                                      case rel => exact ⟨j2 + 1, by rw [HR2.out.2.2]; simp, by rw [w64 (by have := H11.out.2.2.2.2.2.2; omega)], by have := HR2.out.1; omega, HR2.out.2.1⟩
                                    | false =>
                                      generalize hy : sp.ks[j2]'hlt2 = y at *
                                      have HY2 := Lib.hid hy
                                      clear hy
                                      by_cases hv : y = v
                                      · subst hv
                                        go_wp2
                                        go_roundg (sp.ks.length - (j2 + 1))
                                        case measure => have := HR2.out.1; omega
                                        case rel => exact ⟨j2 + 1, by rw [HR2.out.2.2]; simp, by rw [w64 (by have := H11.out.2.2.2.2.2.2; omega)], by have := HR2.out.1; omega, HR2.out.2.1⟩
                                      · have hvb : (y == v) = false := by simpa using hv
                                        have hvd : decide (y = v) = false := by simpa using hv
                                        have HVd := Lib.hid hvd
                                        clear hv hvd
                                        go_wp2
                                        go_roundg (sp.ks.length - (j2 + 1))
                                        case measure => have := HR2.out.1; omega
                                        case rel => exact ⟨j2 + 1, by rw [HR2.out.2.2, HVd.out]; rfl, by rw [w64 (by have := H11.out.2.2.2.2.2.2; omega)], by have := HR2.out.1; omega, HR2.out.2.1⟩
                                  · have hnlt2 : ¬ (j2 : Int) < (sp.ks.length : Int) := by omega
                                    have hj : j2 = sp.ks.length := by omega
                                    subst hj
                                    have htrue : (List.range sp.ks.length).any (fun j => decide (sp.ks[j]? = some v)) = true := by
                                      rw [List.any_eq_true]
                                      obtain ⟨j, hj, hjv⟩ := List.getElem_of_mem HIn.out
                                      exact ⟨j, List.mem_range.2 hj, by simp [List.getElem?_eq_getElem hj, hjv]⟩
                                    rw [htrue]
                                    have HK2 := Lib.hid he2
                                    clear htrue hk2 he2
                                    go_wp2
                                    go_roundg (n.V.length - (i + 1))
                                    case measure => have := HK.out.1; omega
                                    case rel => exact ⟨i + 1, by rw [w64 (by have := HY.out.2.2.1; omega)], by have := HK.out.1; omega, HK.out.2.trans HK2.out⟩
                              · have hnlt3 : ¬ (i : Int) < (n.V.length : Int) := by omega
                                have HK := Lib.hid he
                                clear hk he
                                obtain ⟨wd, rfl⟩ : ∃ W : World, W = wr := ⟨_, rfl⟩
                                go_wp2_with fail
                                refine (both_run (back := false) (HM12.out.1.no HK.out) (by have := HY.out.2.2.1; omega)).mono ?_
                                rintro r13 w13 ⟨vb, xs, rfl, hperm, -, hxo, he13⟩
                                obtain ⟨q13, c13, rfl, -⟩ := own_read (f := triC) (fun _ => rfl) hxo
                                have hlx : xs.length ≤ 1000 := by
                                  have h1 := hperm.length_eq
                                  have h2 := bothAll_len dir false n.E
                                  have := HY.out.2.2.1
                                  omega
                                have H13 := Lib.hid (And.intro (fun e he => H11.out.2.2.2.2.2.1 e (hperm.mem_iff.1 he) : ∀ e ∈ xs, e ∈ sp.es) (And.intro hxo (And.intro (HK.out.trans he13) hlx)))
                                clear hperm hxo he13 hlx
                                go_wp2_with fail
                                try go_frame
                                go_loopg [155] xs.length (fun k iv wr => EAR xs.length w13 k iv wr)
                                case atStart => exact ⟨0, rfl, by simp, Ext.refl _ _⟩
                                case round =>
                                  obtain ⟨i, rfl, hk, he⟩ := hrel
                                  by_cases hlt : i < xs.length
                                  · obtain ⟨g, hq, hg, hc⟩ := own_at (f := triC) (fun _ => rfl) (ownsRow_ext H13.out.2.1 he (fun _ _ h => h)) hlt
                                    subst hq
                                    have hlt' : (i : Int) < (xs.length : Int) := by omega
                                    have hin : xs[i]'hlt ∈ sp.es := H13.out.1 _ (List.getElem_mem hlt)
                                    have c0 : wr.cell? ⟨g, i * 3, none⟩ = some (kI (xs[i]'hlt).1) := hc 0 (by decide)
                                    have c1 : wr.cell? ⟨g, i * 3 + 1, none⟩ = some (kI (xs[i]'hlt).2.1) := hc 1 (by decide)
                                    have c2 : wr.cell? ⟨g, i * 3 + 2, none⟩ = some (.int .i64 (xs[i]'hlt).2.2) := hc 2 (by decide)
                                    generalize xs[i]'hlt = e at hin c0 c1 c2
                                    have HK3 := Lib.hid (And.intro hk (And.intro he hin))
                                    clear hk he hin hc
                                    go_upto_region 41 with (fail)
                                    have eA : Ext No wr (wr.alloc (.cells #[.int .i64 e.1, .int .i64 e.2.1, .int .i64 e.2.2] 48)) := (Ext.refl No wr).alloc _
                                    have rA : (wr.alloc (.cells #[.int .i64 e.1, .int .i64 e.2.1, .int .i64 e.2.2] 48)).heap[wr.heap.size]? = some (.cells (triC e).toArray 48 (0, 0)) := (heap_alloc wr _).1
                                    have HA2 := Lib.hid (And.intro (HK3.out.2.1.trans eA) rA)
                                    clear eA rA c0 c1 c2
                                    revert HA2
                                    generalize (wr.alloc (.cells #[.int .i64 e.1, .int .i64 e.2.1, .int .i64 e.2.2] 48)) = we
                                    intro HA2
                                    generalize wr.heap.size = ne at HA2 ⊢
                                    obtain ⟨x0, x1, x2, x3, x4, x5, -⟩ := cells6 ((H13.out.2.2.1.trans HA2.out.1).obj H12.out.2 id)
                                    have lx := World.block_lt_of_cell? _ _ x0
                                    go_wp2_with fail
                                    clear x0 x1 x2 x3 x4 x5 lx
                                    try go_frame
                                    go_loopg [28, 162] sp.es.length (fun k tv iv wq => FIR (fun j => decide (sp.es[j]? = some e)) sp.es.length we k tv iv wq)
                                    case atStart => exact ⟨0, rfl, rfl, by simp, Ext.refl _ _⟩
                                    case round =>
                                      obtain ⟨j2, rfl, rfl, hk2, he2⟩ := hrel
                                      by_cases hlt2 : j2 < sp.es.length
                                      · have hko := ownsRow_ext H11.out.2.1 (((H12.out.1.trans H13.out.2.2.1).trans HA2.out.1).trans he2) (fun _ _ h => h)
                                        obtain ⟨g2, hq2, hg2, hc2⟩ := own_at (f := triC) (fun _ => rfl) hko hlt2
                                        subst hq2
                                        have hlt2' : (j2 : Int) < (sp.es.length : Int) := by omega
                                        have hrg : (List.range (j2 + 1)).any (fun j => decide (sp.es[j]? = some e)) = ((List.range j2).any (fun j => decide (sp.es[j]? = some e)) || decide (sp.es[j2]'hlt2 = e)) := by
                                          rw [List.range_succ, List.any_append]
                                          simp [List.getElem?_eq_getElem hlt2]
                                        have c0 : wr.cell? ⟨g2, j2 * 3, none⟩ = some (kI (sp.es[j2]'hlt2).1) := hc2 0 (by decide)
                                        have c1 : wr.cell? ⟨g2, j2 * 3 + 1, none⟩ = some (kI (sp.es[j2]'hlt2).2.1) := hc2 1 (by decide)
                                        have c2 : wr.cell? ⟨g2, j2 * 3 + 2, none⟩ = some (.int .i64 (sp.es[j2]'hlt2).2.2) := hc2 2 (by decide)
                                        generalize hy : sp.es[j2]'hlt2 = y at hrg c0 c1 c2
                                        obtain ⟨b0, b1, b2⟩ := cells3 (he2.obj HA2.out.2 id)
                                        have lb := World.block_lt_of_cell? _ _ b0
                                        have HR2 := Lib.hid (And.intro hk2 (And.intro he2 hrg))
                                        clear hk2 he2 hrg hc2 hko hy
                                        generalize hb : (List.range j2).any (fun j => decide (sp.es[j]? = some e)) = b at *
                                        cases b with
                                        | true =>
                                          go_wp2
                                          go_roundg (sp.es.length - (j2 + 1))
                                          case measure => have := HR2.out.1; omega
                                          case rel => exact ⟨j2 + 1, by rw [HR2.out.2.2]; simp, by rw [w64 (by have := H11.out.2.2.2.2.2.2; omega)], by have := HR2.out.1; omega, HR2.out.2.1.alloc _⟩
                                        | false =>
                                          by_cases hv : y = e
                                          · subst hv
                                            go_wp2
                                            go_roundg (sp.es.length - (j2 + 1))
                                            case measure => have := HR2.out.1; omega
                                            case rel => exact ⟨j2 + 1, by rw [HR2.out.2.2]; simp, by rw [w64 (by have := H11.out.2.2.2.2.2.2; omega)], by have := HR2.out.1; omega, HR2.out.2.1.alloc _⟩
                                          · have hvd : decide (y = e) = false := by simpa using hv
                                            have HVd := Lib.hid (And.intro hvd hv)
                                            clear hv hvd
                                            go_wp2
                                            all_goals
                                              go_roundg (sp.es.length - (j2 + 1))
                                              case measure => have := HR2.out.1; omega
                                              case rel => exact ⟨j2 + 1, by rw [HR2.out.2.2, HVd.out.1]; first | rfl | exact absurd (Prod.ext (by assumption) (Prod.ext (by assumption) (by assumption))) HVd.out.2, by rw [w64 (by have := H11.out.2.2.2.2.2.2; omega)], by have := HR2.out.1; omega, HR2.out.2.1.alloc _⟩
                                      · have hnlt2 : ¬ (j2 : Int) < (sp.es.length : Int) := by omega
                                        have hj : j2 = sp.es.length := by omega
                                        subst hj
                                        have htrue : (List.range sp.es.length).any (fun j => decide (sp.es[j]? = some e)) = true := by
                                          rw [List.any_eq_true]
                                          obtain ⟨j, hj, hjv⟩ := List.getElem_of_mem HK3.out.2.2
                                          exact ⟨j, List.mem_range.2 hj, by simp [List.getElem?_eq_getElem hj, hjv]⟩
                                        rw [htrue]
                                        have HK2 := Lib.hid he2
                                        clear htrue hk2 he2
                                        go_wp2
                                        go_roundg (xs.length - (i + 1))
                                        case measure => have := HK3.out.1; omega
                                        case rel => exact ⟨i + 1, by rw [w64 (by have := H13.out.2.2.2; omega)], by have := HK3.out.1; omega, HA2.out.1.trans HK2.out⟩
                                  · have hnlt4 : ¬ (i : Int) < (xs.length : Int) := by omega
                                    have heW : Ext No w wr := HM12.out.2.trans (H13.out.2.2.1.trans he)
                                    have HE := Lib.hid heW
                                    clear hk he heW
                                    go_wp2_with fail
                                    refine (HW.out _ HE.out).mono ?_
                                    rintro r5 w5 ⟨rfl, h5⟩
                                    go_wp2
                                    go_ret
                                    exact ⟨rfl, HE.out.trans h5⟩
        · have hrf : rightL dir 100 o = false := by simpa using hr2
          rw [hrf]
          clear hr2 hrf
          go_wp2_with fail
          refine (HW.out _ H2.out).mono ?_
          rintro r9 w9 ⟨rfl, h9⟩
          go_wp2
          go_ret
          exact ⟨rfl, H2.out.trans h9⟩
      · have hrf : rightL dir 100 l = false := by simpa using hr
        rw [hrf]
        clear hr hrf
        go_wp2_with fail
        refine (HW.out _ H1.out).mono ?_
        rintro r9 w9 ⟨rfl, h9⟩
        go_wp2
        go_ret
        exact ⟨rfl, H1.out.trans h9⟩
    · have hnso : (2147483647 : Int) < (o.length : Int) := by omega
      clear hp hB hl h0 hsz ho ho0
      go_enter Tryz.func7, Tryz.ntmps7
      go_wp2
      go_ret
      exact ⟨rfl, Ext.refl _ _⟩
  · have hnsz : (2147483647 : Int) < (l.length : Int) := by omega
    clear hp hB hl h0 hsz ho ho0
    go_enter Tryz.func7, Tryz.ntmps7
    go_wp2
    go_ret
    exact ⟨rfl, Ext.refl _ _⟩
end Go.Proofs.YtcenebjdhbdejaaGreatDoor
