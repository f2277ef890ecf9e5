/- stepped: the adjacency map, walked. -/
import Derived.Test.YtcenebjdhbdejaaGreatDoorQ1
namespace Go.Proofs.YtcenebjdhbdejaaGreatDoor
open Go.MapKept

/-- What stepped says of a map: its keys, its edges, sorted; in rows of its own. -/
def SaidMap (T : TypeId) (d : Addr) (kf : EdgeR → Int) (R : List Int → (Int → List EdgeR) → Prop) (w : World) (r : Ending) (w' : World) : Prop :=
  ∃ (ks es : Value) (kl : List Int) (el : List Tri) (K : List Int) (F : Int → List EdgeR), r = .returned (.tuple #[.iface T (.pointer (some d)), saidV 0 0 0 0 ks es]) ∧ R K F ∧
    kl.Perm K ∧ kl.Pairwise (fun a b => ltK b a = false) ∧ el.Perm (K.flatMap (triL kf F)) ∧ el.Pairwise (fun a b => ltE b a = false) ∧
    w'.ownsRow w.heap.size 2 1 ks kl.length (kl.flatMap oneC) ∧ w'.ownsRow w.heap.size 59 3 es el.length (el.flatMap triC) ∧ Ext No w w'

theorem ownsRow_low {w : World} {B B' e size n : Nat} {v : Value} {xs : List Value} (h : w.ownsRow B e size v n xs) (hb : B' ≤ B) : w.ownsRow B' e size v n xs := by
  refine ⟨h.1, ?_⟩
  rcases h.2 with hn | ⟨g, cap, cur, hv, hg, rest⟩
  · exact Or.inl hn
  · exact Or.inr ⟨g, cap, cur, hv, Nat.le_trans hb hg, rest⟩

/-- behind the sort of the keys -/
structure SortedK (kf : EdgeR → Int) (N : Nat) (w2 : World) (L : List (Int × Nat)) (F : Int → List EdgeR) (ks es : Value) (ds : List Tri) (kl : List Int) (w5 : World) : Prop where
  row : w5.heap[N + 2]? = some (.cells #[.int .u8 0, .int .i64 0, .int .i64 0, .int .i64 0, ks, es] 39 (0, 0))
  kp : kl.Perm (L.map (·.1))
  ksd : kl.Pairwise (fun a b => ltK b a = false)
  own : w5.ownsRow w2.heap.size 2 1 ks kl.length (kl.flatMap oneC)
  dsp : ds.Perm ((L.map (·.1)).flatMap (triL kf F))
  owe : w5.ownsRow w2.heap.size 59 3 es ds.length (ds.flatMap triC)
  len : ds.length < 1000000
  he : Ext (fun c => c = N + 2) w2 w5

theorem SortedK.of {kf : EdgeR → Int} {N k : Nat} {w2 wr w5 : World} {mb r : Nat} {L : List (Int × Nat)} {F : Int → List EdgeR} {done left : List (Int × Nat)} {ks es : Value} {ds : List Tri} {cur : Option (Int × Value)} {kl : List Int}
    (hK : left.length = k ∧ (done ++ left).Perm L ∧ IterI kI wr r mb (L.map fun o => (o.1, .map (some o.2))) (left.map fun o => (o.1, .map (some o.2))) cur ∧ MapM wr mb L (fun a => (F a).map fun e => (kf e, e.val)) ∧
      wr.heap[N + 2]? = some (.cells #[.int .u8 0, .int .i64 0, .int .i64 0, .int .i64 0, ks, es] 39 (0, 0)) ∧ wr.ownsRow w2.heap.size 2 1 ks done.length (done.flatMap fun o => oneC o.1) ∧ ds.Perm ((done.map (·.1)).flatMap (triL kf F)) ∧ wr.ownsRow w2.heap.size 59 3 es ds.length (ds.flatMap triC) ∧
      Ext (fun c => c = N + 2) w2 wr ∧ (∃ a c d e, wr.heap[r]? = some (.mapIter a c d e)) ∧ r ≠ N + 2 ∧ done.length < 1000000)
    (hL : ((L.map (·.1)).flatMap (triL kf F)).length < 1000000)
    (h0 : left = []) (hks : wr.ownsRow w2.heap.size 2 1 ks (done.map (·.1)).length ((done.map (·.1)).flatMap oneC)) (hkp : kl.Perm (done.map (·.1))) (hksd : kl.Pairwise (fun a b => ltK b a = false)) (hko : w5.ownsRow w2.heap.size 2 1 ks kl.length (kl.flatMap oneC))
    (hke : Ext (fun c => some c = ks.ownBlock) wr w5) : SortedK kf N w2 L F ks es ds kl w5 := by
  obtain ⟨hl, hperm, hI, hM, hrow, hks0, hds, hes, he, hri, hrt, hdl⟩ := hK
  subst h0
  have hp : done.Perm L := by simpa using hperm
  have hds' : ds.Perm ((L.map (·.1)).flatMap (triL kf F)) := hds.trans ((hp.map _).flatMap_right _)
  refine ⟨hke.obj hrow (fun e => row_ne hrow hks (by decide) e.symm), hkp.trans (hp.map _), hksd, hko, hds', ownsRow_ext hes hke (fun c hc e => ownsRow_ne hes hks (by decide) c hc e.symm), by rw [hds'.length_eq]; exact hL, ?_⟩
  exact he.then hke (fun c hc e => by have := (hks.lt c e.symm).1; omega)

/-- behind both sorts -/
structure SortedE (kf : EdgeR → Int) (N : Nat) (w2 : World) (L : List (Int × Nat)) (F : Int → List EdgeR) (ks es : Value) (kl : List Int) (el : List Tri) (w6 : World) : Prop where
  row : w6.heap[N + 2]? = some (.cells #[.int .u8 0, .int .i64 0, .int .i64 0, .int .i64 0, ks, es] 39 (0, 0))
  res : w6.heap[N + 1]? = some said0
  kp : kl.Perm (L.map (·.1))
  ksd : kl.Pairwise (fun a b => ltK b a = false)
  own : w6.ownsRow w2.heap.size 2 1 ks kl.length (kl.flatMap oneC)
  ep : el.Perm ((L.map (·.1)).flatMap (triL kf F))
  esd : el.Pairwise (fun a b => ltE b a = false)
  owe : w6.ownsRow w2.heap.size 59 3 es el.length (el.flatMap triC)
  he : Ext (fun c => c = N + 2) w2 w6

theorem SortedE.of {kf : EdgeR → Int} {N : Nat} {w2 w5 w6 : World} {L : List (Int × Nat)} {F : Int → List EdgeR} {ks es : Value} {ds el : List Tri} {kl : List Int} (h : SortedK kf N w2 L F ks es ds kl w5)
    (hep : el.Perm ds) (hes : el.Pairwise (fun a b => ltE b a = false)) (heo : w6.ownsRow w2.heap.size 59 3 es el.length (el.flatMap triC)) (hee : Ext (fun c => some c = es.ownBlock) w5 w6) (h5 : w2.heap[N + 1]? = some said0) (hN : N + 2 < w2.heap.size) : SortedE kf N w2 L F ks es kl el w6 := by
  refine ⟨hee.obj h.row (fun e => row_ne h.row h.owe (by decide) e.symm), ?_, h.kp, h.ksd, ownsRow_ext h.own hee (fun c hc e => ownsRow_ne h.own h.owe (by decide) c hc e.symm), hep.trans h.dsp, hes, heo, ?_⟩
  · exact hee.obj (h.he.obj h5 (by omega)) (fun e => by have := (h.owe.lt _ e.symm).1; omega)
  · exact h.he.then hee (fun c hc e => by have := (h.owe.lt c e.symm).1; omega)

set_option maxRecDepth 100000 in
set_option maxHeartbeats 2000000 in
theorem stepped_am (G : GK) {w : World} {d : Addr} {a b wt : Int} {kf : EdgeR → Int} {R : List Int → (Int → List EdgeR) → Prop}
    (hC : ∀ w', Ext No w w' → Calls Tryz.prog G.am.f #[.pointer (some d)] w' (SaysMap kf R w')) :
    Calls Tryz.prog 24 #[.iface G.T (.pointer (some d)), stepV 9 a b wt] w (SaidMap G.T d kf R w) := by
  have HC := Lib.hid (hC _ (sw_ext w 9 a b wt))
  clear hC
  have hM := G.am.m
  have hE := G.am.e
  go_enter Tryz.func24, Tryz.ntmps24
  go_wp2_with (go_at_call 35; (refine (edgeWeight_run _ _).mono ?_); rintro r1 w1 ⟨rfl, rfl⟩)
  refine HC.out.mono ?_
  rintro r1 w2 ⟨mb, L, F, rfl, hM2, he, hL1, hL2, hR⟩
  have r6 := he.obj (sw_said w 9 a b wt) id
  have r5 := he.obj (sw_res w 9 a b wt) id
  obtain ⟨x0, x1, x2, x3, x4, x5, f0, f1, f2, f3, f4, f5⟩ := cells6 r6
  have l6 := World.block_lt_of_cell? _ _ x0
  have HR := Lib.hid (And.intro hM2 (And.intro he (And.intro hL1 (And.intro hL2 (And.intro hR (And.intro r6 r5))))))
  clear hM2 he hL1 hL2 hR r6 r5
  have eW : Ext (fun c => c = w.heap.size + 2) w2 (w2.setCell ⟨w.heap.size + 1 + 1, 0, none⟩ (.int .u8 0)) := (Ext.refl _ w2).setCell _ _ (fun _ => rfl)
  have hMW := HR.out.1.rowx HR.out.2.2.2.2.2.1 eW
  have rW : (w2.setCell ⟨w.heap.size + 1 + 1, 0, none⟩ (.int .u8 0)).heap[w.heap.size + 2]? = some said0 := set_heap HR.out.2.2.2.2.2.1 _
  have hm := hMW.out
  have HW := Lib.hid (And.intro hMW (And.intro rW eW))
  clear hMW rW eW
  go_wp2_with (first | (go_at_call 29; (refine (errorOf_nil _).mono ?_); rintro r2 w3 ⟨rfl, rfl⟩) | (at_range; generalize w2.setCell ⟨w.heap.size + 1 + 1, 0, none⟩ (.int .u8 0) = W at hm HW ⊢; (refine wpL_range rfl rfl U105 rfl hm ?_); intro w4 hI4 hs4 he4))
  go_frame
  have HI := Lib.hid (And.intro hI4 (And.intro hs4 he4))
  clear hI4 hs4 he4 hm x0 x1 x2 x3 x4 x5 f0 f1 f2 f3 f4 f5 l6
  go_loopg [] L.length (fun k wr => SM1 kf w2.heap.size (w.heap.size + 2) w2 mb W.heap.size L F k wr)
  case atStart =>
    obtain ⟨hI4, hs4, he4⟩ := HI.out
    obtain ⟨hMW, rW, eW⟩ := HW.out
    refine ⟨[], L, none, nilS, nilS, [], rfl, by simp, hI4, hMW.ext he4 (fun _ _ h => h), he4.obj rW id, ⟨by simp, Or.inl ⟨rfl, rfl⟩⟩, by simp, ⟨by simp, Or.inl ⟨rfl, rfl⟩⟩, eW.trans he4.no⟩
  case round =>
    obtain ⟨done, left, cur, ks, es, ds, hl, hperm, hI, hM, hrow, hks, hds, hes, he⟩ := hrel
    have hri := hI.is_iter
    obtain ⟨hrt, hbt⟩ := hI.ne_row hrow
    obtain ⟨x0, x1, x2, x3, x4, x5, f0, f1, f2, f3, f4, f5⟩ := cells6 hrow
    have l6 := World.block_lt_of_cell? _ _ x0
    have hdl : done.length < 1000000 := by have h1 := hperm.length_eq; have h2 := HR.out.2.2.1; simp at h1; omega
    have HK := Lib.hid (And.intro hl (And.intro hperm (And.intro hI (And.intro hM (And.intro hrow (And.intro hks (And.intro hds (And.intro hes (And.intro he (And.intro hri (And.intro hrt hdl)))))))))))
    clear hl hperm hM hrow hks hds hes he hri hrt hbt hdl
    go_wp2_with (first | (at_next; (refine wpL_nextM (g := fun o : Int × Nat => (o.1, Value.map (some o.2))) rfl rfl rfl hI ?_ ?_); intro h0; rotate_left; intro l1 o l2 wn h1 hIn hsn hen hE; have HN := Lib.hid (Ahead.of h1 hIn hsn hen HK.out HW.out.2.2.size (Nat.le_refl _)); clear h1 hIn hsn hen; have hon := HN.out.own; obtain ⟨y0, y1, y2, y3, y4, y5, g0, g1, g2, g3, g4, g5⟩ := cells6 HN.out.row; have k6 := World.block_lt_of_cell? _ _ y0; rotate_left) | (at_builtin; (refine wpL_append1 rfl rfl U26 I2 rfl (by decide) (by decide) (f := fun o : Int × Nat => oneC o.1) (fun _ => rfl) (fun o => oneC_one o.1) rfl hon o rfl ⟨2, (0, 0), (heap_alloc wn _).1⟩ HK.out.2.2.2.2.2.2.2.2.2.2.2 HN.out.size ?_); intro v' wa hoa hea hba; obtain ⟨q', cap', hv, -⟩ := own_read (f := fun o : Int × Nat => oneC o.1) (fun _ => rfl) hoa; simp only [List.length_append, List.length_cons, List.length_nil, Nat.zero_add] at hv; subst hv; have HA : RowKit.Hid (AheadA kf w2.heap.size (w.heap.size + 2) w2 mb W.heap.size L F done l1 l2 o ks es ds (.slice q' (done.length + 1) cap') wa (wa.setCell ⟨w.heap.size + 1 + 1, 4, none⟩ (.slice q' (done.length + 1) cap'))) := Lib.hid (HN.out.grown hoa hea (Nat.le_refl _)); clear hoa hea hba; obtain ⟨z0, z1, z2, z3, z4, z5, q0, q1, q2, q3, q4, q5⟩ := cells6 HA.out.rowa; have m6 := World.block_lt_of_cell? _ _ z0; have hmn := HA.out.inn) | (at_range; (generalize wa.setCell ⟨w.heap.size + 1 + 1, 4, none⟩ (.slice q' (done.length + 1) cap') = W5 at hmn HA ⊢); (refine wpL_range rfl rfl U107 rfl hmn ?_); intro w6 hI6 hs6 he6))
    · have hks : wr.ownsRow w2.heap.size 2 1 ks (done.map (·.1)).length ((done.map (·.1)).flatMap oneC) := by
        have := HK.out.2.2.2.2.2.1
        rw [List.length_map, List.flatMap_map]; exact this
      have hS1 := sortKeys HK.out.2.2.2.2.1 hks (by rw [List.length_map]; exact HK.out.2.2.2.2.2.2.2.2.2.2.2)
      refine hS1.mono ?_
      rintro r5 w5 ⟨rfl, kl, hkp, hksd, hko, hke⟩
      have HF : RowKit.Hid (SortedK kf w.heap.size w2 L F ks es ds kl w5) := Lib.hid (SortedK.of HK.out HR.out.2.2.2.1 h0 hks hkp hksd hko hke)
      clear hks hS1 hkp hksd hko hke x0 x1 x2 x3 x4 x5 f0 f1 f2 f3 f4 f5 l6
      obtain ⟨x0, x1, x2, x3, x4, x5, f0, f1, f2, f3, f4, f5⟩ := cells6 HF.out.row
      have l6 := World.block_lt_of_cell? _ _ x0
      go_wp2_with fail
      refine (sortEdges HF.out.row HF.out.owe HF.out.len).mono ?_
      rintro r6 w6 ⟨rfl, el, hep, hes, heo, hee⟩
      obtain ⟨qk, ck, hvk, -⟩ := own_read (f := oneC) (fun _ => rfl) HF.out.own
      obtain ⟨qe, ce, hve, -⟩ := own_read (f := triC) (fun _ => rfl) heo
      subst hvk
      subst hve
      have HZ : RowKit.Hid (SortedE kf w.heap.size w2 L F (.slice qk kl.length ck) (.slice qe el.length ce) kl el w6) := Lib.hid (SortedE.of HF.out hep hes heo hee HR.out.2.2.2.2.2.2 (by have := HR.out.2.1.size; rw [sw_size] at this; omega))
      clear hep hes heo hee x0 x1 x2 x3 x4 x5 f0 f1 f2 f3 f4 f5 l6
      obtain ⟨x0, x1, x2, x3, x4, x5, f0, f1, f2, f3, f4, f5⟩ := cells6 HZ.out.row
      obtain ⟨y0, y1, y2, y3, y4, y5, g0, g1, g2, g3, g4, g5⟩ := cells6 HZ.out.res
      have l6 := World.block_lt_of_cell? _ _ x0
      have l5 := World.block_lt_of_cell? _ _ y0
      go_wp2_with fail
      go_region
      all_goals go_wp2
      refine bodyPost_ret (v := .tuple #[.iface G.T (.pointer (some d)), saidV 0 0 0 0 (.slice qk kl.length ck) (.slice qe el.length ce)]) ?hr rfl ?hR
      case hR =>
        have h := HZ.out
        have e7 := ((Ext.refl (fun c => c = w.heap.size + 1) w6).set6 (b := w.heap.size + 1) rfl (.int .u8 0) (.int .i64 0) (.int .i64 0) (.int .i64 0) (.slice qk kl.length ck) (.slice qe el.length ce)).drew
        have hsz : w.heap.size ≤ w2.heap.size := by have := HR.out.2.1.size; rw [sw_size] at this; omega
        refine ⟨_, _, kl, el, L.map (·.1), F, rfl, HR.out.2.2.2.2.1, h.kp, h.ksd, h.ep, h.esd, ?_, ?_, ?_⟩
        · exact ownsRow_low (ownsRow_ext h.own e7 (fun c hc e => row_ne h.res h.own (by decide) (by rw [hc, e]))) hsz
        · exact ownsRow_low (ownsRow_ext h.owe e7 (fun c hc e => row_ne h.res h.owe (by decide) (by rw [hc, e]))) hsz
        · have e2 := (sw_ext w 9 a b wt).trans HR.out.2.1
          exact (e2.then h.he (fun c hc e => by omega)).then e7 (fun c hc e => by omega)
      case hr =>
        have hg := set6 HZ.out.res (.int .u8 0) (.int .i64 0) (.int .i64 0) (.int .i64 0) (.slice qk kl.length ck) (.slice qe el.length ce)
        exact results_tmp_cell (fn := Tryz.f24) (g := w.heap.size + 1) (p := 5) (q := 4) (ty := 39) rfl rfl (at_drew hg) Tryz.underlying39 rfl sz39 rfl
    · try go_frame
      have HI6 := Lib.hid (And.intro hI6 he6)
      have hws : W.heap.size < W5.heap.size := HA.out.it.ltr
      have hwm : mb < W5.heap.size := HA.out.it.ltb
      clear hI6 hs6 he6 hmn hon hI hE x0 x1 x2 x3 x4 x5 f0 f1 f2 f3 f4 f5 l6 y0 y1 y2 y3 y4 y5 g0 g1 g2 g3 g4 g5 k6 z0 z1 z2 z3 z4 z5 q0 q1 q2 q3 q4 q5 m6
      go_loopg [] (F o.1).length (fun k wq => SM2 kf w2.heap.size (w.heap.size + 2) w2 mb W.heap.size W5.heap.size L F done (l1 ++ l2) o ds k wq)
      case atStart =>
        obtain ⟨hI6, he6⟩ := HI6.out
        have h := HA.out
        refine ⟨[], F o.1, none, _, es, ds, rfl, by simp, ⟨_, h.it.ext he6 id id⟩, hI6, h.M.ext he6 (fun _ _ => id), he6.obj h.row id, ownsRow_ext h.own he6 (fun _ _ => id), by simp, ownsRow_ext h.owe he6 (fun _ _ => id), h.he.trans he6.no⟩
      case round =>
        obtain ⟨dn, lf, cur2, ks2, es2, xs, hl, hperm, hO, hI2, hM, hrow, hks, hxs, hes, he⟩ := hrel
        obtain ⟨x0, x1, x2, x3, x4, x5, f0, f1, f2, f3, f4, f5⟩ := cells6 hrow
        have l6 := World.block_lt_of_cell? _ _ x0
        have hdl : xs.length < 1000000 := by rw [hxs]; exact SM2.len HN.out.perm HN.out.dsp hperm HR.out.2.2.2.1
        have HK2 := Lib.hid (And.intro hl (And.intro hperm (And.intro hO (And.intro hI2 (And.intro hM (And.intro hrow (And.intro hks (And.intro hxs (And.intro hes he)))))))))
        have HD := Lib.hid hdl
        clear hl hperm hO hM hrow hks hxs hes he hdl
        go_wp2_with (first | (at_next; (refine wpL_nextM (g := fun e : EdgeR => (kf e, e.val)) rfl rfl rfl hI2 ?_ ?_); intro h0; rotate_left; intro k1 e k2 wm h2 hIm hsm hem hEm; have HN2 := Lib.hid (Ahead2.of h2 hIm hem HK2.out (Nat.le_trans HW.out.2.2.size (Nat.le_of_lt hws)) hws hwm (Nat.le_refl _)); clear h2 hIm hsm hem; have hon := HN2.out.own; obtain ⟨y0, y1, y2, y3, y4, y5, g0, g1, g2, g3, g4, g5⟩ := cells6 HN2.out.row; have k6 := World.block_lt_of_cell? _ _ y0; rotate_left) | (at_builtin; (refine wpL_append1 rfl rfl U37 I59 rfl (by decide) (by decide) (f := triC) (fun _ => rfl) triC_one rfl hon (o.1, kf e, e.wt) rfl ⟨59, (0, 0), two_new _ _ _⟩ HD.out HN2.out.size ?_); intro v' wa2 hoa hea hba; obtain ⟨q2, cap2, hv, -⟩ := own_read (f := triC) (fun _ => rfl) hoa; simp only [List.length_append, List.length_cons, List.length_nil, Nat.zero_add] at hv; subst hv; have HA2 := Lib.hid (HN2.out.grown hoa hea (Nat.le_refl _)); clear hoa hea hba; obtain ⟨z0, z1, z2, z3, z4, z5, q0, q1, q2, q3, q4, q5⟩ := cells6 HA2.out.rowa; have m6 := World.block_lt_of_cell? _ _ z0))
        · go_roundg (l1 ++ l2).length
          case measure => have := HN.out.len; omega
          case rel =>
            obtain ⟨hl, hperm, ⟨cur, hO⟩, hI2, hM, hrow, hks, hxs, hes, he⟩ := HK2.out
            have h := HN.out
            subst h0
            refine ⟨done ++ [o], l1 ++ l2, cur, ks2, es2, xs, rfl, h.perm, hO, hM, hrow, hks, ?_, hes, he⟩
            rw [hxs]
            simp only [List.map_append, List.flatMap_append, List.map_cons, List.map_nil, List.flatMap_cons, List.flatMap_nil, List.append_nil]
            exact h.dsp.append ((by simpa using hperm : dn.Perm (F o.1)).map _)
        · go_roundg (k1 ++ k2).length
          case measure => have := HN2.out.len; omega
          case rel => exact HA2.out.rel
end Go.Proofs.YtcenebjdhbdejaaGreatDoor
