/- The laws' own helpers: buildSame, walked: true, where both say the same. The laws' own helpers: buildAll, walked. -/
import Derived.Test.YtcenebjdhbdejaaGreatDoorB28
import Derived.Test.YtcenebjdhbdejaaGreatDoorB23
namespace Go.Proofs.YtcenebjdhbdejaaGreatDoor
open Go.MapKept

/-- the two boxes -/
abbrev said2 (w : World) (er a b wt : Int) (ks es ks' es' : Value) : World :=
  (w.alloc (.cells #[.int .u8 er, kI a, kI b, .int .i64 wt, ks, es] 39)).alloc (.cells #[.int .u8 er, kI a, kI b, .int .i64 wt, ks', es'] 41)

theorem said2_rows (w : World) (er a b wt : Int) (ks es ks' es' : Value) :
    (said2 w er a b wt ks es ks' es').heap[w.heap.size]? = some (.cells #[.int .u8 er, kI a, kI b, .int .i64 wt, ks, es] 39 (0, 0)) ∧
    (said2 w er a b wt ks es ks' es').heap[w.heap.size + 1]? = some (.cells #[.int .u8 er, kI a, kI b, .int .i64 wt, ks', es'] 41 (0, 0)) :=
  ⟨alloc_heap (heap_alloc w _).1 _, two_new w _ _⟩

def SR (w0 : World) (n : Nat) (k : Nat) (x : Value) (wr : World) : Prop := ∃ i : Nat, x = .int .i64 i ∧ i + k = n ∧ Ext No w0 wr

set_option maxRecDepth 100000 in
set_option maxHeartbeats 2000000 in
theorem same_run {w : World} {er a b wt : Int} {ks es ks' es' : Value} {K : List Int} {E : List Tri} (hk : RdS w ks K oneC) (he : RdS w es E triC) (hk' : RdS w ks' K oneC) (he' : RdS w es' E triC) (hK : K.length < 1099511627776) (hE : E.length < 1099511627776) :
    Calls Tryz.prog 16 #[saidV er a b wt ks es, saidV er a b wt ks' es'] w (Trues w) := by
  obtain ⟨q1, d1, rfl⟩ := hk.form
  obtain ⟨q2, d2, rfl⟩ := he.form
  obtain ⟨q3, d3, rfl⟩ := hk'.form
  obtain ⟨q4, d4, rfl⟩ := he'.form
  have e0 : Ext No w (said2 w er a b wt (.slice q1 K.length d1) (.slice q2 E.length d2) (.slice q3 K.length d3) (.slice q4 E.length d4)) := ((Ext.refl No w).alloc _).alloc _
  have HR := Lib.hid (And.intro hk (And.intro he (And.intro hk' (And.intro he' (And.intro hK (And.intro hE (And.intro e0 (said2_rows w er a b wt (.slice q1 K.length d1) (.slice q2 E.length d2) (.slice q3 K.length d3) (.slice q4 E.length d4)))))))))
  clear hk he hk' he' hK hE e0
  go_enter Tryz.func16, Tryz.ntmps16
  go_wp2_with fail
  try go_frame
  go_loopg [56] K.length (fun k x wr => SR (said2 w er a b wt (.slice q1 K.length d1) (.slice q2 E.length d2) (.slice q3 K.length d3) (.slice q4 E.length d4)) K.length k x wr)
  case atStart => exact ⟨0, rfl, by simp, Ext.refl _ _⟩
  case round =>
    obtain ⟨i, rfl, hk, he⟩ := hrel
    have HE := Lib.hid he
    have HK := Lib.hid hk
    clear he hk
    obtain ⟨x0, x1, x2, x3, x4, x5, -⟩ := cells6 (HE.out.obj HR.out.2.2.2.2.2.2.2.1 id)
    obtain ⟨y0, y1, y2, y3, y4, y5, -⟩ := cells6 (HE.out.obj HR.out.2.2.2.2.2.2.2.2 id)
    have lx := World.block_lt_of_cell? _ _ x0
    have ly := World.block_lt_of_cell? _ _ y0
    by_cases hlt : i < K.length
    · obtain ⟨g, rfl, hg, hc⟩ := RdS.at (f := oneC) (size := 1) (fun _ => rfl) (HR.out.1.ext (HR.out.2.2.2.2.2.2.1.trans HE.out) (fun _ _ h => h)) hlt
      obtain ⟨g', rfl, hg', hc'⟩ := RdS.at (f := oneC) (size := 1) (fun _ => rfl) (HR.out.2.2.1.ext (HR.out.2.2.2.2.2.2.1.trans HE.out) (fun _ _ h => h)) hlt
      have hlt' : (i : Int) < (K.length : Int) := by omega
      have c0 : wr.cell? ⟨g, i, none⟩ = some (kI (K[i]'hlt)) := by have := hc 0 (by decide); simpa using this
      have c0' : wr.cell? ⟨g', i, none⟩ = some (kI (K[i]'hlt)) := by have := hc' 0 (by decide); simpa using this
      clear hc hc' x0 x1 x2 x3 x4 x5 y0 y1 y2 y3 y5 lx
      go_wp2
      go_roundg (K.length - (i + 1))
      case measure => have := HK.out; omega
      case rel => exact ⟨i + 1, by rw [w64L (by have := HR.out.2.2.2.2.1; omega)], by omega, HE.out⟩
    · have hnlt : ¬ (i : Int) < (K.length : Int) := by omega
      clear x0 x1 x2 x3 x4 y0 y1 y2 y3 y4 y5 ly
      go_wp2_with fail
      try go_frame
      clear x5 lx
      go_loopg [72] E.length (fun k x wr => SR (said2 w er a b wt (.slice q1 K.length d1) (.slice q2 E.length d2) (.slice q3 K.length d3) (.slice q4 E.length d4)) E.length k x wr)
      case atStart => exact ⟨0, rfl, by simp, HE.out⟩
      case round =>
        obtain ⟨j, rfl, hk, he⟩ := hrel
        have HE2 := Lib.hid he
        have HK2 := Lib.hid hk
        clear he hk
        obtain ⟨y0, y1, y2, y3, y4, y5, -⟩ := cells6 (HE2.out.obj HR.out.2.2.2.2.2.2.2.2 id)
        have ly := World.block_lt_of_cell? _ _ y0
        by_cases hltE : j < E.length
        · obtain ⟨g, rfl, hg, hc⟩ := RdS.at (f := triC) (size := 3) (fun _ => rfl) (HR.out.2.1.ext (HR.out.2.2.2.2.2.2.1.trans HE2.out) (fun _ _ h => h)) hltE
          obtain ⟨g', rfl, hg', hc'⟩ := RdS.at (f := triC) (size := 3) (fun _ => rfl) (HR.out.2.2.2.1.ext (HR.out.2.2.2.2.2.2.1.trans HE2.out) (fun _ _ h => h)) hltE
          have hlt' : (j : Int) < (E.length : Int) := by omega
          have hpos : (0 : Int) ≤ (j : Int) := by omega
          generalize hx : E[j]'hltE = e at hc hc'
          have c0 : wr.cell? ⟨g, j * 3, none⟩ = some (kI e.1) := hc 0 (by decide)
          have c1 : wr.cell? ⟨g, j * 3 + 1, none⟩ = some (kI e.2.1) := hc 1 (by decide)
          have c2 : wr.cell? ⟨g, j * 3 + 2, none⟩ = some (.int .i64 e.2.2) := hc 2 (by decide)
          have b0 : wr.cell? ⟨g', j * 3, none⟩ = some (kI e.1) := hc' 0 (by decide)
          have b1 : wr.cell? ⟨g', j * 3 + 1, none⟩ = some (kI e.2.1) := hc' 1 (by decide)
          have b2 : wr.cell? ⟨g', j * 3 + 2, none⟩ = some (.int .i64 e.2.2) := hc' 2 (by decide)
          clear hc hc' y0 y1 y2 y3 y4 hx
          go_wp2
          go_quiet (fail)
          go_wp2
          go_roundg (E.length - (j + 1))
          case measure => have := HK2.out; omega
          case rel => exact ⟨j + 1, by rw [w64L (by have := HR.out.2.2.2.2.2.1; omega)], by omega, (HE2.out.alloc _).drewN _⟩
        · have hnltE : ¬ (j : Int) < (E.length : Int) := by omega
          go_wp2
          go_ret
          exact ⟨rfl, HR.out.2.2.2.2.2.2.1.trans HE2.out⟩
end Go.Proofs.YtcenebjdhbdejaaGreatDoor
namespace Go.Proofs.YtcenebjdhbdejaaGreatDoor
open Go.MapKept

theorem said41 {w1 : World} {n : Nat} (h : w1.heap[n]? = some said0s) (er a b wt : Int) (ks es : Value) :
    ((((((w1.setCell ⟨n, 0, none⟩ (.int .u8 er)).setCell ⟨n, 1, none⟩ (.int .i64 a)).setCell ⟨n, 2, none⟩ (.int .i64 b)).setCell ⟨n, 3, none⟩ (.int .i64 wt)).setCell ⟨n, 4, none⟩ ks).setCell ⟨n, 5, none⟩ es).heap[n]? = some (.cells #[.int .u8 er, kI a, kI b, .int .i64 wt, ks, es] 41 (0, 0)) := set6 h _ _ _ _ _ _

set_option maxRecDepth 100000 in
set_option maxHeartbeats 1000000 in
theorem all_run {w : World} {N mm : Nat} {dir prev : Bool} {s : PS} {vs es : Value} (h : Mo w N mm dir prev s vs es) (hN : N ≤ w.heap.size) (hl : s.V.length + s.E.length < 300000) :
    Calls Tryz.prog 17 #[.pointer (some ⟨mm, 0, none⟩)] w (DoPost dir prev N mm (DoBM dir false s) w) := by
  have HM := Lib.hid (And.intro h (And.intro hN hl))
  clear h hN hl
  go_enter Tryz.func17, Tryz.ntmps17
  go_wp2_with fail
  have e0 : Ext No w (w.alloc said0s) := (Ext.refl No w).alloc _
  refine (do_am (a := 0) (b := 0) (wt := 0) (HM.out.1.no e0) (Nat.le_trans HM.out.2.1 e0.size) HM.out.2.2).mono ?_
  rintro r1 w1 ⟨s', sp, vs', es', ks, xs, rfl, hD, hM, hk, hx, he⟩
  obtain ⟨q1, c1, rfl, -⟩ := own_read (f := oneC) (fun _ => rfl) hk
  obtain ⟨q2, c2, rfl, -⟩ := own_read (f := triC) (fun _ => rfl) hx
  have hmm := HM.out.1.lt' HM.out.2.1
  have r0 : w1.heap[w.heap.size]? = some said0s := he.obj (heap_alloc w _).1 (by omega)
  have HR := Lib.hid (And.intro hD (And.intro hM (And.intro hk (And.intro hx (And.intro he (And.intro r0 hmm))))))
  clear hD hM hk hx he hmm e0
  obtain ⟨y0, y1, y2, y3, y4, y5, g0, g1, g2, g3, g4, g5⟩ := cells6 r0
  have ly := World.block_lt_of_cell? _ _ y0
  clear r0
  go_wp2
  refine bodyPost_ret (v := saidV sp.er sp.a sp.b sp.w (.slice q1 sp.ks.length c1) (.slice q2 sp.es.length c2)) ?hr rfl ?hR
  case hr => exact results_cell1 (fn := Tryz.f17) (g := w.heap.size) (p := 2) (ty := 41) rfl rfl (said41 HR.out.2.2.2.2.2.1 _ _ _ _ _ _) Tryz.underlying41 rfl sz41
  case hR =>
    obtain ⟨hD, hM, hk, hx, he, r0, hmm⟩ := HR.out
    have e7 := (Ext.refl (fun c => c = w.heap.size) w1).set6 (b := w.heap.size) rfl (.int .u8 sp.er) (.int .i64 sp.a) (.int .i64 sp.b) (.int .i64 sp.w) (.slice q1 sp.ks.length c1) (.slice q2 sp.es.length c2)
    refine ⟨s', sp, vs', es', _, _, rfl, hD, hM.ext e7 (fun e => by omega) (fun c hc e => row_ne r0 hM.V (by decide) (by rw [hc, e])) (fun c hc e => row_ne r0 hM.E (by decide) (by rw [hc, e])), ?_, ?_, ?_⟩
    · exact ownsRow_low (ownsRow_ext hk e7 (fun c hc e => row_ne r0 hk (by decide) (by rw [hc, e]))) (by simp)
    · exact ownsRow_low (ownsRow_ext hx e7 (fun c hc e => row_ne r0 hx (by decide) (by rw [hc, e]))) (by simp)
    · exact (((Ext.refl No w).alloc said0s).no.trans he).then e7 (fun c hc e => by omega)
end Go.Proofs.YtcenebjdhbdejaaGreatDoor
