/- The store's CreatesCycle, walked: does the end of an edge lead to its beginning already? -/
import Derived.Test.YtcenebjdhbdejaaGreatDoorB45
import Derived.Test.YtcenebjdhbdejaaGreatDoorB02
import Derived.Test.YtcenebjdhbdejaaGreatDoorB27
import Derived.Laws.IdiomRangeMap
namespace Go.Proofs.YtcenebjdhbdejaaGreatDoor
open Go.MapKept

theorem U238 : Tryz.prog.underlying 238 = some (.map 2 235) := by kernel_rfl
theorem Z235 (w : World) : (zeroValue 235).run Tryz.prog w = .ok (.agg #[]) w := by kernel_rfl
theorem sz2' (w : World) : (sizeOf 2).run Tryz.prog w = .ok 1 w := by kernel_rfl
theorem el26 : Tryz.prog.elem 26 = 2 := by kernel_rfl
theorem sl26_head (q : Option Addr) {n cap k : Nat} (hk : k ≤ cap) (W : World) :
    (Instr.slice 26 (.slice q n cap) none (some (.int .i64 k)) none).run Tryz.prog W = .ok (.slice q k cap) W := by
  rw [run_slice_h W 26 _ _ _ (by rw [el26]; exact U26) .i64 _ (by omega) (by omega), el26, sz2']
  have h0 : q.map (fun x => x.add 0) = q := by cases q <;> simp [Addr.add]
  simp [Result.andThen, sliced, h0]

theorem wpL_rangeN {P : Program} {ops : Array Oper} {rest : List Oper} {o : Oper} {a : Act} {w : World} {Q : Exit → Act → World → Prop}
    (hg : o.guard = none) {T K E : TypeId} {mo : Operand} (hop : o.op = .range T mo) (hT : P.underlying T = some (.map K E)) (hm : a.eval mo = .map none)
    (h : wpList P ops Q rest (a.put o.dst (.pointer (some ⟨w.heap.size, 0, none⟩))) (w.alloc (.mapIter none 0 #[] 0))) : wpList P ops Q (o :: rest) a w := by
  refine wpList_plain hg fun K' hK' => ?_
  have hr := run_range_nilMap (P := P) w T K E hT
  unfold Oper.wp execOp
  simp only [hop, hm, hr, Sem.run_bind, Result.andThen]
  exact hK' _ _ h

/-- What CreatesCycle leaves. -/
def CyPost (σ : St) (a b : Int) (w : World) (r : Ending) (w' : World) : Prop :=
  ∃ c : Bool, r = .returned (.tuple #[.bool c, .nilIface]) ∧ (c = true ↔ RE (σ.E.map EdgeR.tri) b a) ∧ Ext No w w'

/-- the map of what was seen -/
abbrev visM (S : List Int) : List (Int × Value) := S.map fun x => (x, .agg #[])
theorem vis_in {S : List Int} {x : Int} (h : x ∈ S) : (visM S).lookup x = some (.agg #[]) := by
  induction S with
  | nil => cases h
  | cons y S ih =>
    by_cases e : x = y
    · subst e; simp
    · have : (x == y) = false := by simpa using e
      simp only [List.map_cons, List.lookup, this]
      exact ih (by rcases List.mem_cons.1 h with h | h; exact absurd h e; exact h)
theorem vis_out {S : List Int} {x : Int} (h : x ∉ S) : (visM S).lookup x = none := by
  induction S with
  | nil => rfl
  | cons y S ih =>
    rw [List.mem_cons, not_or] at h
    have : (x == y) = false := by simpa using h.1
    simp only [List.map_cons, List.lookup, this]
    exact ih h.2

theorem own_pop {w : World} {B : Nat} {v : Value} {T : List Int} {x : Int} (h : w.ownsRow B 2 1 v (T ++ [x]).length ((T ++ [x]).flatMap fun x => [kI x])) :
    ∃ g cap, v = .slice (some ⟨g, 0, none⟩) (T.length + 1) cap ∧ T.length + 1 ≤ cap ∧ g < w.heap.size ∧ w.cell? ⟨g, T.length, none⟩ = some (kI x) ∧ w.ownsRow B 2 1 (.slice (some ⟨g, 0, none⟩) T.length cap) T.length (T.flatMap fun x => [kI x]) := by
  have hl : (T ++ [x]).length = T.length + 1 := by simp
  obtain ⟨q, cap, rfl, hr⟩ := own_read (f := fun x : Int => [kI x]) (fun _ => rfl) h
  obtain ⟨g, rfl, hg, hc⟩ := hr T.length (by rw [hl]; omega)
  have ht := own_take (f := fun x : Int => [kI x]) (fun _ => rfl) h (i := T.length) (by rw [hl]; omega)
  rw [List.take_left] at ht
  have hcap : T.length + 1 ≤ cap := by
    rcases h.2 with ⟨h0, -⟩ | ⟨g', cap', cur, hv, -, -, hnc, -⟩
    · simp only [Value.slice.injEq] at h0; cases h0.1
    · simp only [Value.slice.injEq] at hv; omega
  refine ⟨g, cap, by rw [hl], hcap, hg, ?_, ht⟩
  have := hc 0 (by decide)
  simpa using this

/-- behind the marking of one -/
structure VisStep (w : World) (A : Ad) (σ : St) (mb : Nat) (S T : List Int) (v : Value) (w8 : World) : Prop where
  M : MapI kI w8 mb (visM S)
  own : w8.ownsRow w.heap.size 2 1 v T.length (T.flatMap fun x => [kI x])
  st : Store w8 A σ
  he : Ext No w w8
theorem VisStep.of {w W w8 : World} {A : Ad} {σ : St} {mb : Nat} {S T : List Int} {x : Int} {v : Value} (hM : MapI kI W mb (visM S)) (ho : W.ownsRow w.heap.size 2 1 v T.length (T.flatMap fun x => [kI x])) (he : Ext No w W) (hb : w.heap.size ≤ mb) (l1 : (visM S).lookup x = none)
    (hM8 : MapI kI w8 mb (setA x (.agg #[]) (visM S))) (hon : Only mb W w8) (hst : Store w A σ) : VisStep w A σ mb (S ++ [x]) T v w8 := by
  have he8 : Ext (fun c => c = mb) W w8 := (Ext.refl _ W).only hon (fun _ => rfl)
  have heW : Ext No w w8 := he.then he8 (fun c hc e => by omega)
  refine ⟨?_, ownsRow_ext ho he8 (fun c hc e => hM.not_row ho (by rw [hc, e])), hst.ext heW (fun _ _ h => h), heW⟩
  rw [setA_new l1] at hM8
  simpa [visM] using hM8

/-- a round of the search -/
def CC (w : World) (σ : St) (a b : Int) (mb : Nat) (k : Nat) (v : Value) (wr : World) : Prop :=
  ∃ S T : List Int, k = 1001 * (1000 - S.length) + T.length ∧ MapI kI wr mb (visM S) ∧ wr.ownsRow w.heap.size 2 1 v T.length (T.flatMap fun x => [kI x]) ∧ Ext No w wr ∧ Back σ.E (σ.V.map (·.1)) a b S T

/-- a round over those ahead of one -/
def CC2 (w : World) (σ : St) (x : Int) (mb r2 n : Nat) (S T : List Int) (k : Nat) (v : Value) (wr : World) : Prop :=
  ∃ (dn lf : List EdgeR) (cur : Option (Int × Value)), lf.length = k ∧ (dn ++ lf).Perm (σ.E.filter fun e => e.dst == x) ∧ IterI kI wr r2 n (inOf σ.E x) (lf.map fun e => (e.src, e.val)) cur ∧ MapI kI wr mb (visM S) ∧
    wr.ownsRow w.heap.size 2 1 v (T ++ dn.map (·.src)).length ((T ++ dn.map (·.src)).flatMap fun x => [kI x]) ∧ Ext No w wr

set_option maxRecDepth 100000 in
set_option maxHeartbeats 2000000 in
theorem createsCycle_run {w : World} {A : Ad} {σ : St} {a b : Int} (h : Store w A σ) (ha : ∃ n, (a, n) ∈ σ.V) (hb : ∃ n, (b, n) ∈ σ.V) (hV : σ.V.length ≤ 500) (hE : σ.E.length ≤ 1000) :
    Calls Tryz.prog 146 #[.pointer (some ⟨A.s, 0, none⟩), kI a, kI b] w (CyPost σ a b w) := by
  obtain ⟨na, ha⟩ := ha
  obtain ⟨nb, hb⟩ := hb
  have HG := Lib.hid (And.intro h (And.intro ha (And.intro hb (And.intro hV hE))))
  clear h ha hb hV hE
  go_enter Tryz.func146, Tryz.ntmps146
  go_wp2_with fail
  refine (vertex_yes HG.out.1 HG.out.2.1).mono ?_
  rintro r1 w1 ⟨rfl, h1⟩
  have H1 := Lib.hid h1
  clear h1
  go_wp2_with fail
  have HE1 : RowKit.Hid (Ext No w (w1.alloc (.cells #[.map (some na), .int .i64 0] 213))) := Lib.hid (H1.out.alloc _)
  refine (vertex_yes (HG.out.1.ext HE1.out (fun _ _ h => h)) HG.out.2.2.1).mono ?_
  rintro r2 w2 ⟨rfl, h2⟩
  have HE2 := Lib.hid (HE1.out.trans h2)
  clear h2
  by_cases hab : a = b
  · subst hab
    go_wp2
    go_ret2
    exact ⟨true, rfl, ⟨fun _ => RE.refl _, fun _ => rfl⟩, HE2.out.alloc _⟩
  · have habb : (a == b) = false := by simpa using hab
    clear hab
    go_upto_region 9 with (fail)
    have HE3 : RowKit.Hid (Ext No w (w2.alloc (.cells #[.map (some nb), .int .i64 0] 213))) := Lib.hid (HE2.out.alloc _)
    revert HE3
    generalize (w2.alloc (.cells #[.map (some nb), .int .i64 0] 213)) = W3
    intro HE3
    have hs3 := HE3.out.size
    have hmm := makeMapR Tryz.prog
    go_wp2_with (first | (at_make; (refine wpL_make0 rfl rfl U26 I2 rfl (n := 0) rfl (by decide) (by decide) hs3 ?_); intro w4 ho4 he4; have ho5 := (ho4.alloc (.map #[] 0)).alloc (.cells #[kI a] 2); have hs5 : w.heap.size ≤ ((w4.alloc (.map #[] 0)).alloc (.cells #[kI a] 2)).heap.size := Nat.le_trans (Nat.le_trans hs3 he4.size) (by simp; omega)) | (at_builtin; (refine wpL_append1 rfl rfl U26 I2 rfl (by decide) (by decide) (f := fun x : Int => [kI x]) (xs := []) (fun _ => rfl) (fun _ _ h => by simp at h; subst h; rfl) rfl ho5 a rfl ⟨2, (0, 0), two_new _ _ _⟩ (by decide) hs5 ?_); intro v6 w6 ho6 he6 hb6))
    have hnr : (Value.slice (some ⟨W3.heap.size, 0, none⟩) 0 0).ownBlock ≠ some w4.heap.size := (((MapI.empty (kv := kI) (heap_alloc w4 (.map #[] 0)).1).alloc (.cells #[kI a] 2))).not_row ho5
    have hM6 : MapI kI w6 w4.heap.size (visM []) := ((MapI.empty (kv := kI) (heap_alloc w4 (.map #[] 0)).1).alloc (.cells #[kI a] 2)).ext he6 (fun e => hnr e.symm)
    have hE6 : Ext No w w6 := (((HE3.out.trans he4).alloc _).alloc _).then he6 (fun c hc e => by have := (ho5.lt c e.symm).1; omega)
    have hb0 : w.heap.size ≤ w4.heap.size := Nat.le_trans hs3 he4.size
    have H6 := Lib.hid (And.intro hM6 (And.intro ho6 hE6))
    clear hM6 hE6 ho4 ho5 ho6 he4 he6 hb6 hs5 hnr hs3
    generalize w4.heap.size = mb at H6 hb0 ⊢
    try go_frame
    go_loopg [14] (1001 * 1000 + 1) (fun k v wr => CC w σ a b mb k v wr)
    case atStart => exact ⟨[], [a], rfl, H6.out.1, H6.out.2.1, H6.out.2.2, Back.start (List.mem_map.2 ⟨_, HG.out.2.1, rfl⟩)⟩
    case round =>
      obtain ⟨S, T, hk, hM, ho, he, hI⟩ := hrel
      rcases List.eq_nil_or_concat T with rfl | ⟨T', x, hTc⟩
      · obtain ⟨q, cap, rfl, -⟩ := own_read (f := fun x : Int => [kI x]) (fun _ => rfl) ho
        have HI := Lib.hid (And.intro hI he)
        clear hk hM ho he hI
        go_wp2
        go_ret2
        exact ⟨false, rfl, ⟨(fun h => by cases h), fun h => absurd h HI.out.1.done⟩, HI.out.2⟩
      · rw [List.concat_eq_append] at hTc
        subst hTc
        obtain ⟨g, cap, rfl, hcap, hg, hx, hop⟩ := own_pop ho
        have hpos : (0 : Int) < (T'.length : Int) + 1 := by omega
        have hpos0 : (0 : Int) ≤ (T'.length : Int) := by omega
        have hltI : (T'.length : Int) < (T'.length : Int) + 1 := by omega
        have hTl : T'.length ≤ 600000 := by have h1 := hI.len; have h2 := hI.size (by rw [List.length_map]; exact HG.out.2.2.2.1); simp at h1; omega
        have hwr : IntKind.i64.wrap (T'.length : Int) = (T'.length : Int) := IntWalk.i64_in (T'.length : Int) (by omega)
        have hsl := sl26_head (some ⟨g, 0, none⟩) (n := T'.length + 1) (cap := cap) (k := T'.length) (by omega)
        have hSz := hI.size (by rw [List.length_map]; exact HG.out.2.2.2.1)
        have hM7 := hM.alloc (.cells #[] 235)
        have ho7 := hop.alloc (.cells #[] 235)
        have he7 := he.alloc (.cells #[] 235)
        have HK := Lib.hid (And.intro hk (And.intro hI (And.intro ho7 (And.intro he7 (And.intro hM7 (And.intro hSz hTl))))))
        clear hk hI ho he hop hSz hTl
        by_cases hxS : x ∈ S
        · have l1 := vis_in hxS
          have HxS := Lib.hid hxS
          clear hxS
          go_wp2_with (first | (at_lookup; (refine wpL_lookup_ok rfl rfl U238 K2 Z235 rfl rfl hM ?_); rw [l1]))
          go_roundg (1001 * (1000 - S.length) + T'.length)
          case measure => have := HK.out.1; simp at this; omega
          case rel => exact ⟨S, T', rfl, HK.out.2.2.2.2.1, HK.out.2.2.1, HK.out.2.2.2.1, HK.out.2.1.seen HxS.out⟩
        · have l1 := vis_out hxS
          have HxS := Lib.hid hxS
          clear hxS
          by_cases hxb : x = b
          · subst hxb
            go_wp2_with (first | (at_lookup; (refine wpL_lookup_ok rfl rfl U238 K2 Z235 rfl rfl hM ?_); rw [l1]))
            go_ret2
            exact ⟨true, rfl, ⟨fun _ => HK.out.2.1.reach _ (by simp), fun _ => rfl⟩, HK.out.2.2.2.1⟩
          · have hxbb : (x == b) = false := by simpa using hxb
            have HxB := Lib.hid hxb
            clear hxb
            by_cases hi : ∃ n, (x, n) ∈ σ.I
            · obtain ⟨n, hi⟩ := hi
              have l2 := lookup_mem (f := fun o => Value.map (some o.2)) HG.out.1.ikeys hi
              have HI := Lib.hid hi
              clear hi
              go_wp2_with (first | (at_lookup; (refine wpL_lookup_ok rfl rfl U238 K2 Z235 rfl rfl hM ?_); rw [l1]) | (at_mapUpdate; (refine wpL_mapUpdate rfl rfl U238 K2 rfl rfl (.agg #[]) rfl hM7 ?_); intro w8 hM8 hon8; have hs8 := VisStep.of hM7 ho7 he7 hb0 l1 hM8 hon8 HG.out.1; have hM9 := hs8.M; have c38 := hs8.st.c3; have hl8 := hs8.st.lt; have hi8 := hs8.st.im; have HS8 := Lib.hid hs8; have hin8 := hs8.st.ins _ HI.out; clear hM8 hon8 hs8) | (at_lookup; (refine wpL_lookup rfl rfl U105 K2 Z107 rfl rfl hi8 ?_); rw [l2]) | (at_range; (refine wpL_range rfl rfl U107 rfl hin8 ?_); intro w9 hI9 hs9 he9))
              have H9 := Lib.hid (And.intro (HS8.out.M.ext he9 (fun h => h)) (And.intro (ownsRow_ext HS8.out.own he9 (fun _ _ h => h)) (And.intro (HS8.out.he.trans he9) HS8.out.M.lt)))
              clear hM9 c38 hl8 hi8 hin8 he9 hM7 ho7 he7 l1 l2 hM
              try go_frame
              go_loopg [14] (σ.E.filter fun e => e.dst == x).length (fun k v wq => CC2 w σ x mb w8.heap.size n (S ++ [x]) T' k v wq)
              case atStart => exact ⟨[], σ.E.filter (fun e => e.dst == x), none, rfl, by simp, hI9, H9.out.1, by simpa using H9.out.2.1, H9.out.2.2.1⟩
              case round =>
                obtain ⟨dn, lf, cur, hl2, hperm2, hI2, hM2, ho2, he2⟩ := hrel
                have hnr2 := (hI2.not_row ho2).1
                have hdn : dn.length ≤ 1000 := by
                  have h1 := hperm2.length_eq
                  have h2 := List.length_filter_le (fun e : EdgeR => e.dst == x) σ.E
                  have h3 := HG.out.2.2.2.2
                  simp only [List.length_append] at h1
                  omega
                have hdl : (T' ++ dn.map (·.src)).length < 1000000 := by
                  have := HK.out.2.2.2.2.2.2
                  simp only [List.length_append, List.length_map]
                  omega
                have HL2 := Lib.hid (And.intro hl2 hdn)
                clear hl2 hI9 hdn
                go_wp2_with (first | (at_next; (refine wpL_nextM (g := fun e : EdgeR => (e.src, e.val)) rfl rfl rfl hI2 ?_ ?_); intro h0; rotate_left; intro k1 e k2 wm h2 hIm hsm hem hEm; have HS2 := Lib.hid hsm; clear hsm; have hon := (ownsRow_ext ho2 hem (fun c hc e => hnr2 (e ▸ hc))).alloc (.cells #[kI e.src] 2); have hEn := (he2.then hem (T := fun c => c = w8.heap.size) (fun c hc e => by have := HS8.out.he.size; omega)).alloc (.cells #[kI e.src] 2); rotate_left) | (at_builtin; (refine wpL_append1 rfl rfl U26 I2 rfl (by decide) (by decide) (f := fun x : Int => [kI x]) (xs := T' ++ dn.map (·.src)) (fun _ => rfl) (fun _ _ h => by simp at h; subst h; rfl) rfl hon e.src rfl ⟨2, (0, 0), (heap_alloc wm _).1⟩ hdl hEn.size ?_); intro v' wa hoa hea hba))
                · subst h0
                  go_roundg (1001 * (1000 - (S ++ [x]).length) + (T' ++ dn.map (·.src)).length)
                  case measure =>
                    have h1 := HK.out.1
                    have h2 := HL2.out.2
                    have h3 := HK.out.2.2.2.2.2.1
                    simp only [List.length_append, List.length_map, List.length_singleton] at h1 ⊢
                    omega
                  case rel => exact ⟨S ++ [x], T' ++ dn.map (·.src), rfl, hM2, ho2, he2, HK.out.2.1.next HxS.out HxB.out (by simpa using hperm2) HG.out.2.2.2.2 (fun e he => (HG.out.1.ends e he).1.elim fun n hn => List.mem_map.2 ⟨_, hn, rfl⟩)⟩
                · go_roundg (k1 ++ k2).length
                  case measure => have hl := HL2.out.1; rw [h2] at hl; simp at hl ⊢; omega
                  case rel =>
                    have hms := ho2
                    have hMm := (hM2.ext hem (fun e => by have := H9.out.2.2.2; omega)).alloc (.cells #[kI e.src] 2)
                    refine ⟨dn ++ [e], k1 ++ k2, _, rfl, ?_, (hIm.ext ((Ext.refl No wm).alloc (.cells #[kI e.src] 2)) id id).row hon hea, hMm.ext hea (fun h => hMm.not_row hon h.symm), ?_, hEn.then hea (fun c hc e => ?_)⟩
                    · rw [h2] at hperm2
                      refine List.Perm.trans ?_ hperm2
                      simp only [List.append_assoc, List.singleton_append]
                      exact List.Perm.append_left _ List.perm_middle.symm
                    · have : T' ++ (dn ++ [e]).map (·.src) = (T' ++ dn.map (·.src)) ++ [e.src] := by simp
                      rw [this]; exact hoa
                    · have := (ho2.lt c e.symm).1; omega
            · have l2 := lookup_not (f := fun o => Value.map (some o.2)) (fun n h => hi ⟨n, h⟩)
              have HI := Lib.hid hi
              clear hi
              go_wp2_with (first | (at_lookup; (refine wpL_lookup_ok rfl rfl U238 K2 Z235 rfl rfl hM ?_); rw [l1]) | (at_mapUpdate; (refine wpL_mapUpdate rfl rfl U238 K2 rfl rfl (.agg #[]) rfl hM7 ?_); intro w8 hM8 hon8; have hs8 := VisStep.of hM7 ho7 he7 hb0 l1 hM8 hon8 HG.out.1; have hM9 := hs8.M; have c38 := hs8.st.c3; have hl8 := hs8.st.lt; have hi8 := hs8.st.im; have HS8 := Lib.hid hs8; clear hM8 hon8 hs8) | (at_lookup; (refine wpL_lookup rfl rfl U105 K2 Z107 rfl rfl hi8 ?_); rw [l2]) | (at_range; refine wpL_rangeN rfl rfl U107 rfl ?_))
              have hnx : ∀ ty, (Instr.next (.pointer (some ⟨w8.heap.size, 0, none⟩)) false ty).run Tryz.prog (w8.alloc (.mapIter none 0 #[] 0)) = .ok (.tuple #[.bool false]) (w8.alloc (.mapIter none 0 #[] 0)) := fun ty => run_next_nilMap w8 ty 0 0 #[]
              clear hM9 c38 hl8 hi8 hM7 ho7 he7 l1 l2 hM
              refine wp_loop_rounds 1 ?_
              rw [rounds_succ]
              go_wp2
              go_roundg (1001 * (1000 - (S ++ [x]).length) + T'.length)
              case measure =>
                have h1 := HK.out.1
                have h3 := HK.out.2.2.2.2.2.1
                simp only [List.length_append, List.length_singleton] at h1 ⊢
                omega
              case rel =>
                have hnil : σ.E.filter (fun e => e.dst == x) = [] := by
                  rw [List.filter_eq_nil_iff]
                  intro e he hd
                  obtain ⟨n, hn⟩ := HG.out.1.ink e he
                  have : e.dst = x := by simpa using hd
                  exact HI.out ⟨n, this ▸ hn⟩
                have hb := HK.out.2.1.next (l := []) HxS.out HxB.out (by rw [hnil]) HG.out.2.2.2.2 (fun e he => (HG.out.1.ends e he).1.elim fun n hn => List.mem_map.2 ⟨_, hn, rfl⟩)
                exact ⟨S ++ [x], T', rfl, HS8.out.M.alloc _, HS8.out.own.alloc _, HS8.out.he.alloc _, by simpa using hb⟩
end Go.Proofs.YtcenebjdhbdejaaGreatDoor
