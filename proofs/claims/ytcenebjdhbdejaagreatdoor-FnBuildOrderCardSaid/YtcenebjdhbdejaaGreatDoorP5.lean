/- The graph as lists, in the program: Both, walked. -/
import Derived.Test.YtcenebjdhbdejaaGreatDoorP4
namespace Go.Proofs.YtcenebjdhbdejaaGreatDoor
open Go.MapKept Go.Sort

/-- what Both makes of an edge -/
def bothL (dir back : Bool) (e : Tri) : List Tri := (if !back || !dir then [e] else []) ++ (if (back && dir) || (!dir && e.1 != e.2.1) then [revT e] else [])

theorem bothL_len (dir back : Bool) (e : Tri) : (bothL dir back e).length ≤ 2 := by
  unfold bothL; cases dir <;> cases back <;> simp <;> split <;> simp
theorem bothAll_len (dir back : Bool) : ∀ (E : List Tri), (E.flatMap (bothL dir back)).length ≤ 2 * E.length
  | [] => by simp
  | e :: E => by
    have := bothAll_len dir back E
    have := bothL_len dir back e
    simp only [List.flatMap_cons, List.length_append, List.length_cons]
    omega

/-- a round of Both -/
def BO (w : World) (dir back : Bool) (E : List Tri) (k : Nat) (ov iv : Value) (wr : World) : Prop :=
  ∃ (i : Nat) (xs : List Tri), iv = .int .i64 i ∧ i + k = E.length ∧ xs = (E.take i).flatMap (bothL dir back) ∧ wr.ownsRow w.heap.size 48 3 ov xs.length (xs.flatMap triC) ∧ Ext No w wr

theorem alloc_n {W : World} {n : Nat} (h : W.heap.size = n) (o : Obj) : (W.alloc o).heap[n]? = some o := h ▸ (heap_alloc W o).1
theorem cells3 {w : World} {b : Nat} {e : Tri} {T : TypeId} (h : w.heap[b]? = some (.cells (triC e).toArray T (0, 0))) :
    w.cell? ⟨b, 0, none⟩ = some (kI e.1) ∧ w.cell? ⟨b, 1, none⟩ = some (kI e.2.1) ∧ w.cell? ⟨b, 2, none⟩ = some (.int .i64 e.2.2) := by
  simp [World.cell?, h]

/-- the world of a round behind the two variables -/
abbrev bw (w : World) (e : Tri) : World := (w.alloc (.cells (triC e).toArray 48)).alloc (.cells (triC (revT e)).toArray 48)

/-- behind an append in a round -/
structure BA (w : World) (N mm : Nat) (dir prev : Bool) (s : PS) (vs es : Value) (xs : List Tri) (v : Value) (n : Nat) (e : Tri) (wa : World) : Prop where
  M : Mo wa N mm dir prev s vs es
  r7 : wa.heap[n]? = some (.cells (triC e).toArray 48 (0, 0))
  r8 : wa.heap[n + 1]? = some (.cells (triC (revT e)).toArray 48 (0, 0))
  own : wa.ownsRow w.heap.size 48 3 v xs.length (xs.flatMap triC)
  he : Ext No w wa

theorem BA.start {w wr : World} {N mm : Nat} {dir prev : Bool} {s : PS} {vs es : Value} {xs : List Tri} {v : Value} {e : Tri} (h : Mo w N mm dir prev s vs es) (ho : wr.ownsRow w.heap.size 48 3 v xs.length (xs.flatMap triC)) (he : Ext No w wr) :
    BA w N mm dir prev s vs es xs v wr.heap.size e (bw wr e) := by
  have e1 : Ext No wr (bw wr e) := ((Ext.refl _ wr).alloc _).alloc _
  exact ⟨h.no (he.trans e1), alloc_heap (heap_alloc wr _).1 _, two_new wr _ _, ownsRow_ext ho e1 (fun _ _ h => h), he.trans e1⟩

theorem BA.next {w W wa : World} {N mm n : Nat} {dir prev : Bool} {s : PS} {vs es : Value} {xs ys : List Tri} {v v' : Value} {e : Tri} {o : Obj} (h : BA w N mm dir prev s vs es xs v n e W) (hn : w.heap.size ≤ n) (hv : ∀ c, v.ownBlock = some c → c < n) (hm : Mo w N mm dir prev s vs es)
    (ho : wa.ownsRow w.heap.size 48 3 v' ys.length (ys.flatMap triC)) (he : Ext (fun c => some c = v.ownBlock) (W.alloc o) wa) : BA w N mm dir prev s vs es ys v' n e wa := by
  have e1 : Ext No W (W.alloc o) := (Ext.refl _ W).alloc _
  have hb : ∀ c, some c = v.ownBlock → w.heap.size ≤ c ∧ c < n := fun c hc => ⟨(h.own.lt c hc.symm).1, hv c hc.symm⟩
  have e2 : Ext No w wa := (h.he.trans e1).then he (fun c hc e => by have := (hb c e).1; omega)
  exact ⟨hm.no e2, he.obj (e1.obj h.r7 id) (fun e => by have := (hb _ e).2; omega), he.obj (e1.obj h.r8 id) (fun e => by have := (hb _ e).2; omega), ho, e2⟩

set_option maxRecDepth 100000 in
set_option maxHeartbeats 2000000 in
theorem both_run {w : World} {N mm : Nat} {dir prev back : Bool} {s : PS} {vs es : Value} (h : Mo w N mm dir prev s vs es) (hl : s.E.length < 400000) :
    Calls Tryz.prog 21 #[.pointer (some ⟨mm, 0, none⟩), .bool back] w (EndsPost w (s.E.flatMap (bothL dir back))) := by
  obtain ⟨x0, x1, x2, x3, -⟩ := cells4 h.row
  have l0 := World.block_lt_of_cell? _ _ x0
  obtain ⟨q, cap, rfl, -⟩ := own_read (f := triC) (fun _ => rfl) h.E
  have HV := Lib.hid h
  have HL := Lib.hid hl
  clear h hl
  go_enter Tryz.func21, Tryz.ntmps21
  go_wp2_with fail
  clear x0 x1 x2 x3 l0
  try go_frame
  go_loopg [5, 14] s.E.length (fun k ov iv wr => BO w dir back s.E k ov iv wr)
  case atStart => exact ⟨0, [], rfl, by simp, by simp, nil_own, Ext.refl _ _⟩
  case round =>
    obtain ⟨i, xs, rfl, hk, hxs, ho, he⟩ := hrel
    by_cases hlt : i < s.E.length
    · have hM := HV.out.no he
      obtain ⟨x0, x1, x2, x3, -⟩ := cells4 hM.row
      have l0 := World.block_lt_of_cell? _ _ x0
      obtain ⟨g, rfl, hg, hc⟩ := own_at (f := triC) (fun _ => rfl) hM.E hlt
      have c0 : wr.cell? ⟨g, i * 3, none⟩ = some (kI (s.E[i]'hlt).1) := hc 0 (by decide)
      have c1 : wr.cell? ⟨g, i * 3 + 1, none⟩ = some (kI (s.E[i]'hlt).2.1) := hc 1 (by decide)
      have c2 : wr.cell? ⟨g, i * 3 + 2, none⟩ = some (.int .i64 (s.E[i]'hlt).2.2) := hc 2 (by decide)
      have hlt' : (i : Int) < (s.E.length : Int) := by omega
      have hxl : xs.length < 900000 := by
        have h1 := bothAll_len dir back (s.E.take i)
        have h2 := HL.out
        rw [← hxs, List.length_take] at h1
        omega
      obtain ⟨q2, cap2, rfl, -⟩ := own_read (f := triC) (fun _ => rfl) ho
      have HK := Lib.hid (And.intro hk (And.intro hxs (And.intro ho (And.intro he hxl))))
      clear hk hxs ho he hc hM hxl
      generalize hx : s.E[i]'hlt = e at c0 c1 c2
      have HX := Lib.hid hx
      clear hx
      have hcs : (e.1 == e.2.1) = true ∨ (e.1 == e.2.1) = false := by cases (e.1 == e.2.1) <;> simp
      have HB : RowKit.Hid (BA w N mm dir prev s vs (.slice (some ⟨g, 0, none⟩) s.E.length cap) xs (.slice q2 xs.length cap2) wr.heap.size e (bw wr e)) := Lib.hid (BA.start HV.out HK.out.2.2.1 HK.out.2.2.2.1)
      cases dir
      · rcases hcs with hcs | hcs
        · have hcn := congrArg not hcs
          cases back
          · go_wp2_with (at_builtin; (refine wpL_append1 (v := .slice q2 xs.length cap2) (xs := xs) (b := wr.heap.size + 2) rfl rfl U27 I48 rfl (by decide) (by decide) (f := triC) (fun _ => rfl) triC_one rfl (HB.out.own.alloc (.cells (triC e).toArray 48)) e rfl ⟨48, (0, 0), alloc_n (by simp) _⟩ (by have := HK.out.2.2.2.2; omega) (HB.out.he.alloc _).size ?_); intro v1 wa hoa hea hba; obtain ⟨q3, cap3, hv, -⟩ := own_read (f := triC) (fun _ => rfl) hoa; simp only [List.length_append, List.length_cons, List.length_nil, Nat.zero_add] at hv; subst hv; have HA := Lib.hid (HB.out.next HK.out.2.2.2.1.size (fun c hc => (HK.out.2.2.1.lt c hc).2) HV.out hoa hea); clear hoa hea hba; obtain ⟨x0, -, -, -, -⟩ := cells4 HA.out.M.row; obtain ⟨s0, s1, s2⟩ := cells3 HA.out.r7; obtain ⟨t0, t1, t2⟩ := cells3 HA.out.r8; have l0 := World.block_lt_of_cell? _ _ x0; have l1 := World.block_lt_of_cell? _ _ s0; have l2 := World.block_lt_of_cell? _ _ t0)
            go_roundg (s.E.length - (i + 1))
            case measure => have := HK.out.1; omega
            case rel =>
              obtain ⟨hk, hxs, ho, he, hxl⟩ := HK.out
              refine ⟨i + 1, xs ++ [e], by rw [w64 (by have := HL.out; omega)], by omega, ?_, HA.out.own, HA.out.he⟩
              rw [List.take_add_one, List.getElem?_eq_getElem hlt, List.flatMap_append, ← hxs, HX.out]
              simp [bothL, by simpa using hcs]
          · go_wp2_with (at_builtin; (refine wpL_append1 (v := .slice q2 xs.length cap2) (xs := xs) (b := wr.heap.size + 2) rfl rfl U27 I48 rfl (by decide) (by decide) (f := triC) (fun _ => rfl) triC_one rfl (HB.out.own.alloc (.cells (triC e).toArray 48)) e rfl ⟨48, (0, 0), alloc_n (by simp) _⟩ (by have := HK.out.2.2.2.2; omega) (HB.out.he.alloc _).size ?_); intro v1 wa hoa hea hba; obtain ⟨q3, cap3, hv, -⟩ := own_read (f := triC) (fun _ => rfl) hoa; simp only [List.length_append, List.length_cons, List.length_nil, Nat.zero_add] at hv; subst hv; have HA := Lib.hid (HB.out.next HK.out.2.2.2.1.size (fun c hc => (HK.out.2.2.1.lt c hc).2) HV.out hoa hea); clear hoa hea hba; obtain ⟨x0, -, -, -, -⟩ := cells4 HA.out.M.row; obtain ⟨s0, s1, s2⟩ := cells3 HA.out.r7; obtain ⟨t0, t1, t2⟩ := cells3 HA.out.r8; have l0 := World.block_lt_of_cell? _ _ x0; have l1 := World.block_lt_of_cell? _ _ s0; have l2 := World.block_lt_of_cell? _ _ t0)
            go_roundg (s.E.length - (i + 1))
            case measure => have := HK.out.1; omega
            case rel =>
              obtain ⟨hk, hxs, ho, he, hxl⟩ := HK.out
              refine ⟨i + 1, xs ++ [e], by rw [w64 (by have := HL.out; omega)], by omega, ?_, HA.out.own, HA.out.he⟩
              rw [List.take_add_one, List.getElem?_eq_getElem hlt, List.flatMap_append, ← hxs, HX.out]
              simp [bothL, by simpa using hcs]
        · have hcn := congrArg not hcs
          cases back
          · go_wp2_with (first | (at_builtin; (refine wpL_append1 (v := .slice q2 xs.length cap2) (xs := xs) (b := wr.heap.size + 2) rfl rfl U27 I48 rfl (by decide) (by decide) (f := triC) (fun _ => rfl) triC_one rfl (HB.out.own.alloc (.cells (triC e).toArray 48)) e rfl ⟨48, (0, 0), alloc_n (by simp) _⟩ (by have := HK.out.2.2.2.2; omega) (HB.out.he.alloc _).size ?_); intro v1 wa hoa hea hba; obtain ⟨q3, cap3, hv, -⟩ := own_read (f := triC) (fun _ => rfl) hoa; simp only [List.length_append, List.length_cons, List.length_nil, Nat.zero_add] at hv; subst hv; have HA := Lib.hid (HB.out.next HK.out.2.2.2.1.size (fun c hc => (HK.out.2.2.1.lt c hc).2) HV.out hoa hea); clear hoa hea hba; obtain ⟨x0, -, -, -, -⟩ := cells4 HA.out.M.row; obtain ⟨s0, s1, s2⟩ := cells3 HA.out.r7; obtain ⟨t0, t1, t2⟩ := cells3 HA.out.r8; have l0 := World.block_lt_of_cell? _ _ x0; have l1 := World.block_lt_of_cell? _ _ s0; have l2 := World.block_lt_of_cell? _ _ t0) | (at_builtin; (refine wpL_append1 (v := .slice q3 (xs.length + 1) cap3) (xs := xs ++ [e]) (b := wa.heap.size) rfl rfl U27 I48 rfl (by decide) (by decide) (f := triC) (fun _ => rfl) triC_one rfl (HA.out.own.alloc (.cells (triC (revT e)).toArray 48)) (revT e) rfl ⟨48, (0, 0), (heap_alloc wa _).1⟩ (by have := HK.out.2.2.2.2; simp; omega) (HA.out.he.alloc _).size ?_); intro v2 wb hob heb hbb; have HC := Lib.hid (And.intro hob (HA.out.he.then (S := No) (T := fun c => some c = (Value.slice q3 (xs.length + 1) cap3).ownBlock) ((Ext.refl _ _).alloc _ |>.no.trans heb) (fun c hc e => by have := (HA.out.own.lt c e.symm).1; omega))); clear hob heb hbb))
            go_roundg (s.E.length - (i + 1))
            case measure => have := HK.out.1; omega
            case rel =>
              obtain ⟨hk, hxs, ho, he, hxl⟩ := HK.out
              refine ⟨i + 1, xs ++ [e] ++ [revT e], by rw [w64 (by have := HL.out; omega)], by omega, ?_, HC.out.1, HC.out.2⟩
              rw [List.take_add_one, List.getElem?_eq_getElem hlt, List.flatMap_append, ← hxs, HX.out]
              simp [bothL, (show ¬ e.1 = e.2.1 by simpa using hcs)]
          · go_wp2_with (first | (at_builtin; (refine wpL_append1 (v := .slice q2 xs.length cap2) (xs := xs) (b := wr.heap.size + 2) rfl rfl U27 I48 rfl (by decide) (by decide) (f := triC) (fun _ => rfl) triC_one rfl (HB.out.own.alloc (.cells (triC e).toArray 48)) e rfl ⟨48, (0, 0), alloc_n (by simp) _⟩ (by have := HK.out.2.2.2.2; omega) (HB.out.he.alloc _).size ?_); intro v1 wa hoa hea hba; obtain ⟨q3, cap3, hv, -⟩ := own_read (f := triC) (fun _ => rfl) hoa; simp only [List.length_append, List.length_cons, List.length_nil, Nat.zero_add] at hv; subst hv; have HA := Lib.hid (HB.out.next HK.out.2.2.2.1.size (fun c hc => (HK.out.2.2.1.lt c hc).2) HV.out hoa hea); clear hoa hea hba; obtain ⟨x0, -, -, -, -⟩ := cells4 HA.out.M.row; obtain ⟨s0, s1, s2⟩ := cells3 HA.out.r7; obtain ⟨t0, t1, t2⟩ := cells3 HA.out.r8; have l0 := World.block_lt_of_cell? _ _ x0; have l1 := World.block_lt_of_cell? _ _ s0; have l2 := World.block_lt_of_cell? _ _ t0) | (at_builtin; (refine wpL_append1 (v := .slice q3 (xs.length + 1) cap3) (xs := xs ++ [e]) (b := wa.heap.size) rfl rfl U27 I48 rfl (by decide) (by decide) (f := triC) (fun _ => rfl) triC_one rfl (HA.out.own.alloc (.cells (triC (revT e)).toArray 48)) (revT e) rfl ⟨48, (0, 0), (heap_alloc wa _).1⟩ (by have := HK.out.2.2.2.2; simp; omega) (HA.out.he.alloc _).size ?_); intro v2 wb hob heb hbb; have HC := Lib.hid (And.intro hob (HA.out.he.then (S := No) (T := fun c => some c = (Value.slice q3 (xs.length + 1) cap3).ownBlock) ((Ext.refl _ _).alloc _ |>.no.trans heb) (fun c hc e => by have := (HA.out.own.lt c e.symm).1; omega))); clear hob heb hbb))
            go_roundg (s.E.length - (i + 1))
            case measure => have := HK.out.1; omega
            case rel =>
              obtain ⟨hk, hxs, ho, he, hxl⟩ := HK.out
              refine ⟨i + 1, xs ++ [e] ++ [revT e], by rw [w64 (by have := HL.out; omega)], by omega, ?_, HC.out.1, HC.out.2⟩
              rw [List.take_add_one, List.getElem?_eq_getElem hlt, List.flatMap_append, ← hxs, HX.out]
              simp [bothL, (show ¬ e.1 = e.2.1 by simpa using hcs)]
      · cases back
        · go_wp2_with (at_builtin; (refine wpL_append1 (v := .slice q2 xs.length cap2) (xs := xs) (b := wr.heap.size + 2) rfl rfl U27 I48 rfl (by decide) (by decide) (f := triC) (fun _ => rfl) triC_one rfl (HB.out.own.alloc (.cells (triC e).toArray 48)) e rfl ⟨48, (0, 0), alloc_n (by simp) _⟩ (by have := HK.out.2.2.2.2; omega) (HB.out.he.alloc _).size ?_); intro v1 wa hoa hea hba; obtain ⟨q3, cap3, hv, -⟩ := own_read (f := triC) (fun _ => rfl) hoa; simp only [List.length_append, List.length_cons, List.length_nil, Nat.zero_add] at hv; subst hv; have HA := Lib.hid (HB.out.next HK.out.2.2.2.1.size (fun c hc => (HK.out.2.2.1.lt c hc).2) HV.out hoa hea); clear hoa hea hba; obtain ⟨x0, -, -, -, -⟩ := cells4 HA.out.M.row; obtain ⟨s0, s1, s2⟩ := cells3 HA.out.r7; obtain ⟨t0, t1, t2⟩ := cells3 HA.out.r8; have l0 := World.block_lt_of_cell? _ _ x0; have l1 := World.block_lt_of_cell? _ _ s0; have l2 := World.block_lt_of_cell? _ _ t0)
          go_roundg (s.E.length - (i + 1))
          case measure => have := HK.out.1; omega
          case rel =>
            obtain ⟨hk, hxs, ho, he, hxl⟩ := HK.out
            refine ⟨i + 1, xs ++ [e], by rw [w64 (by have := HL.out; omega)], by omega, ?_, HA.out.own, HA.out.he⟩
            rw [List.take_add_one, List.getElem?_eq_getElem hlt, List.flatMap_append, ← hxs, HX.out]
            simp [bothL]
        · go_wp2_with (at_builtin; (refine wpL_append1 (v := .slice q2 xs.length cap2) (xs := xs) (b := wr.heap.size + 2) rfl rfl U27 I48 rfl (by decide) (by decide) (f := triC) (fun _ => rfl) triC_one rfl (HB.out.own.alloc (.cells (triC (revT e)).toArray 48)) (revT e) rfl ⟨48, (0, 0), alloc_n (by simp) _⟩ (by have := HK.out.2.2.2.2; omega) (HB.out.he.alloc _).size ?_); intro v1 wa hoa hea hba; obtain ⟨q3, cap3, hv, -⟩ := own_read (f := triC) (fun _ => rfl) hoa; simp only [List.length_append, List.length_cons, List.length_nil, Nat.zero_add] at hv; subst hv; have HA := Lib.hid (HB.out.next HK.out.2.2.2.1.size (fun c hc => (HK.out.2.2.1.lt c hc).2) HV.out hoa hea); clear hoa hea hba; obtain ⟨x0, -, -, -, -⟩ := cells4 HA.out.M.row; obtain ⟨s0, s1, s2⟩ := cells3 HA.out.r7; obtain ⟨t0, t1, t2⟩ := cells3 HA.out.r8; have l0 := World.block_lt_of_cell? _ _ x0; have l1 := World.block_lt_of_cell? _ _ s0; have l2 := World.block_lt_of_cell? _ _ t0)
          go_roundg (s.E.length - (i + 1))
          case measure => have := HK.out.1; omega
          case rel =>
            obtain ⟨hk, hxs, ho, he, hxl⟩ := HK.out
            refine ⟨i + 1, xs ++ [revT e], by rw [w64 (by have := HL.out; omega)], by omega, ?_, HA.out.own, HA.out.he⟩
            rw [List.take_add_one, List.getElem?_eq_getElem hlt, List.flatMap_append, ← hxs, HX.out]
            simp [bothL]
    · have hnlt : ¬ (i : Int) < (s.E.length : Int) := by omega
      have hi : i = s.E.length := by omega
      obtain ⟨q2, cap2, rfl, -⟩ := own_read (f := triC) (fun _ => rfl) ho
      have HK := Lib.hid (And.intro hk (And.intro hxs (And.intro ho he)))
      clear hk hxs ho he
      go_wp2_with fail
      refine (byEnds_run (RdS.of_own HK.out.2.2.1) (by
        have h1 := bothAll_len dir back (s.E.take i)
        have h2 := HL.out
        rw [← HK.out.2.1, List.length_take] at h1
        omega)).mono ?_
      rintro r1 w1 ⟨v, ys, rfl, hp, hs, ho1, he1⟩
      have HQ := Lib.hid (And.intro hp (And.intro hs (And.intro ho1 he1)))
      clear hp hs ho1 he1
      go_wp2
      go_ret
      obtain ⟨hk, hxs, ho, he⟩ := HK.out
      obtain ⟨hp, hs, ho1, he1⟩ := HQ.out
      refine ⟨v, ys, rfl, ?_, hs, ownsRow_low ho1 he.size, he.trans he1⟩
      rw [hi, List.take_length] at hxs
      rw [← hxs]; exact hp
end Go.Proofs.YtcenebjdhbdejaaGreatDoor
