/- The lists' own Reaches, walked (directed lists): is there a way from one vertex to another? -/
import Derived.Test.YtcenebjdhbdejaaGreatDoorB45
import Derived.Test.YtcenebjdhbdejaaGreatDoorB21
import Derived.Test.YtcenebjdhbdejaaGreatDoorB23
namespace Go.Proofs.YtcenebjdhbdejaaGreatDoor
open Go.MapKept

/-- what a search forward holds: L1 was looked at, L3 is to be looked at -/
structure Fwd (E : List Tri) (a b : Int) (L1 L3 : List Int) : Prop where
  nd : (L1 ++ L3).Nodup
  hd : a ∈ L1 ++ L3
  reach : ∀ y ∈ L1 ++ L3, RE E a y
  nb : b ∉ L1
  cl : ∀ e ∈ E, e.1 ∈ L1 → e.2.1 ∈ L1 ++ L3
  sub : ∀ y ∈ L1 ++ L3, y ∈ a :: E.map (·.2.1)
theorem Fwd.start {E : List Tri} {a b : Int} : Fwd E a b [] [a] :=
  ⟨by simp, by simp, fun y h => by simp at h; rw [h]; exact RE.refl _, List.not_mem_nil, fun _ _ h => (List.not_mem_nil h).elim, fun y h => by simp at h; rw [h]; simp⟩
theorem Fwd.done {E : List Tri} {a b : Int} {L1 : List Int} (h : Fwd E a b L1 []) : ¬ RE E a b := fun hr =>
  h.nb (hr.succ (S := L1) (fun e he h1 => by simpa using h.cl e he h1) (by simpa using h.hd))
theorem Fwd.len {E : List Tri} {a b : Int} {L1 L3 : List Int} (h : Fwd E a b L1 L3) : (L1 ++ L3).length ≤ E.length + 1 := by
  have := nodup_len h.nd h.sub
  simpa using this
/-- in the midst of a vertex's edges -/
structure Fwx (E : List Tri) (a b : Int) (L1 : List Int) (x : Int) (L2 : List Int) (D : List Tri) : Prop where
  f : Fwd E a b L1 (x :: L2)
  dn : ∀ e ∈ D, e.1 = x → e.2.1 ∈ L1 ++ x :: L2
theorem Fwx.skip {E : List Tri} {a b x : Int} {L1 L2 : List Int} {D : List Tri} {e : Tri} (h : Fwx E a b L1 x L2 D) (he : e.1 ≠ x) : Fwx E a b L1 x L2 (D ++ [e]) :=
  ⟨h.f, fun f hf hx => by
    rcases List.mem_append.1 hf with hf | hf
    · exact h.dn f hf hx
    · simp at hf; rw [hf] at hx; exact absurd hx he⟩
theorem Fwx.has {E : List Tri} {a b x : Int} {L1 L2 : List Int} {D : List Tri} {e : Tri} (h : Fwx E a b L1 x L2 D) (hm : e.2.1 ∈ L1 ++ x :: L2) : Fwx E a b L1 x L2 (D ++ [e]) :=
  ⟨h.f, fun f hf hx => by
    rcases List.mem_append.1 hf with hf | hf
    · exact h.dn f hf hx
    · simp at hf; rw [hf]; exact hm⟩
theorem Fwx.more {E : List Tri} {a b x : Int} {L1 L2 : List Int} {D : List Tri} {e : Tri} (h : Fwx E a b L1 x L2 D) (heE : e ∈ E) (hx : e.1 = x) (hm : e.2.1 ∉ L1 ++ x :: L2) : Fwx E a b L1 x (L2 ++ [e.2.1]) (D ++ [e]) := by
  have hl : L1 ++ x :: (L2 ++ [e.2.1]) = (L1 ++ x :: L2) ++ [e.2.1] := by simp
  have hxm : x ∈ L1 ++ x :: L2 := by simp
  refine ⟨⟨?_, ?_, ?_, h.f.nb, ?_, ?_⟩, ?_⟩
  · rw [hl, List.nodup_append]
    refine ⟨h.f.nd, by simp, fun y hy z hz => ?_⟩
    simp at hz
    subst hz
    exact fun e' => hm (e' ▸ hy)
  · rw [hl]; exact List.mem_append_left _ h.f.hd
  · intro y hy
    rw [hl] at hy
    rcases List.mem_append.1 hy with hy | hy
    · exact h.f.reach y hy
    · simp at hy
      rw [hy]
      refine RE.tail (h.f.reach x hxm) (wt := e.2.2) ?_
      rw [← hx]; exact heE
  · intro f hf h1
    rw [hl]
    exact List.mem_append_left _ (h.f.cl f hf h1)
  · intro y hy
    rw [hl] at hy
    rcases List.mem_append.1 hy with hy | hy
    · exact h.f.sub y hy
    · simp at hy
      rw [hy]
      exact List.mem_cons_of_mem _ (List.mem_map.2 ⟨e, heE, rfl⟩)
  · intro f hf h1
    rw [hl]
    rcases List.mem_append.1 hf with hf | hf
    · exact List.mem_append_left _ (h.dn f hf h1)
    · simp at hf; rw [hf]; simp
theorem Fwx.out {E : List Tri} {a b x : Int} {L1 L2 : List Int} (h : Fwx E a b L1 x L2 E) (hxb : x ≠ b) : Fwd E a b (L1 ++ [x]) L2 := by
  have hl : (L1 ++ [x]) ++ L2 = L1 ++ x :: L2 := by simp
  refine ⟨by rw [hl]; exact h.f.nd, by rw [hl]; exact h.f.hd, by rw [hl]; exact h.f.reach, fun hb => ?_, fun e he h1 => ?_, by rw [hl]; exact h.f.sub⟩
  · rcases List.mem_append.1 hb with hb | hb
    · exact h.f.nb hb
    · simp at hb; exact hxb hb.symm
  · rw [hl]
    rcases List.mem_append.1 h1 with h1 | h1
    · exact h.f.cl e he h1
    · simp at h1; exact h.dn e he h1

/-- What Reaches leaves. -/
def RePost (E : List Tri) (a b : Int) (w : World) (r : Ending) (w' : World) : Prop := ∃ c : Bool, r = .returned (.bool c) ∧ (c = true ↔ RE E a b) ∧ Ext No w w'

/-- a round of the search -/
def ReO (w : World) (E : List Tri) (a b : Int) (k : Nat) (v iv : Value) (wr : World) : Prop :=
  ∃ L1 L3 : List Int, iv = .int .i64 L1.length ∧ k = 1002 - L1.length ∧ wr.ownsRow w.heap.size 2 1 v (L1 ++ L3).length ((L1 ++ L3).flatMap oneC) ∧ Ext No w wr ∧ Fwd E a b L1 L3
/-- a round over the edges -/
def ReI (w : World) (E : List Tri) (a b : Int) (L1 : List Int) (x : Int) (k : Nat) (v iv : Value) (wr : World) : Prop :=
  ∃ (j : Nat) (L2 : List Int), iv = .int .i64 j ∧ j + k = E.length ∧ wr.ownsRow w.heap.size 2 1 v (L1 ++ x :: L2).length ((L1 ++ x :: L2).flatMap oneC) ∧ Ext No w wr ∧ Fwx E a b L1 x L2 (E.take j)
/-- a round that looks for one among some -/
def FIS (p : Nat → Bool) (n : Nat) (w0 : World) (k : Nat) (tv iv : Value) (wr : World) : Prop :=
  ∃ i : Nat, tv = .bool ((List.range i).any p) ∧ iv = .int .i64 i ∧ i + k = n ∧ Ext No w0 wr

set_option maxRecDepth 100000 in
set_option maxHeartbeats 2000000 in
theorem reaches_run {w : World} {N mm : Nat} {prev : Bool} {s : PS} {vs es : Value} {a b : Int} (h : Mo w N mm true prev s vs es) (hl : s.E.length ≤ 1000) :
    Calls Tryz.prog 18 #[.pointer (some ⟨mm, 0, none⟩), kI a, kI b] w (RePost s.E a b w) := by
  obtain ⟨q, cap, rfl, -⟩ := own_read (f := triC) (fun _ => rfl) h.E
  have HG := Lib.hid (And.intro h hl)
  clear h hl
  go_enter Tryz.func18, Tryz.ntmps18
  go_wp2_with fail
  have H0 : RowKit.Hid (Ext No w (w.alloc (.cells #[kI a] 2)) ∧ (w.alloc (.cells #[kI a] 2)).ownsRow w.heap.size 2 1 (.slice (some ⟨w.heap.size, 0, none⟩) 1 1) 1 [kI a]) := Lib.hid ⟨(Ext.refl No w).alloc _, own_lit (cs := [kI a]) (heap_alloc w _).1 (Nat.le_refl _) rfl⟩
  try go_frame
  go_loopg [7, 8] 1002 (fun k v iv wr => ReO w s.E a b k v iv wr)
  case atStart => exact ⟨[], [a], rfl, rfl, H0.out.2, H0.out.1, Fwd.start⟩
  case round =>
    obtain ⟨L1, L3, rfl, hk, ho, he, hI⟩ := hrel
    rcases L3 with _ | ⟨x, L2⟩
    · obtain ⟨q7, c7, rfl, -⟩ := own_read (f := oneC) (fun _ => rfl) ho
      have hn : (L1 ++ []).length = L1.length := by simp
      rw [hn]
      have HI := Lib.hid (And.intro hI he)
      clear hk ho he hI hn
      go_wp2
      go_ret
      exact ⟨false, rfl, ⟨(fun h => by cases h), fun h => absurd h HI.out.1.done⟩, HI.out.2⟩
    · obtain ⟨q7, c7, rfl, hr⟩ := own_read (f := oneC) (fun _ => rfl) ho
      obtain ⟨g, rfl, hg, hc⟩ := hr L1.length (by simp)
      have hx : wr.cell? ⟨g, L1.length, none⟩ = some (kI x) := by have := hc 0 (by decide); simpa using this
      have hlen := hI.len
      have hL : (L1 ++ x :: L2).length = L1.length + 1 + L2.length := by simp; omega
      have hlt' : (L1.length : Int) < ((L1 ++ x :: L2).length : Int) := by rw [hL]; omega
      have hpos : (0 : Int) ≤ (L1.length : Int) := by omega
      have hM := HG.out.1.no he
      obtain ⟨x0, x1, x2, x3, -⟩ := cells4 hM.row
      have l1 := World.block_lt_of_cell? _ _ x0
      have HK := Lib.hid (And.intro hk (And.intro ho (And.intro he (And.intro hI hlen))))
      clear hk ho he hI hc hM hr hlen
      generalize hnn : (L1 ++ x :: L2).length = nn at hlt' ⊢
      have HN := Lib.hid hnn
      clear hnn hL
      by_cases hxb : x = b
      · subst hxb
        go_wp2
        go_ret
        exact ⟨true, rfl, ⟨fun _ => HK.out.2.2.2.1.reach _ (by simp), fun _ => rfl⟩, HK.out.2.2.1⟩
      · have hxbb : (x == b) = false := by simpa using hxb
        have HxB := Lib.hid hxb
        clear hxb
        go_wp2_with fail
        clear x0 x1 x2 x3 l1
        try go_frame
        go_loopg [7, 34] s.E.length (fun k v iv wq => ReI w s.E a b L1 x k v iv wq)
        case atStart => exact ⟨0, L2, rfl, by simp, by rw [HN.out]; have h := HK.out.2.1; rw [HN.out] at h; exact h, HK.out.2.2.1, ⟨HK.out.2.2.2.1, fun e he => by simp at he⟩⟩
        case round =>
          obtain ⟨j, L2', rfl, hk, ho, he, hI⟩ := hrel
          by_cases hlt : j < s.E.length
          · obtain ⟨q8, c8, rfl, hr8⟩ := own_read (f := oneC) (fun _ => rfl) ho
            obtain ⟨g8, rfl, hg8, hc8⟩ := hr8 L1.length (by simp)
            have hx8 : wr.cell? ⟨g8, L1.length, none⟩ = some (kI x) := by have := hc8 0 (by decide); simpa using this
            have hL : (L1 ++ x :: L2').length = L1.length + 1 + L2'.length := by simp; omega
            have hlt8 : (L1.length : Int) < ((L1 ++ x :: L2').length : Int) := by rw [hL]; omega
            have hM := HG.out.1.no he
            obtain ⟨ge, hqe, hge, hce⟩ := own_at (f := triC) (fun _ => rfl) hM.E hlt
            have hqe' := hqe
            subst hqe
            have hlt' : (j : Int) < (s.E.length : Int) := by omega
            have c0 : wr.cell? ⟨ge, j * 3, none⟩ = some (kI (s.E[j]'hlt).1) := hce 0 (by decide)
            have c1 : wr.cell? ⟨ge, j * 3 + 1, none⟩ = some (kI (s.E[j]'hlt).2.1) := hce 1 (by decide)
            have c2 : wr.cell? ⟨ge, j * 3 + 2, none⟩ = some (.int .i64 (s.E[j]'hlt).2.2) := hce 2 (by decide)
            have htk : s.E.take (j + 1) = s.E.take j ++ [s.E[j]'hlt] := by rw [List.take_add_one, List.getElem?_eq_getElem hlt]; rfl
            have heE : s.E[j]'hlt ∈ s.E := List.getElem_mem hlt
            generalize s.E[j]'hlt = e at c0 c1 c2 htk heE
            generalize hnn : (L1 ++ x :: L2').length = n8 at hlt8 ⊢
            have hn8 : n8 ≤ 1001 := by have h1 := hI.f.len; have h2 := HG.out.2; omega
            have HR := Lib.hid (And.intro hk (And.intro ho (And.intro he (And.intro hI (And.intro htk (And.intro heE (And.intro hnn hn8)))))))
            clear hk ho he hI hr8 hc8 hL hM hce htk heE hnn hn8 hqe'
            go_upto_region 11 with (fail)
            have eA : Ext No wr (wr.alloc (.cells #[.int .i64 e.1, .int .i64 e.2.1, .int .i64 e.2.2] 48)) := (Ext.refl No wr).alloc _
            have rA : (wr.alloc (.cells #[.int .i64 e.1, .int .i64 e.2.1, .int .i64 e.2.2] 48)).heap[wr.heap.size]? = some (.cells (triC e).toArray 48 (0, 0)) := (heap_alloc wr _).1
            have hx9 := eA.cellv hx8 id
            have HA := Lib.hid (And.intro (HR.out.2.2.1.trans eA) (And.intro rA (ownsRow_ext HR.out.2.1 eA (fun _ _ h => h))))
            clear eA rA c0 c1 c2 hx8
            revert hx9 HA
            generalize (wr.alloc (.cells #[.int .i64 e.1, .int .i64 e.2.1, .int .i64 e.2.2] 48)) = W
            intro hx9 HA
            generalize wr.heap.size = ne at HA ⊢
            obtain ⟨b0, b1, b2⟩ := cells3 HA.out.2.1
            have lb := World.block_lt_of_cell? _ _ b0
            have lg := World.block_lt_of_cell? _ _ hx9
            by_cases hex : e.1 = x
            · rw [hex] at b0
              have HEx := Lib.hid hex
              clear hex
              go_quiet (fail)
              have eQ : Ext No W (W.drewN nq) := (Ext.refl No W).drewN nq
              have hon : (W.drewN nq).ownsRow w.heap.size 2 1 (.slice (some ⟨g8, 0, none⟩) n8 c8) (L1 ++ x :: L2').length ((L1 ++ x :: L2').flatMap oneC) := by
                have h := ownsRow_ext HA.out.2.2 eQ (fun _ _ h => h)
                rw [HR.out.2.2.2.2.2.2.1] at h ⊢
                exact h
              have HB := Lib.hid (And.intro (HA.out.1.trans eQ) hon)
              clear eQ hon b0 b1 b2 lb lg hx9
              generalize W.drewN nq = W2 at HB ⊢
              obtain ⟨w7, rfl⟩ : ∃ W : World, W = wr := ⟨_, rfl⟩
              go_wp2_with fail
              try go_frame
              go_loopg [12, 64] n8 (fun k tv iv wq => FIS (fun i => decide ((L1 ++ x :: L2')[i]? = some e.2.1)) n8 W2 k tv iv wq)
              case atStart => exact ⟨0, rfl, rfl, by simp, Ext.refl _ _⟩
              case round =>
                obtain ⟨i2, rfl, rfl, hk2, he2⟩ := hrel
                have ho3 := ownsRow_ext HB.out.2 he2 (fun _ _ h => h)
                by_cases hlt2 : i2 < n8
                · have hli : i2 < (L1 ++ x :: L2').length := by rw [HR.out.2.2.2.2.2.2.1]; exact hlt2
                  obtain ⟨g3, hq3, hg3, hc3⟩ := own_at (f := oneC) (fun _ => rfl) ho3 hli
                  simp only [Option.some.injEq, Addr.mk.injEq, and_true] at hq3
                  subst hq3
                  have hlt2' : (i2 : Int) < (n8 : Int) := by omega
                  have hx2 : wr.cell? ⟨g8, i2, none⟩ = some (kI ((L1 ++ x :: L2')[i2]'hli)) := by have := hc3 0 (by decide); simpa using this
                  have hrg : (List.range (i2 + 1)).any (fun i => decide ((L1 ++ x :: L2')[i]? = some e.2.1)) = ((List.range i2).any (fun i => decide ((L1 ++ x :: L2')[i]? = some e.2.1)) || decide ((L1 ++ x :: L2')[i2]'hli = e.2.1)) := by
                    rw [List.range_succ, List.any_append]
                    simp [List.getElem?_eq_getElem hli]
                  have HR2 := Lib.hid (And.intro hk2 (And.intro he2 hrg))
                  clear hk2 he2 hrg hc3 ho3
                  generalize hb : (List.range i2).any (fun i => decide ((L1 ++ x :: L2')[i]? = some e.2.1)) = bb at *
                  generalize hy : (L1 ++ x :: L2')[i2]'hli = y at *
                  clear hy
                  cases bb with
                  | true =>
                    go_wp2
                    go_roundg (n8 - (i2 + 1))
                    case measure => have := HR2.out.1; omega
                    case rel => exact ⟨i2 + 1, by rw [HR2.out.2.2]; simp, by rw [w64 (by have := HR.out.2.2.2.2.2.2.2; omega)], by have := HR2.out.1; omega, HR2.out.2.1⟩
                  | false =>
                    by_cases hv : y = e.2.1
                    · subst hv
                      go_wp2
                      go_roundg (n8 - (i2 + 1))
                      case measure => have := HR2.out.1; omega
                      case rel => exact ⟨i2 + 1, by rw [HR2.out.2.2]; simp, by rw [w64 (by have := HR.out.2.2.2.2.2.2.2; omega)], by have := HR2.out.1; omega, HR2.out.2.1⟩
                    · have hvb : (y == e.2.1) = false := by simpa using hv
                      have hvd : decide (y = e.2.1) = false := by simpa using hv
                      have HVd := Lib.hid hvd
                      clear hv hvd
                      go_wp2
                      go_roundg (n8 - (i2 + 1))
                      case measure => have := HR2.out.1; omega
                      case rel => exact ⟨i2 + 1, by rw [HR2.out.2.2, HVd.out]; rfl, by rw [w64 (by have := HR.out.2.2.2.2.2.2.2; omega)], by have := HR2.out.1; omega, HR2.out.2.1⟩
                · have hnlt2 : ¬ (i2 : Int) < (n8 : Int) := by omega
                  have hi2 : i2 = n8 := by omega
                  subst hi2
                  have HK2 := Lib.hid (And.intro ho3 he2)
                  clear hk2 he2
                  by_cases hin : e.2.1 ∈ L1 ++ x :: L2'
                  · have htrue : (List.range i2).any (fun i => decide ((L1 ++ x :: L2')[i]? = some e.2.1)) = true := by
                      rw [List.any_eq_true]
                      obtain ⟨i, hi, hiv⟩ := List.getElem_of_mem hin
                      exact ⟨i, List.mem_range.2 (by have := HR.out.2.2.2.2.2.2.1; omega), by simp only [List.getElem?_eq_getElem hi, hiv]; simp⟩
                    rw [htrue]
                    have HIn := Lib.hid hin
                    clear htrue hin ho3
                    go_wp2
                    go_roundg (s.E.length - (j + 1))
                    case measure => have := HR.out.1; omega
                    case rel => exact ⟨j + 1, L2', by rw [w64 (by have := HG.out.2; omega)], by have := HR.out.1; omega, HK2.out.1, HB.out.1.trans HK2.out.2, by rw [HR.out.2.2.2.2.1]; exact HR.out.2.2.2.1.has HIn.out⟩
                  · have hfalse : (List.range i2).any (fun i => decide ((L1 ++ x :: L2')[i]? = some e.2.1)) = false := by
                      rw [List.any_eq_false]
                      intro i hi hiv
                      simp only [decide_eq_true_eq] at hiv
                      exact hin (List.mem_of_getElem? hiv)
                    rw [hfalse]
                    have HIn := Lib.hid hin
                    clear hfalse hin
                    have hon := ho3.alloc (.cells #[kI e.2.1] 2)
                    have hdl : (L1 ++ x :: L2').length < 1000000 := by rw [HR.out.2.2.2.2.2.2.1]; have := HR.out.2.2.2.2.2.2.2; omega
                    have hsz : w.heap.size ≤ (wr.alloc (.cells #[kI e.2.1] 2)).heap.size := Nat.le_trans ((HB.out.1.trans HK2.out.2).alloc (.cells #[kI e.2.1] 2)).size (Nat.le_refl _)
                    go_wp2_with (first | (at_builtin; (refine wpL_append1 rfl rfl U26 I2 rfl (by decide) (by decide) (f := oneC) (xs := L1 ++ x :: L2') (fun _ => rfl) (fun _ _ h => by simp at h; subst h; rfl) rfl hon e.2.1 rfl ⟨2, (0, 0), (heap_alloc wr _).1⟩ hdl hsz ?_); intro v' wa hoa hea hba))
                    go_roundg (s.E.length - (j + 1))
                    case measure => have := HR.out.1; omega
                    case rel =>
                      refine ⟨j + 1, L2' ++ [e.2.1], by rw [w64 (by have := HG.out.2; omega)], by have := HR.out.1; omega, ?_, (((HB.out.1.trans HK2.out.2).alloc (.cells #[kI e.2.1] 2))).then hea (fun c hc e => ?_), by rw [HR.out.2.2.2.2.1]; exact HR.out.2.2.2.1.more HR.out.2.2.2.2.2.1 HEx.out HIn.out⟩
                      · have : L1 ++ x :: (L2' ++ [e.2.1]) = (L1 ++ x :: L2') ++ [e.2.1] := by simp
                        rw [this]; exact hoa
                      · have := (hon.lt c e.symm).1; omega
            · have hexb : (e.1 != x) = true := by simpa using hex
              have HEx := Lib.hid hex
              clear hex
              go_quiet (fail)
              have eQ : Ext No W (W.drewN nq) := (Ext.refl No W).drewN nq
              have hon : (W.drewN nq).ownsRow w.heap.size 2 1 (.slice (some ⟨g8, 0, none⟩) n8 c8) (L1 ++ x :: L2').length ((L1 ++ x :: L2').flatMap oneC) := by
                have h := ownsRow_ext HA.out.2.2 eQ (fun _ _ h => h)
                rw [HR.out.2.2.2.2.2.2.1] at h ⊢
                exact h
              have HB := Lib.hid (And.intro (HA.out.1.trans eQ) hon)
              clear eQ hon b0 b1 b2 lb lg hx9
              generalize W.drewN nq = W2 at HB ⊢
              obtain ⟨x0, x1, x2, x3, -⟩ := cells4 (HG.out.1.no HB.out.1).row
              have l1 := World.block_lt_of_cell? _ _ x0
              go_wp2_with fail
              go_quiet (fail)
              go_wp2
              go_roundg (s.E.length - (j + 1))
              case measure => have := HR.out.1; omega
              case rel => exact ⟨j + 1, L2', by rw [w64 (by have := HG.out.2; omega)], by have := HR.out.1; omega, ownsRow_ext HB.out.2 ((Ext.refl No W2).drewN _) (fun _ _ h => h), HB.out.1.drewN _, by rw [HR.out.2.2.2.2.1]; exact HR.out.2.2.2.1.skip HEx.out⟩
          · have hnlt : ¬ (j : Int) < (s.E.length : Int) := by omega
            have hj : j = s.E.length := by omega
            subst hj
            rw [List.take_length] at hI
            have HR := Lib.hid (And.intro hk (And.intro ho (And.intro he hI)))
            clear hk ho he hI
            go_wp2
            go_roundg (1002 - (L1.length + 1))
            case measure => have h1 := HK.out.1; have h2 := HK.out.2.2.2.2; have := HG.out.2; simp only [List.length_append, List.length_cons] at h2; omega
            case rel =>
              have hl : (L1 ++ [x]) ++ L2' = L1 ++ x :: L2' := by simp
              refine ⟨L1 ++ [x], L2', ?_, by simp, by rw [hl]; exact HR.out.2.1, HR.out.2.2.1, HR.out.2.2.2.out HxB.out⟩
              have h2 := HK.out.2.2.2.2
              have := HG.out.2
              simp only [List.length_append, List.length_cons] at h2
              rw [w64 (by omega)]
              simp
end Go.Proofs.YtcenebjdhbdejaaGreatDoor
