/- AddEdge of a directed graph that prevents cycles: walked. -/
import Derived.Test.YtcenebjdhbdejaaGreatDoorB46
import Derived.Test.YtcenebjdhbdejaaGreatDoorB07
import Derived.Test.YtcenebjdhbdejaaGreatDoorB21
namespace Go.Proofs.YtcenebjdhbdejaaGreatDoor
open Go.MapKept

theorem hasCycle (v : Value) (xT : TypeId) (w : World) : (Instr.typeAssert (.iface 145 v) xT 227 true).run Tryz.prog w = .ok (.tuple #[.iface 145 v, .bool true]) w := run_typeAssert_hasB Tryz.underlying227 (by kernel_rfl) v xT w

set_option maxRecDepth 100000 in
set_option maxHeartbeats 1000000 in
theorem d_cycle {w : World} {H : Hd} {τ : Tr} {σ : St} {a b : Int} (h : Gr w H τ σ) (ha : ∃ n, (a, n) ∈ σ.V) (hb : ∃ n, (b, n) ∈ σ.V) (hV : σ.V.length ≤ 500) (hE : σ.E.length ≤ 1000) :
    Calls Tryz.prog 119 #[.pointer (some ⟨H.d, 0, none⟩), kI a, kI b] w (CyPost σ a b w) := by
  obtain ⟨d0, d1, d2, t4, ld, lt⟩ := h.now (Ext.refl No w)
  have HC := Lib.hid (createsCycle_run h.st ha hb hV hE)
  clear h ha hb hV hE
  have hM1 := M145_CreatesCycle
  have hT := hasCycle
  go_enter Tryz.func119, Tryz.ntmps119
  go_wp2_with fail
  refine HC.out.mono ?_
  rintro r1 w1 ⟨c, rfl, hc, he⟩
  go_wp2
  go_ret2
  exact ⟨c, rfl, hc, he⟩

set_option maxRecDepth 100000 in
set_option maxHeartbeats 1000000 in
theorem d_addEdge_cyc {w : World} {H : Hd} {τ : Tr} {σ : St} {a b : Int} {s : Value} {p : Nat → Addr} (h : Gr w H τ σ) (hp : Sent w p) {B : Nat} (hB : Below6 B p)
    (hs : ∃ n, (a, n) ∈ σ.V) (hd : ∃ n, (b, n) ∈ σ.V) (hne : ∀ e ∈ σ.E, ¬ (e.src = a ∧ e.dst = b)) (hprev : τ.prev = true)
    (hcy : ∀ w', Ext No w w' → Calls Tryz.prog 119 #[.pointer (some ⟨H.d, 0, none⟩), kI a, kI b] w' fun r w'' => r = .returned (.tuple #[.bool true, .nilIface]) ∧ Ext No w' w'') :
    Calls Tryz.prog 101 #[.pointer (some ⟨H.d, 0, none⟩), kI a, kI b, s] w fun r w' => r = .returned (errv p 5) ∧ Ext No w w' := by
  obtain ⟨d0, d1, d2, t4, ld, lt⟩ := h.now (Ext.refl No w)
  obtain ⟨n1, hs⟩ := hs
  obtain ⟨n2, hd⟩ := hd
  have HG := Lib.hid (And.intro h (And.intro hp hB))
  have HB := Lib.hid hB
  have HF := Lib.hid hcy
  clear hB h hp hcy
  go_enter Tryz.func101, Tryz.ntmps101
  have hM1 := M145_Vertex
  go_wp2_with fail
  refine (vertex_yes (A := H.A) (σ := σ) (HG.out.1.st.ext (Ext.refl No _) (fun _ _ h => h)) hs).mono ?_
  rintro e1 w1 ⟨rfl, h1⟩
  obtain ⟨d0, d1, d2, t4, ld, lt⟩ := HG.out.1.now h1
  have HE1 := Lib.hid h1
  clear h1
  go_wp2_with fail
  refine (vertex_yes (A := H.A) (σ := σ) (HG.out.1.st.ext (S := No) (HE1.out.trans ?_) (fun _ _ h => h)) hd).mono ?_
  · exact (Ext.refl No w1).alloc _
  rintro e2 w2 ⟨rfl, h2⟩
  have HE2 := Lib.hid (HE1.out.trans (((Ext.refl No w1).alloc _).trans h2))
  obtain ⟨d0, d1, d2, t4, ld, lt⟩ := HG.out.1.now HE2.out
  have HP2 := Lib.hid (HG.out.2.1.ext HB.out HE2.out (fun _ h => h.elim))
  have c4 := HP2.out.c4
  clear h2
  go_wp2_with fail
  refine (d_edge_no (HG.out.1.ext HE2.out (fun _ _ h => h)) HP2.out HB.out hne).mono ?_
  rintro e3 w3 ⟨rfl, h3⟩
  have HE3 := Lib.hid (HE2.out.trans h3)
  obtain ⟨d0, d1, d2, t4, ld, lt⟩ := HG.out.1.now HE3.out
  have HP3 := Lib.hid (HP2.out.ext HB.out h3 (fun _ h => h.elim))
  have c4 := HP3.out.c4
  have l4 := World.block_lt_of_cell? _ _ c4
  clear h3
  have E3 : Ext No w3 (w3.alloc (.cells #[.int .i64 0, .int .i64 0, .map none, .int .i64 0, .nilIface] 97)) := (Ext.refl No w3).alloc _
  go_wp2_with fail
  refine (is_any (HP3.out.ext HB.out E3 (fun _ h => h.elim)) (.sent 4) 4 (by decide) (by decide)).mono ?_
  rintro e4 w4 ⟨rfl, h4⟩
  have HE4 := Lib.hid (HE3.out.trans (E3.trans h4))
  clear d0 d1 d2 t4 ld lt E3 h4 c4 l4
  obtain ⟨d0, d1, d2, t4, ld, lt⟩ := HG.out.1.now HE4.out
  rw [hprev] at t4
  go_wp2_with fail
  refine (HF.out _ HE4.out).mono ?_
  rintro e5 w5 ⟨rfl, h5⟩
  have HE5 := Lib.hid (HE4.out.trans h5)
  have HP5 := Lib.hid (HG.out.2.1.ext HB.out HE5.out (fun _ h => h.elim))
  have c5 := HP5.out.c5
  have l5 := World.block_lt_of_cell? _ _ c5
  clear h5
  go_wp2
  go_ret
  exact ⟨rfl, HE5.out⟩

open Classical in
/-- what AddEdge does where cycles are prevented -/
noncomputable def addPQ (s : PS) (τ : Tr) (σ : St) (a b wt : Int) (er : Option Er) (σ' : St) : Prop :=
  if a ∉ s.V ∨ b ∉ s.V then numOf er = 2 ∧ σ' = σ
  else if hasE true s.E a b then numOf er = 4 ∧ σ' = σ
  else if RE s.E b a then numOf er = 6 ∧ σ' = σ
  else numOf er = 0 ∧ Rep true ⟨s.V, s.E ++ [(a, b, wt)]⟩ τ σ'

set_option maxRecDepth 10000 in
theorem prev_addEdge {w0 w : World} {H : Hd} {τ : Tr} {σ : St} {s : PS} {a b wt : Int} {ob : Nat} {f : Value} {p : Nat → Addr} {B : Nat} (h0 : Gr w0 H τ σ) (h : Gr w H τ σ) (hr : Rep true s τ σ) (hp : Sent w p) (hB : Below6 B p) (hf : ∀ c, σ.foot H.A c → B ≤ c)
    (hprev : τ.prev = true) (hl : s.V.length + s.E.length ≤ 400) (ho : w.cell? ⟨ob, 0, none⟩ = some f) (hopt : Opt w wt f) :
    Calls Tryz.prog 101 #[.pointer (some ⟨H.d, 0, none⟩), kI a, kI b, .slice (some ⟨ob, 0, none⟩) 1 1] w (SaysErr p w0.heap.size (ErrPost H τ σ (addPQ s τ σ a b wt)) w) := by
  by_cases hv : a ∉ s.V ∨ b ∉ s.V
  · have key : ∀ r w', (r = Ending.returned ((Er.wrap (.sent 1)).val p) ∧ Ext No w w') → (SaysErr p w0.heap.size (ErrPost H τ σ (addPQ s τ σ a b wt)) w) r w' := by
      rintro r w' ⟨rfl, he⟩
      exact says_of (er := some (.wrap (.sent 1))) h0 hp hB hf (Turned.same h he) (by intro x hx; cases hx; decide) (by unfold addPQ; rw [if_pos hv]; exact ⟨rfl, rfl⟩)
    by_cases ha : a ∈ s.V
    · have hb : ∀ n, (b, n) ∉ σ.V := fun n hn => by
        rcases hv with hv | hv
        · exact hv ha
        · exact hv (hr.mem.2 ⟨n, hn⟩)
      exact (d_addEdge_dst h hp hB (hr.mem.1 ha) hb).mono key
    · have ha' : ∀ n, (a, n) ∉ σ.V := fun n hn => ha (hr.mem.2 ⟨n, hn⟩)
      exact (d_addEdge_src h hp ha').mono key
  · have hv' : a ∈ s.V ∧ b ∈ s.V := by
      constructor
      · exact Classical.byContradiction fun h => hv (Or.inl h)
      · exact Classical.byContradiction fun h => hv (Or.inr h)
    by_cases he : hasE true s.E a b
    · obtain ⟨e, hem, rfl, rfl⟩ := hr.has.2 he
      have key : ∀ r w', (r = Ending.returned (errv p 3) ∧ Ext No w w') → (SaysErr p w0.heap.size (ErrPost H τ σ (addPQ s τ σ e.src e.dst wt)) w) r w' := by
        rintro r w' ⟨rfl, hx⟩
        exact says_of (er := some (.sent 3)) h0 hp hB hf (Turned.same h hx) (by intro x hx; cases hx; decide) (by unfold addPQ; rw [if_neg hv, if_pos he]; exact ⟨rfl, rfl⟩)
      exact (d_addEdge_old h hp hB hem).mono key
    · have hne : ∀ e ∈ σ.E, ¬ (e.src = a ∧ e.dst = b) := fun e hm hh => he (hr.has.1 ⟨e, hm, hh⟩)
      have hVl : σ.V.length ≤ 500 := by have := congrArg List.length hr.V; rw [List.length_map] at this; omega
      have hEl : σ.E.length ≤ 1000 := by have := congrArg List.length hr.E; rw [List.length_map, stored_len] at this; simp at this; omega
      have hcy : ∀ w', Ext No w w' → Calls Tryz.prog 119 #[.pointer (some ⟨H.d, 0, none⟩), kI a, kI b] w' (CyPost σ a b w') := fun w' hx => d_cycle (h.ext hx (fun _ _ h => h)) (hr.mem.1 hv'.1) (hr.mem.1 hv'.2) hVl hEl
      have hE : σ.E.map EdgeR.tri = s.E := hr.E
      by_cases hc : RE s.E b a
      · refine (d_addEdge_cyc h hp hB (hr.mem.1 hv'.1) (hr.mem.1 hv'.2) hne hprev (fun w' hx => (hcy w' hx).mono ?_)).mono ?_
        · rintro r w'' ⟨c, rfl, hiff, hx⟩
          rw [hE] at hiff
          rw [hiff.2 hc]
          exact ⟨rfl, hx⟩
        · rintro r w' ⟨rfl, hx⟩
          exact says_of (er := some (.sent 5)) h0 hp hB hf (Turned.same h hx) (by intro x hx; cases hx; decide) (by unfold addPQ; rw [if_neg hv, if_neg he, if_pos hc]; exact ⟨rfl, rfl⟩)
      · refine (d_addEdge_new h hp hB (hr.mem.1 hv'.1) (hr.mem.1 hv'.2) hne (fun _ w' hx => (hcy w' hx).mono ?_) ho hopt).mono ?_
        · rintro r w'' ⟨c, rfl, hiff, hx⟩
          rw [hE] at hiff
          have : c = false := by
            cases c with
            | false => rfl
            | true => exact absurd (hiff.1 rfl) hc
          rw [this]
          exact ⟨rfl, hx⟩
        · rintro r w' ⟨rfl, m, O', I', hm, ht⟩
          refine says_of (er := none) h0 hp hB hf ht (by intro x hx; cases hx) ?_
          unfold addPQ; rw [if_neg hv, if_neg he, if_neg hc]
          exact ⟨rfl, hr.hd, hr.V, by rw [stored_snoc_d, List.map_append, hr.E]; rfl, fun hd => by cases hd⟩

open Classical in
/-- what a list that prevents cycles does when an edge is added -/
noncomputable def DoAP (s : PS) (a b wt : Int) (s' : PS) (sp : SP) : Prop :=
  if a ∉ s.V ∨ b ∉ s.V then s' = s ∧ sp = .err 2
  else if hasE true s.E a b then s' = s ∧ sp = .err 4
  else if RE s.E b a then s' = s ∧ sp = .err 6
  else s' = ⟨s.V, s.E ++ [(a, b, wt)]⟩ ∧ sp = .err 0

theorem step_ap {w : World} {H : Hd} {τ : Tr} {σ : St} {s : PS} {a b wt : Int} {p : Nat → Addr} {B : Nat} (h : Gr w H τ σ) (hr : Rep true s τ σ) (hp : Sent w p) (hB : Below6 B p) (hf : ∀ c, σ.foot H.A c → B ≤ c)
    (hprev : τ.prev = true) (hl : s.V.length + s.E.length ≤ 400) :
    Calls Tryz.prog 24 #[gV true H, stepV 2 a b wt] w (StepPost true H τ σ (DoAP s a b wt) w) := by
  have := stepped_ae (gk true) (w := w) (d := ⟨H.d, 0, none⟩) (a := a) (b := b) (wt := wt) (p := p) hB (R := ErrPost H τ σ (addPQ s τ σ a b wt))
    (fun w' ob f he ho hopt => prev_addEdge h (h.ext he (fun _ _ h => h)) hr (hp.ext hB he (fun _ h => h.elim)) hB hf hprev hl ho hopt)
  rw [gk_T] at this
  refine this.mono ?_
  rintro r w' ⟨er, rfl, w1, w2, h1, ⟨σ', ht, hq⟩, h3⟩
  have ht' := Turned.stepped h h1 ht h3
  unfold addPQ at hq
  by_cases hv : a ∉ s.V ∨ b ∉ s.V
  · rw [if_pos hv] at hq
    obtain ⟨hn, rfl⟩ := hq
    exact ⟨σ', s, .err 2, nilS, nilS, by rw [hn], by unfold DoAP; rw [if_pos hv]; exact ⟨rfl, rfl⟩, ht', hr, nil_own, nil_own⟩
  · rw [if_neg hv] at hq
    by_cases he : hasE true s.E a b
    · rw [if_pos he] at hq
      obtain ⟨hn, rfl⟩ := hq
      exact ⟨σ', s, .err 4, nilS, nilS, by rw [hn], by unfold DoAP; rw [if_neg hv, if_pos he]; exact ⟨rfl, rfl⟩, ht', hr, nil_own, nil_own⟩
    · rw [if_neg he] at hq
      by_cases hc : RE s.E b a
      · rw [if_pos hc] at hq
        obtain ⟨hn, rfl⟩ := hq
        exact ⟨σ', s, .err 6, nilS, nilS, by rw [hn], by unfold DoAP; rw [if_neg hv, if_neg he, if_pos hc]; exact ⟨rfl, rfl⟩, ht', hr, nil_own, nil_own⟩
      · rw [if_neg hc] at hq
        obtain ⟨hn, hr'⟩ := hq
        exact ⟨σ', _, .err 0, nilS, nilS, by rw [hn], by unfold DoAP; rw [if_neg hv, if_neg he, if_neg hc]; exact ⟨rfl, rfl⟩, ht', hr', nil_own, nil_own⟩
end Go.Proofs.YtcenebjdhbdejaaGreatDoor
