/- stepped over a graph as lists: the counts; Building's steps, those that only add. The laws' own helpers: buildAwake, walked. -/
import Derived.Test.YtcenebjdhbdejaaGreatDoorB18
import Derived.Test.YtcenebjdhbdejaaGreatDoorB20
namespace Go.Proofs.YtcenebjdhbdejaaGreatDoor
open Go.MapKept

def DoCT (s : PS) (s' : PS) (sp : SP) : Prop := s' = s ∧ sp = ⟨0, s.V.length, s.E.length, 0, [], []⟩

theorem stored_len (dir : Bool) (E : List Tri) : (stored dir E).length = if dir then E.length else 2 * E.length := by
  cases dir with
  | true => rfl
  | false =>
    simp only [stored, Bool.false_eq_true, if_false]
    induction E with
    | nil => rfl
    | cons e E ih => simp only [List.flatMap_cons, List.length_append, ih, List.length_cons, List.length_nil]; omega

theorem Rep.lenV {dir : Bool} {s : PS} {τ : Tr} {σ : St} (h : Rep dir s τ σ) : σ.V.length = s.V.length := by rw [← h.V, List.length_map]
theorem Rep.lenE {dir : Bool} {s : PS} {τ : Tr} {σ : St} (h : Rep dir s τ σ) : σ.E.length = if dir then s.E.length else 2 * s.E.length := by rw [← stored_len, ← h.E, List.length_map]

theorem step_ct (dir : Bool) {w : World} {H : Hd} {τ : Tr} {σ : St} {s : PS} {a b wt : Int} (h : Gr w H τ σ) (hr : Rep dir s τ σ) (hV : s.V.length < 1000000) (hE : (stored dir s.E).length < 1000000) :
    Calls Tryz.prog 24 #[gV dir H, stepV 7 a b wt] w (StepPost dir H τ σ (DoCT s) w) := by
  have lV := hr.lenV
  have lE := hr.lenE
  rw [stored_len] at hE
  have := stepped_ct (gk dir) (w := w) (d := ⟨H.d, 0, none⟩) (a := a) (b := b) (wt := wt) (n := s.V.length) (m := s.E.length)
    (fun w' he => by
      have hg := h.ext he (fun _ _ h => h)
      cases dir with
      | true => have := d_order hg; rw [lV] at this; exact this
      | false => have := u_order hg; rw [lV] at this; exact this)
    (fun w' he => by
      have hg := h.ext he (fun _ _ h => h)
      cases dir with
      | true =>
        simp only [if_true] at lE
        have := d_size hg (by omega) (by simp at hE; omega)
        rw [lE] at this; exact this
      | false =>
        simp only [Bool.false_eq_true, if_false] at lE hE
        have := u_size hg (by omega) (by omega)
        rw [lE] at this
        have e : (((2 * s.E.length : Nat) : Int) / 2) = (s.E.length : Int) := by omega
        rw [e] at this; exact this)
  rw [gk_T] at this
  refine this.mono ?_
  rintro r w' ⟨rfl, he⟩
  exact ⟨σ, s, ⟨0, s.V.length, s.E.length, 0, [], []⟩, nilS, nilS, rfl, ⟨rfl, rfl⟩, Turned.same h he, hr, nil_own, nil_own⟩

/-- a step that only adds or asks -/
noncomputable def DoS (dir : Bool) (x : Stp) (s s' : PS) (sp : SP) : Prop :=
  if x.op = 0 then DoAV s x.a s' sp
  else if x.op = 2 then DoAE dir s x.a x.b x.wt s' sp
  else if x.op = 7 then DoCT s s' sp
  else DoAM dir s s' sp

/-- the steps that are walked here -/
def Adds (dir : Bool) (x : Stp) : Prop := x.op = 0 ∨ (x.op = 2 ∧ (dir = false → x.a ≠ x.b)) ∨ x.op = 7 ∨ x.op = 9

theorem DoS.size {dir : Bool} {x : Stp} {s s' : PS} {sp : SP} (h : DoS dir x s s' sp) : s'.V.length + s'.E.length ≤ s.V.length + s.E.length + 1 := by
  unfold DoS at h
  split at h
  · unfold DoAV at h; split at h
    · rw [h.1]; omega
    · rw [h.1]; simp; omega
  · split at h
    · unfold DoAE at h
      split at h
      · rw [h.1]; omega
      · split at h
        · rw [h.1]; omega
        · rw [h.1]; simp; omega
    · split at h
      · rw [h.1]; omega
      · rw [h.1]; omega

theorem Below6.mono {B N : Nat} {p : Nat → Addr} (h : Below6 B p) (hn : B ≤ N) : Below6 N p := ⟨Nat.le_trans h.1 hn, fun i hi => Nat.lt_of_lt_of_le (h.2 i hi) hn⟩

theorem stepsOk_adds (dir : Bool) {p : Nat → Addr} {N : Nat} {l : List Stp} (hB : Below6 N p) (hl : l.length < 400000) (ha : ∀ x ∈ l, Adds dir x) : StepsOk dir false (DoS dir) p N l := by
  intro i hi w v s hN hp hg hsz
  obtain ⟨H, τ, σ, rfl, hgr, hr, hpv, hf⟩ := hg
  have hx := ha _ (List.getElem_mem hi)
  generalize l[i]'hi = x at hx ⊢
  have hff : ∀ c, σ.foot H.A c → N ≤ c := fun c hc => hf c (Or.inr (Or.inr hc))
  have hV : s.V.length < 1000000 := by omega
  have hE : (stored dir s.E).length < 1000000 := by rw [stored_len]; split <;> omega
  obtain ⟨op, a, b, wt⟩ := x
  have key : ∀ {D : PS → SP → Prop} {op' : Int}, op = op' → (∀ s' sp, D s' sp → DoS dir ⟨op, a, b, wt⟩ s s' sp) → Calls Tryz.prog 24 #[gV dir H, stepV op' a b wt] w (StepPost dir H τ σ D w) →
      Calls Tryz.prog 24 #[gV dir H, (⟨op, a, b, wt⟩ : Stp).val] w (fun r w' => StepG dir false N (fun s' sp => DoS dir ⟨op, a, b, wt⟩ s s' sp ∧ s'.V.length + s'.E.length ≤ i + 1) w r w') := by
    intro D op' ho hd hc
    subst ho
    refine hc.mono fun r w' h => ?_
    obtain ⟨v', s', sp, x, h1, h2, h3⟩ := h.g hgr hpv hf hN
    exact ⟨v', s', sp, x, h1, ⟨hd _ _ h2, by have := (hd _ _ h2).size; omega⟩, h3⟩
  rcases hx with hx | ⟨hx, hab⟩ | hx | hx
  · exact key hx (fun s' sp h => by unfold DoS; rw [if_pos hx]; exact h) (step_av dir hgr hr hp hB hff)
  · exact key hx (fun s' sp h => by unfold DoS; rw [if_neg (by simp only at hx ⊢; omega), if_pos hx]; exact h) (step_ae dir hgr hr hp hB hff hpv hab)
  · exact key hx (fun s' sp h => by unfold DoS; rw [if_neg (by simp only at hx ⊢; omega), if_neg (by simp only at hx ⊢; omega), if_pos hx]; exact h) (step_ct dir hgr hr hV hE)
  · exact key hx (fun s' sp h => by unfold DoS; rw [if_neg (by simp only at hx ⊢; omega), if_neg (by simp only at hx ⊢; omega), if_neg (by simp only at hx ⊢; omega)]; exact h) (step_am dir hgr hr hV hE)
end Go.Proofs.YtcenebjdhbdejaaGreatDoor

namespace Go.Proofs.YtcenebjdhbdejaaGreatDoor
open Go.MapKept

theorem Chain.inv {D : Stp → PS → PS → SP → Prop} {l : List Stp} {x : Stp} {s s2 : PS} {sps : List SP} (h : Chain D (l ++ [x]) s s2 sps) :
    ∃ s1 sps1 sp, Chain D l s s1 sps1 ∧ D x s1 s2 sp ∧ sps = sps1 ++ [sp] := by
  generalize hl : l ++ [x] = l' at h
  cases h with
  | nil => simp at hl
  | snoc hc hd =>
    obtain ⟨rfl, h2⟩ := List.append_inj' hl rfl
    simp only [List.cons.injEq, and_true] at h2
    subst h2
    exact ⟨_, _, _, hc, hd, rfl⟩
theorem Chain.inv0 {D : Stp → PS → PS → SP → Prop} {s s2 : PS} {sps : List SP} (h : Chain D [] s s2 sps) : s2 = s ∧ sps = [] := by
  generalize hl : ([] : List Stp) = l' at h
  cases h with
  | nil => exact ⟨rfl, rfl⟩
  | snoc hc hd => simp at hl

abbrev awakeL : List Stp := [⟨0, 5, 0, 0⟩, ⟨0, 5, 0, 0⟩, ⟨7, 0, 0, 0⟩]

theorem awake_chain {s : PS} {sps : List SP} (h : Chain (DoS true) awakeL ⟨[], []⟩ s sps) : ∃ p q r : SP, sps = [p, q, r] ∧ p.er = 0 ∧ q.er = 1 ∧ r.a = 1 := by
  obtain ⟨s2, sps2, r, h2, hr, rfl⟩ := Chain.inv (l := [⟨0, 5, 0, 0⟩, ⟨0, 5, 0, 0⟩]) h
  obtain ⟨s1, sps1, q, h1, hq, rfl⟩ := Chain.inv (l := [⟨0, 5, 0, 0⟩]) h2
  obtain ⟨s0, sps0, p, h0, hp, rfl⟩ := Chain.inv (l := []) h1
  obtain ⟨rfl, rfl⟩ := h0.inv0
  simp [DoS, DoAV] at hp
  obtain ⟨rfl, rfl⟩ := hp
  simp [DoS, DoAV] at hq
  obtain ⟨rfl, rfl⟩ := hq
  simp [DoS, DoCT] at hr
  obtain ⟨rfl, rfl⟩ := hr
  exact ⟨_, _, _, rfl, rfl, rfl, rfl⟩

theorem own_lit {w : World} {B e size n : Nat} {g : Nat} {cs : List Value} (h : w.heap[g]? = some (.cells cs.toArray e (0, 0))) (hB : B ≤ g) (hn : cs.length = n * size) (hm : n ≤ maxLen := by unfold maxLen; omega) : w.ownsRow B e size (.slice (some ⟨g, 0, none⟩) n n) n cs :=
  ⟨hn, Or.inr ⟨g, n, _, rfl, hB, h, Nat.le_refl _, hm, by simp [hn], by rw [← hn, List.take_length]⟩⟩

/-- it says true, and has turned nothing that was there -/
def Trues (w : World) (r : Ending) (w' : World) : Prop := r = .returned (.bool true) ∧ Ext No w w'

set_option maxRecDepth 100000 in
set_option maxHeartbeats 1000000 in
theorem awake_run {w : World} {p : Nat → Addr} (hp : Sent w p) (hB : Below6 w.heap.size p) : Calls Tryz.prog 10 #[] w (Trues w) := by
  have HS := Lib.hid (And.intro hp hB)
  clear hp hB
  go_enter Tryz.func10, Tryz.ntmps10
  go_wp2_with fail
  have e0 : Ext No w (w.alloc (.cells (awakeL.flatMap Stp.c).toArray 64)) := (Ext.refl No w).alloc _
  have hB' := HS.out.2.mono e0.size
  refine (building_run true false false (p := p) (B := w.heap.size) (B0 := w.heap.size) (l := awakeL) (HS.out.1.ext HS.out.2 e0 (fun _ h => h.elim)) HS.out.2 (own_lit (heap_alloc w _).1 (Nat.le_refl _) rfl (by decide)) (by decide) (stepsOk_adds true hB' (by decide) (by
    intro x hx
    simp only [List.mem_cons, List.not_mem_nil, or_false] at hx
    rcases hx with rfl | rfl | rfl
    · exact Or.inl rfl
    · exact Or.inl rfl
    · exact Or.inr (Or.inr (Or.inl rfl))))).mono ?_
  rintro r1 w1 ⟨ov, s, xs, sps, rfl, hc, ho, ha, he, hl⟩
  obtain ⟨P, Q, R, rfl, h1, h2, h3⟩ := awake_chain hc
  obtain ⟨x, y, z, rfl⟩ : ∃ x y z, xs = [x, y, z] := by
    match xs, hl with
    | [x, y, z], _ => exact ⟨x, y, z, rfl⟩
  have ex : x.er = 0 := by rw [← h1]; exact (ha.2 0 x P rfl rfl).er
  have ey : y.er = 1 := by rw [← h2]; exact (ha.2 1 y Q rfl rfl).er
  have ez : z.a = 1 := by rw [← h3]; exact (ha.2 2 z R rfl rfl).a
  obtain ⟨q, cap, rfl, hr⟩ := own_read (f := SaidX.c) (fun _ => rfl) ho
  obtain ⟨g, rfl, hg, hc0⟩ := hr 0 (by simp)
  obtain ⟨g1, hg1, -, hc1⟩ := hr 1 (by simp)
  obtain ⟨g2, hg2, -, hc2⟩ := hr 2 (by simp)
  simp only [Option.some.injEq, Addr.mk.injEq, and_true] at hg1 hg2
  subst hg1
  subst hg2
  have c0 : w1.cell? ⟨g, 0, none⟩ = some (.int .u8 0) := by have := hc0 0 (by decide); simpa [ex] using this
  have c1 : w1.cell? ⟨g, 6, none⟩ = some (.int .u8 1) := by have := hc1 0 (by decide); simpa [ey] using this
  have c2 : w1.cell? ⟨g, 13, none⟩ = some (.int .i64 1) := by have := hc2 1 (by decide); simpa [ez] using this
  have HE := Lib.hid (e0.trans he)
  clear hc ho ha he hl h1 h2 h3 ex ey ez hr hc0 hc1 hc2 hB' e0
  go_wp2
  go_ret
  exact ⟨rfl, HE.out⟩
end Go.Proofs.YtcenebjdhbdejaaGreatDoor
