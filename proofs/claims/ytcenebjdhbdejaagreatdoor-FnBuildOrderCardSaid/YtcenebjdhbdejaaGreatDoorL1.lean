/- The laws' own helpers: buildAwake, walked. -/
import Derived.Test.YtcenebjdhbdejaaGreatDoorR4
namespace Go.Proofs.YtcenebjdhbdejaaGreatDoor
open Go.MapKept

theorem Chain.inv {D : Stp → PS → PS → SP → Prop} {l : List Stp} {x : Stp} {s s2 : PS} {sps : List SP} (h : Chain D (l ++ [x]) s s2 sps) :
    ∃ s1 sps1 sp, Chain D l s s1 sps1 ∧ D x s1 s2 sp ∧ sps = sps1 ++ [sp] := by
  generalize hl : l ++ [x] = l' at h
  cases h with
  | nil => simp at hl
  | snoc hc hd =>
    obtain ⟨rfl, h2⟩ := List.append_inj' hl rfl
    simp only [List.cons.injEq, and_true] at h2
    subst h2
    exact ⟨_, _, _, hc, hd, rfl⟩
theorem Chain.inv0 {D : Stp → PS → PS → SP → Prop} {s s2 : PS} {sps : List SP} (h : Chain D [] s s2 sps) : s2 = s ∧ sps = [] := by
  generalize hl : ([] : List Stp) = l' at h
  cases h with
  | nil => exact ⟨rfl, rfl⟩
  | snoc hc hd => simp at hl

abbrev awakeL : List Stp := [⟨0, 5, 0, 0⟩, ⟨0, 5, 0, 0⟩, ⟨7, 0, 0, 0⟩]

theorem awake_chain {s : PS} {sps : List SP} (h : Chain (DoS true) awakeL ⟨[], []⟩ s sps) : ∃ p q r : SP, sps = [p, q, r] ∧ p.er = 0 ∧ q.er = 1 ∧ r.a = 1 := by
  obtain ⟨s2, sps2, r, h2, hr, rfl⟩ := Chain.inv (l := [⟨0, 5, 0, 0⟩, ⟨0, 5, 0, 0⟩]) h
  obtain ⟨s1, sps1, q, h1, hq, rfl⟩ := Chain.inv (l := [⟨0, 5, 0, 0⟩]) h2
  obtain ⟨s0, sps0, p, h0, hp, rfl⟩ := Chain.inv (l := []) h1
  obtain ⟨rfl, rfl⟩ := h0.inv0
  simp [DoS, DoAV] at hp
  obtain ⟨rfl, rfl⟩ := hp
  simp [DoS, DoAV] at hq
  obtain ⟨rfl, rfl⟩ := hq
  simp [DoS, DoCT] at hr
  obtain ⟨rfl, rfl⟩ := hr
  exact ⟨_, _, _, rfl, rfl, rfl, rfl⟩

theorem own_lit {w : World} {B e size n : Nat} {g : Nat} {cs : List Value} (h : w.heap[g]? = some (.cells cs.toArray e (0, 0))) (hB : B ≤ g) (hn : cs.length = n * size) (hm : n ≤ maxLen := by unfold maxLen; omega) : w.ownsRow B e size (.slice (some ⟨g, 0, none⟩) n n) n cs :=
  ⟨hn, Or.inr ⟨g, n, _, rfl, hB, h, Nat.le_refl _, hm, by simp [hn], by rw [← hn, List.take_length]⟩⟩

/-- it says true, and has turned nothing that was there -/
def Trues (w : World) (r : Ending) (w' : World) : Prop := r = .returned (.bool true) ∧ Ext No w w'

set_option maxRecDepth 100000 in
set_option maxHeartbeats 1000000 in
theorem awake_run {w : World} {p : Nat → Addr} (hp : Sent w p) (hB : Below6 w.heap.size p) : Calls Tryz.prog 10 #[] w (Trues w) := by
  have HS := Lib.hid (And.intro hp hB)
  clear hp hB
  go_enter Tryz.func10, Tryz.ntmps10
  go_wp2_with fail
  have e0 : Ext No w (w.alloc (.cells (awakeL.flatMap Stp.c).toArray 64)) := (Ext.refl No w).alloc _
  have hB' := HS.out.2.mono e0.size
  refine (building_run true false false (p := p) (B := w.heap.size) (B0 := w.heap.size) (l := awakeL) (HS.out.1.ext HS.out.2 e0 (fun _ h => h.elim)) HS.out.2 (own_lit (heap_alloc w _).1 (Nat.le_refl _) rfl (by decide)) (by decide) (stepsOk_adds true hB' (by decide) (by
    intro x hx
    simp only [List.mem_cons, List.not_mem_nil, or_false] at hx
    rcases hx with rfl | rfl | rfl
    · exact Or.inl rfl
    · exact Or.inl rfl
    · exact Or.inr (Or.inr (Or.inl rfl))))).mono ?_
  rintro r1 w1 ⟨ov, s, xs, sps, rfl, hc, ho, ha, he, hl⟩
  obtain ⟨P, Q, R, rfl, h1, h2, h3⟩ := awake_chain hc
  obtain ⟨x, y, z, rfl⟩ : ∃ x y z, xs = [x, y, z] := by
    match xs, hl with
    | [x, y, z], _ => exact ⟨x, y, z, rfl⟩
  have ex : x.er = 0 := by rw [← h1]; exact (ha.2 0 x P rfl rfl).er
  have ey : y.er = 1 := by rw [← h2]; exact (ha.2 1 y Q rfl rfl).er
  have ez : z.a = 1 := by rw [← h3]; exact (ha.2 2 z R rfl rfl).a
  obtain ⟨q, cap, rfl, hr⟩ := own_read (f := SaidX.c) (fun _ => rfl) ho
  obtain ⟨g, rfl, hg, hc0⟩ := hr 0 (by simp)
  obtain ⟨g1, hg1, -, hc1⟩ := hr 1 (by simp)
  obtain ⟨g2, hg2, -, hc2⟩ := hr 2 (by simp)
  simp only [Option.some.injEq, Addr.mk.injEq, and_true] at hg1 hg2
  subst hg1
  subst hg2
  have c0 : w1.cell? ⟨g, 0, none⟩ = some (.int .u8 0) := by have := hc0 0 (by decide); simpa [ex] using this
  have c1 : w1.cell? ⟨g, 6, none⟩ = some (.int .u8 1) := by have := hc1 0 (by decide); simpa [ey] using this
  have c2 : w1.cell? ⟨g, 13, none⟩ = some (.int .i64 1) := by have := hc2 1 (by decide); simpa [ez] using this
  have HE := Lib.hid (e0.trans he)
  clear hc ho ha he hl h1 h2 h3 ex ey ez hr hc0 hc1 hc2 hB' e0
  go_wp2
  go_ret
  exact ⟨rfl, HE.out⟩
end Go.Proofs.YtcenebjdhbdejaaGreatDoor
