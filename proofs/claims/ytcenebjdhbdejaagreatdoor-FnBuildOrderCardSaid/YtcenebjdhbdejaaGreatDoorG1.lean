/- Cutting a slice of steps. -/
import Derived.Test.YtcenebjdhbdejaaGreatDoorG0
import Derived.Test.YtcenebjdhbdejaaGreatDoorL2
namespace Go.Proofs.YtcenebjdhbdejaaGreatDoor

theorem sz35' (w : World) : (sizeOf 35).run Tryz.prog w = .ok 4 w := by kernel_rfl
theorem U22' : Tryz.prog.underlying 22 = some (.slice 35) := by kernel_rfl
theorem el22 : Tryz.prog.elem 22 = 35 := by kernel_rfl

theorem sl_head (q : Option Addr) {n cap k : Nat} (hk : k ≤ cap) (W : World) :
    (Instr.slice 22 (.slice q n cap) none (some (.int .i64 k)) none).run Tryz.prog W = .ok (.slice q k cap) W := by
  rw [run_slice_h W 22 _ _ _ (by rw [el22]; exact U22') .i64 _ (by omega) (by omega), el22, sz35']
  have h0 : q.map (fun x => x.add 0) = q := by cases q <;> simp [Addr.add]
  simp [Result.andThen, sliced, h0]

theorem sl_tail {w : World} {B : Nat} {q : Option Addr} {cap : Nat} {xs : List Stp} (h : w.ownsRow B 35 4 (.slice q xs.length cap) xs.length (xs.flatMap Stp.c)) {k : Nat} (hk : k ≤ xs.length) :
    ∃ q' c', (∀ W, (Instr.slice 22 (.slice q xs.length cap) (some (.int .i64 k)) none none).run Tryz.prog W = .ok (.slice q' (xs.length - k) c') W) ∧ RdG w (.slice q' (xs.length - k) c') (xs.drop k) Stp.c := by
  refine ⟨if cap = k then q else q.map (·.add (k * 4)), cap - k, fun W => ?_, ?_⟩
  · rw [run_slice_l W 22 _ _ _ (by rw [el22]; exact U22') .i64 _ (by omega) (by omega), el22, sz35']
    simp [Result.andThen, sliced]
  · refine ⟨_, _, by rw [List.length_drop], ?_⟩
    obtain ⟨q1, c1, hq, hr⟩ := RdS.of_own h
    simp only [Value.slice.injEq] at hq
    obtain ⟨rfl, -, rfl⟩ := hq
    by_cases he : xs.drop k = []
    · exact Or.inl he
    · have hlt : k < xs.length := by
        rcases Nat.lt_or_ge k xs.length with h | h
        · exact h
        · exact absurd (List.drop_eq_nil_of_le h) he
      have hcap : xs.length ≤ cap := by
        rcases h.2 with ⟨h0, -⟩ | ⟨g, cap', cur, hv, -, -, hnc, -⟩
        · simp only [Value.slice.injEq] at h0; omega
        · simp only [Value.slice.injEq] at hv; omega
      rcases hr with ⟨-, rfl⟩ | ⟨b, rfl, hb, hc⟩
      · simp at hlt
      · refine Or.inr ⟨b, k * 4, ?_, hb, fun j x hx => ?_⟩
        · rw [if_neg (by omega)]
          simp only [Option.map_some, Option.some.injEq]
          unfold Addr.add
          split
          · next h0 => rw [h0]
          · simp
        · refine hc _ _ ?_
          have key : ∀ (l : List Stp) (k : Nat), k ≤ l.length → (l.flatMap Stp.c)[k * 4 + j]? = ((l.drop k).flatMap Stp.c)[j]? := by
            intro l k
            induction k generalizing l with
            | zero => intro _; simp
            | succ k ih =>
              intro hk
              match l, hk with
              | y :: l, hk =>
                simp only [List.flatMap_cons, List.drop_succ_cons]
                rw [List.getElem?_append_right (by simp; omega)]
                have := ih l (by simpa using hk)
                rw [← this]
                congr 1
                simp; omega
          rw [key xs k (by omega)]; exact hx
end Go.Proofs.YtcenebjdhbdejaaGreatDoor
