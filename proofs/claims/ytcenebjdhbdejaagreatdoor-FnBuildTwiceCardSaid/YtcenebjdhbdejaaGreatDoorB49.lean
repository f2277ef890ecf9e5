/- FnBuildTwice: the plain law. -/
import Derived.Test.YtcenebjdhbdejaaGreatDoorB48
namespace Go.Proofs.YtcenebjdhbdejaaGreatDoor
open Go.MapKept

theorem said_field0 (er a b wt : Int) (ks es : Value) (W : World) : (Instr.field 41 (saidV er a b wt ks es) 0).run Tryz.prog W = .ok (.int .u8 er) W := by kernel_rfl

theorem fine_loop {s : PS} (hf : Fine false s) : ∀ e ∈ s.E, e.1 ≠ e.2.1 := by
  intro e he heq
  have hu := hf.uq
  obtain ⟨A, B, hAB⟩ := List.append_of_mem he
  rw [hAB] at hu
  have : ((stored false (A ++ e :: B)).map prT) = (stored false A).map prT ++ (prT e :: prT (revT e) :: (stored false B).map prT) := by
    simp [stored]
  rw [this] at hu
  have h2 := (List.nodup_append.1 hu).2.1
  have h3 := (List.nodup_cons.1 h2).1
  apply h3
  have : prT e = prT (revT e) := by simp [heq]
  rw [this]
  exact List.mem_cons_self

/-- THE PLAIN LAW of FnBuildTwice -/
theorem twice_law {d : Bool} {l o : List Stp} {sx sy m n s' : PS} {spx spy spm spn : List SP} {K : List Int} {k j : Nat} {L : List Tri} {ev : Int} {sp : SP} (hx : Chain (DoI d) l ⟨[], []⟩ sx spx) (hy : Chain (DoI d) o ⟨[], []⟩ sy spy) (hm : Chain (DoM d) l ⟨[], []⟩ m spm) (hn : Chain (DoM d) o ⟨[], []⟩ n spn) (hr : ∀ x ∈ l, rightS d x = true) (hr2 : ∀ x ∈ o, rightS d x = true)
    (hv : VsSaid sx sy K k ev) (ha : DoAM d ⟨sy.V ++ K.take k, sy.E ++ L.take j⟩ s' sp) (hf : Fine d ⟨sy.V ++ K.take k, sy.E ++ L.take j⟩) :
    ((ev = 0 ∧ (m.V.any fun v => decide (v ∈ n.V)) = false) ∨ (ev = 1 ∧ (m.V.any fun v => decide (v ∈ n.V)) = true)) ∧ (∀ v ∈ n.V, v ∈ sp.ks) ∧ ∀ e ∈ n.E.flatMap (bothL d false), e ∈ sp.es := by
  obtain ⟨hS, hF⟩ := chains_sim hx hm hr
  obtain ⟨hS2, hF2⟩ := chains_sim hy hn hr2
  obtain ⟨-, -, -, -, -, h1, -, h2, -⟩ := ha
  obtain ⟨hK, hv⟩ := hv
  have hKn : K.Nodup := hK.nodup_iff.2 (hS.fine hF).nd
  refine ⟨?_, fun v h => ?_, fun e h => ?_⟩
  · rcases hv with ⟨rfl, rfl⟩ | ⟨hk, hb, rfl⟩
    · refine Or.inl ⟨rfl, ?_⟩
      have hnd := hf.nd
      simp only [List.take_length] at hnd
      rw [List.any_eq_false]
      intro v hv1 hv2
      have hvK : v ∈ K := hK.mem_iff.2 (hS.V.mem_iff.2 hv1)
      have hvy : v ∈ sy.V := hS2.V.mem_iff.2 (by simpa using hv2)
      exact (List.nodup_append.1 hnd).2.2 v hvy v hvK rfl
    · refine Or.inr ⟨rfl, ?_⟩
      rw [List.any_eq_true]
      have hin : K[k] ∈ sy.V := by
        rcases List.mem_append.1 hb with h | h
        · exact h
        · exfalso
          obtain ⟨i, hi, he⟩ := List.mem_take_iff_getElem.1 h
          exact List.pairwise_iff_getElem.1 hKn i k (by omega) hk (by omega) he
      exact ⟨K[k], hS.V.mem_iff.1 (hK.mem_iff.1 (List.getElem_mem hk)), by simpa using hS2.V.mem_iff.1 hin⟩
  · exact h1.mem_iff.2 (List.mem_append.2 (Or.inl (hS2.V.mem_iff.2 h)))
  · rw [both_adj (fun hd => by subst hd; exact fine_loop hF2)] at h
    refine h2.mem_iff.2 ?_
    have : e ∈ stored d sy.E := hS2.E.mem_iff.2 h
    rw [stored_app]
    exact List.mem_append.2 (Or.inl this)

theorem chain_len {d : Bool} {l : List Stp} {s : PS} {sps : List SP} (h : Chain (DoI d) l ⟨[], []⟩ s sps) : s.V.length + s.E.length ≤ l.length := by
  obtain ⟨f, f0, f1, f2, f3⟩ := h.seq
  have key : ∀ i, i ≤ l.length → (f i).V.length + (f i).E.length ≤ i := by
    intro i
    induction i with
    | zero => intro _; rw [f0]; simp
    | succ i ih =>
      intro hi
      have := ih (by omega)
      have := (f3 i (by omega) (by omega)).size
      omega
  have := key l.length (Nat.le_refl _)
  rw [f1] at this
  exact this

theorem said_len {d : Bool} {l o : List Stp} {sx sy s' : PS} {spx spy : List SP} {K : List Int} {k j : Nat} {L : List Tri} {ev ee : Int} {sp : SP} (hx : Chain (DoI d) l ⟨[], []⟩ sx spx) (hy : Chain (DoI d) o ⟨[], []⟩ sy spy)
    (hv : VsSaid sx sy K k ev) (he : EsSaid d sx ⟨sy.V ++ K.take k, sy.E⟩ L j ee) (ha : DoAM d ⟨sy.V ++ K.take k, sy.E ++ L.take j⟩ s' sp) : sp.ks.length ≤ l.length + o.length ∧ sp.es.length ≤ 2 * (l.length + o.length) := by
  obtain ⟨-, -, -, -, -, h1, -, h2, -⟩ := ha
  have hl := chain_len hx
  have ho := chain_len hy
  have hK := hv.1.length_eq
  have hL := he.1.length_eq
  rw [h1.length_eq, h2.length_eq]
  rw [stored_len, stored_len] at hL
  rw [stored_len, List.length_append, List.length_append, List.length_take, List.length_take]
  cases d <;> simp at hL ⊢ <;> omega

/-- one model's step leaves another as it was -/
theorem Mo.off {w w' : World} {N mm n2 : Nat} {dir prev : Bool} {s : PS} {vs es : Value} {cs : Array Value} {fr : Nat × Nat} (h : Mo w N mm dir prev s vs es) (he : Ext (fun c => c = n2) w w') (hne : mm ≠ n2) (hr : w.heap[n2]? = some (.cells cs 29 fr)) : Mo w' N mm dir prev s vs es :=
  h.ext he hne (fun c hc e => row_ne hr h.V (by decide) (by rw [hc, e])) (fun c hc e => row_ne hr h.E (by decide) (by rw [hc, e]))

/-- a round that asks of each vertex whether the other list has it -/
def ASR (V U : List Int) (N mm : Nat) (dir : Bool) (n : PS) (w0 : World) (k : Nat) (tv iv : Value) (wr : World) : Prop :=
  ∃ i : Nat, tv = .bool ((V.take i).any fun v => decide (v ∈ U)) ∧ iv = .int .i64 i ∧ i + k = V.length ∧ (∃ vs es, Mo wr N mm dir false n vs es) ∧ Ext (fun c => c = mm) w0 wr

/-- a round that looks for one among some -/
def FIR (p : Nat → Bool) (n : Nat) (w0 : World) (k : Nat) (tv iv : Value) (wr : World) : Prop :=
  ∃ i : Nat, tv = .bool ((List.range i).any p) ∧ iv = .int .i64 i ∧ i + k = n ∧ Ext No w0 wr

/-- a round of finding each -/
def EAR (n : Nat) (w0 : World) (k : Nat) (iv : Value) (wr : World) : Prop := ∃ i : Nat, iv = .int .i64 i ∧ i + k = n ∧ Ext No w0 wr
end Go.Proofs.YtcenebjdhbdejaaGreatDoor
