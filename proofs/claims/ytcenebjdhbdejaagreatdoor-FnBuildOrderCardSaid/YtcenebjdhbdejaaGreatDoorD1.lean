/- The directed graph's Order and Size, walked. The undirected graph's Order and Size, walked. Printed by gend2.sh out of the directed text. -/
import Derived.Test.YtcenebjdhbdejaaGreatDoorB3
import Derived.Test.YtcenebjdhbdejaaGreatDoorU1
namespace Go.Proofs.YtcenebjdhbdejaaGreatDoor
open Go.MapKept

set_option maxRecDepth 100000 in
theorem vertexCount {w : World} {A : Ad} {σ : St} (h : Store w A σ) :
    Calls Tryz.prog 154 #[.pointer (some ⟨A.s, 0, none⟩)] w fun r w' => r = .returned (.tuple #[.int .i64 σ.V.length, .nilIface]) ∧ w = w' := by
  have hlt := h.lt
  have c0 := h.c0
  have hv := h.vm
  clear h
  go_enter Tryz.func154, Tryz.ntmps154
  go_wp2_with (first | (at_len; refine wpL_len rfl rfl U146 rfl hv ?_; simp only [List.length_map]))
  go_ret2
  exact ⟨rfl, rfl⟩

set_option maxRecDepth 100000 in
theorem d_order {w : World} {H : Hd} {τ : Tr} {σ : St} (h : Gr w H τ σ) :
    Calls Tryz.prog 109 #[.pointer (some ⟨H.d, 0, none⟩)] w fun r w' => r = .returned (.tuple #[.int .i64 σ.V.length, .nilIface]) ∧ w = w' := by
  have d2 := h.d2
  have ld := h.lt
  have HG := Lib.hid h
  clear h
  have hM1 := M145_VertexCount
  go_enter Tryz.func109, Tryz.ntmps109
  go_wp2_with fail
  refine (vertexCount (A := H.A) (σ := σ) HG.out.st).mono ?_
  rintro e1 w1 ⟨rfl, rfl⟩
  go_wp2_with fail
  go_ret2
  exact ⟨rfl, rfl⟩

/-- a round of Size -/
def SZ (w : World) (mb r : Nat) (L : List (Int × Nat)) (E' : List EdgeR) (k : Nat) (sv : Value) (wr : World) : Prop :=
  ∃ (done left : List (Int × Nat)) (cur : Option (Int × Value)), left.length = k ∧ (done ++ left).Perm L ∧ IterI kI wr r mb (L.map fun o => (o.1, .map (some o.2))) (left.map fun o => (o.1, .map (some o.2))) cur ∧
    sv = .int .i64 ((fan E' (done.map (·.1))).length) ∧ MapM wr mb L (outOf E') ∧ Ext No w wr

theorem fan_snoc (E : List EdgeR) (l : List Int) (a : Int) : (fan E (l ++ [a])).length = (fan E l).length + (outOf E a).length := by simp [fan, outOf]

/-- what Size leaves -/
def Sized (n : Int) (w : World) (r : Ending) (w' : World) : Prop := r = .returned (.tuple #[.int .i64 n, .nilIface]) ∧ Ext No w w'

theorem MapM.iter_ne {w : World} {mb r : Nat} {L : List (Int × Nat)} {F : Int → List (Int × Value)} {M left : List (Int × Value)} {cur : Option (Int × Value)} (h : MapM w mb L F) (hI : IterI kI w r mb M left cur) : ∀ c ∈ mb :: L.map (·.2), c ≠ r := by
  obtain ⟨⟨es, clk, since, seen, h1, h2, h3, h4, h5, h6⟩, h7⟩ := hI
  intro c hc e
  subst e
  rcases List.mem_cons.1 hc with rfl | hc
  · exact h7 rfl
  · obtain ⟨o, ho, rfl⟩ := List.mem_map.1 hc
    obtain ⟨⟨es', clk', g1, -⟩, -⟩ := h.inn o ho
    rw [h5] at g1; cases g1

set_option maxRecDepth 100000 in
set_option maxHeartbeats 1000000 in
theorem d_size {w : World} {H : Hd} {τ : Tr} {σ : St} (h : Gr w H τ σ) (hV : σ.V.length < 1000000) (hE : σ.E.length < 1000000) :
    Calls Tryz.prog 113 #[.pointer (some ⟨H.d, 0, none⟩)] w (Sized σ.E.length w) := by
  have HG := Lib.hid (And.intro h (And.intro hV hE))
  clear h hV hE
  go_enter Tryz.func113, Tryz.ntmps113
  go_wp2_with fail
  refine (d_adjacency HG.out.1 HG.out.2.1 HG.out.2.2).mono ?_
  rintro e1 w1 ⟨mb, L, E', rfl, hL, hE2, hM, hb, he⟩
  have HL := Lib.hid (And.intro hL (And.intro hE2 (And.intro hM (And.intro hb he))))
  have hm := hM.out
  clear hL hE2 hM hb he
  go_wp2_with (first | (at_range; (refine wpL_range rfl rfl U105 rfl hm ?_); intro w2 hI2 hs2 he2; have HI2 := Lib.hid (And.intro hI2 (And.intro hs2 he2)); clear hI2 hs2 he2))
  clear hm
  try go_frame
  go_loopg [4] L.length (fun k v wr => SZ w mb w1.heap.size L E' k v wr)
  case atStart =>
    obtain ⟨hL, hE2, hM, hb, he⟩ := HL.out
    exact ⟨[], L, _, rfl, by simp, HI2.out.1, by simp [fan], hM.ext HI2.out.2.2 (fun _ _ h => h), he.trans HI2.out.2.2⟩
  case round =>
    obtain ⟨done, left, cur, hl, hperm, hI, rfl, hM, he⟩ := hrel
    have hbd : (fan E' (done.map (·.1))).length ≤ E'.length := by
      obtain ⟨hL, hE2, hM0, hb, he0⟩ := HL.out
      have h1 : (fan E' ((done ++ left).map (·.1))).Perm (fan E' (L.map (·.1))) := fan_perm_of (hperm.map _)
      have h2 : (fan E' (L.map (·.1))).Perm E' := fan_perm hM0.keys (fun e he => by
        obtain ⟨⟨n, hn⟩, -⟩ := HG.out.1.st.ends e (hE2.mem_iff.1 he)
        exact hL.mem_iff.2 (List.mem_map.2 ⟨_, hn, rfl⟩))
      have h3 := (h1.trans h2).length_eq
      simp only [fan, List.map_append, List.flatMap_append, List.length_append] at h3 ⊢
      omega
    have hbd2 : E'.length < 1000000 := by have := HL.out.2.1.length_eq; have h2 := HG.out.2.2; omega
    have HR := Lib.hid (And.intro hl (And.intro hperm (And.intro hM he)))
    clear hl hperm hM he
    have hb3 : ∀ o ∈ L, (fan E' (done.map (·.1))).length + (outOf E' o.1).length < 2000000 := by
      intro o _
      have : (outOf E' o.1).length ≤ E'.length := by unfold outOf; rw [List.length_map]; exact List.length_filter_le _ _
      omega
    have HB := Lib.hid hb3
    clear hb3
    go_wp2_with (first
      | (at_next; (refine wpL_nextM (g := fun o : Int × Nat => (o.1, Value.map (some o.2))) rfl rfl rfl hI ?_ ?_); intro h0; rotate_left; intro l1 y l2 wn h1 hIn hsn hen hE; have hmem : y ∈ L := HR.out.2.1.mem_iff.1 (by rw [h1]; simp); have hMn := HR.out.2.2.1.ext hen (fun c hc e => HR.out.2.2.1.iter_ne hI c hc e); have hin := hMn.inn y hmem; have hb4 := HB.out y hmem; have HS := Lib.hid (And.intro hsn (And.intro h1 (And.intro hMn (And.intro hmem (And.intro hIn hen))))); clear hsn h1 hMn hmem hIn hen; rotate_left)
      | (at_len; refine wpL_len rfl rfl U107 rfl hin ?_))
    · go_ret2
      subst h0
      obtain ⟨hl, hperm, hM, he⟩ := HR.out
      refine ⟨?_, he⟩
      obtain ⟨hL, hE2, hM0, hb, he0⟩ := HL.out
      have h2 : (fan E' (L.map (·.1))).Perm E' := fan_perm hM0.keys (fun e he => by
        obtain ⟨⟨n, hn⟩, -⟩ := HG.out.1.st.ends e (hE2.mem_iff.1 he)
        exact hL.mem_iff.2 (List.mem_map.2 ⟨_, hn, rfl⟩))
      have hp : (done.map (·.1)).Perm (L.map (·.1)) := by simpa using hperm.map (·.1)
      have h3 := ((fan_perm_of (E := E') hp).trans (h2.trans hE2)).length_eq
      rw [h3]; rfl
    · go_roundg (l1 ++ l2).length
      case measure => have h1 := HR.out.1; have h2 := HS.out.2.1; subst h2; simp at h1 ⊢; omega
      case rel =>
        obtain ⟨hl, hperm, hM, he⟩ := HR.out
        obtain ⟨hsn, h1, hMn, hmem, hIn, hen⟩ := HS.out
        have hr : w.heap.size ≤ w1.heap.size := HL.out.2.2.2.2.size
        refine ⟨done ++ [y], l1 ++ l2, _, rfl, ?_, hIn, by rw [List.map_append, List.map_cons, List.map_nil, fan_snoc]; simp, hMn, he.then hen (fun c hc e => by omega)⟩
        rw [h1] at hperm
        refine List.Perm.trans ?_ hperm
        simp only [List.append_assoc, List.singleton_append]
        exact List.Perm.append_left _ List.perm_middle.symm
end Go.Proofs.YtcenebjdhbdejaaGreatDoor
namespace Go.Proofs.YtcenebjdhbdejaaGreatDoor
open Go.MapKept

set_option maxRecDepth 100000 in
theorem u_order {w : World} {H : Hd} {τ : Tr} {σ : St} (h : Gr w H τ σ) :
    Calls Tryz.prog 134 #[.pointer (some ⟨H.d, 0, none⟩)] w fun r w' => r = .returned (.tuple #[.int .i64 σ.V.length, .nilIface]) ∧ w = w' := by
  have d2 := h.d2
  have ld := h.lt
  have HG := Lib.hid h
  clear h
  have hM1 := M145_VertexCount
  go_enter Tryz.func134, Tryz.ntmps134
  go_wp2_with fail
  refine (vertexCount (A := H.A) (σ := σ) HG.out.st).mono ?_
  rintro e1 w1 ⟨rfl, rfl⟩
  go_wp2_with fail
  go_ret2
  exact ⟨rfl, rfl⟩

set_option maxRecDepth 100000 in
set_option maxHeartbeats 1000000 in
theorem u_size {w : World} {H : Hd} {τ : Tr} {σ : St} (h : Gr w H τ σ) (hV : σ.V.length < 1000000) (hE : σ.E.length < 1000000) :
    Calls Tryz.prog 138 #[.pointer (some ⟨H.d, 0, none⟩)] w (Sized ((σ.E.length : Int) / 2) w) := by
  have HG := Lib.hid (And.intro h (And.intro hV hE))
  clear h hV hE
  go_enter Tryz.func138, Tryz.ntmps138
  go_wp2_with fail
  refine (u_adjacency HG.out.1 HG.out.2.1 HG.out.2.2).mono ?_
  rintro e1 w1 ⟨mb, L, E', rfl, hL, hE2, hM, hb, he⟩
  have HL := Lib.hid (And.intro hL (And.intro hE2 (And.intro hM (And.intro hb he))))
  have hm := hM.out
  clear hL hE2 hM hb he
  go_wp2_with (first | (at_range; (refine wpL_range rfl rfl U105 rfl hm ?_); intro w2 hI2 hs2 he2; have HI2 := Lib.hid (And.intro hI2 (And.intro hs2 he2)); clear hI2 hs2 he2))
  clear hm
  try go_frame
  go_loopg [4] L.length (fun k v wr => SZ w mb w1.heap.size L E' k v wr)
  case atStart =>
    obtain ⟨hL, hE2, hM, hb, he⟩ := HL.out
    exact ⟨[], L, _, rfl, by simp, HI2.out.1, by simp [fan], hM.ext HI2.out.2.2 (fun _ _ h => h), he.trans HI2.out.2.2⟩
  case round =>
    obtain ⟨done, left, cur, hl, hperm, hI, rfl, hM, he⟩ := hrel
    have hbd : (fan E' (done.map (·.1))).length ≤ E'.length := by
      obtain ⟨hL, hE2, hM0, hb, he0⟩ := HL.out
      have h1 : (fan E' ((done ++ left).map (·.1))).Perm (fan E' (L.map (·.1))) := fan_perm_of (hperm.map _)
      have h2 : (fan E' (L.map (·.1))).Perm E' := fan_perm hM0.keys (fun e he => by
        obtain ⟨⟨n, hn⟩, -⟩ := HG.out.1.st.ends e (hE2.mem_iff.1 he)
        exact hL.mem_iff.2 (List.mem_map.2 ⟨_, hn, rfl⟩))
      have h3 := (h1.trans h2).length_eq
      simp only [fan, List.map_append, List.flatMap_append, List.length_append] at h3 ⊢
      omega
    have hbd2 : E'.length < 1000000 := by have := HL.out.2.1.length_eq; have h2 := HG.out.2.2; omega
    have HR := Lib.hid (And.intro hl (And.intro hperm (And.intro hM he)))
    clear hl hperm hM he
    have hb3 : ∀ o ∈ L, (fan E' (done.map (·.1))).length + (outOf E' o.1).length < 2000000 := by
      intro o _
      have : (outOf E' o.1).length ≤ E'.length := by unfold outOf; rw [List.length_map]; exact List.length_filter_le _ _
      omega
    have HB := Lib.hid hb3
    clear hb3
    go_wp2_with (first
      | (at_next; (refine wpL_nextM (g := fun o : Int × Nat => (o.1, Value.map (some o.2))) rfl rfl rfl hI ?_ ?_); intro h0; rotate_left; intro l1 y l2 wn h1 hIn hsn hen hE; have hmem : y ∈ L := HR.out.2.1.mem_iff.1 (by rw [h1]; simp); have hMn := HR.out.2.2.1.ext hen (fun c hc e => HR.out.2.2.1.iter_ne hI c hc e); have hin := hMn.inn y hmem; have hb4 := HB.out y hmem; have HS := Lib.hid (And.intro hsn (And.intro h1 (And.intro hMn (And.intro hmem (And.intro hIn hen))))); clear hsn h1 hMn hmem hIn hen; rotate_left)
      | (at_len; refine wpL_len rfl rfl U107 rfl hin ?_))
    · go_ret2
      subst h0
      obtain ⟨hl, hperm, hM, he⟩ := HR.out
      refine ⟨?_, he⟩
      obtain ⟨hL, hE2, hM0, hb, he0⟩ := HL.out
      have h2 : (fan E' (L.map (·.1))).Perm E' := fan_perm hM0.keys (fun e he => by
        obtain ⟨⟨n, hn⟩, -⟩ := HG.out.1.st.ends e (hE2.mem_iff.1 he)
        exact hL.mem_iff.2 (List.mem_map.2 ⟨_, hn, rfl⟩))
      have hp : (done.map (·.1)).Perm (L.map (·.1)) := by simpa using hperm.map (·.1)
      have h3 := ((fan_perm_of (E := E') hp).trans (h2.trans hE2)).length_eq
      rw [h3]; rfl
    · go_roundg (l1 ++ l2).length
      case measure => have h1 := HR.out.1; have h2 := HS.out.2.1; subst h2; simp at h1 ⊢; omega
      case rel =>
        obtain ⟨hl, hperm, hM, he⟩ := HR.out
        obtain ⟨hsn, h1, hMn, hmem, hIn, hen⟩ := HS.out
        have hr : w.heap.size ≤ w1.heap.size := HL.out.2.2.2.2.size
        refine ⟨done ++ [y], l1 ++ l2, _, rfl, ?_, hIn, by rw [List.map_append, List.map_cons, List.map_nil, fan_snoc]; simp, hMn, he.then hen (fun c hc e => by omega)⟩
        rw [h1] at hperm
        refine List.Perm.trans ?_ hperm
        simp only [List.append_assoc, List.singleton_append]
        exact List.Perm.append_left _ List.perm_middle.symm

end Go.Proofs.YtcenebjdhbdejaaGreatDoor
