/- AddVerticesFrom of either kind, walked. (The undirected theorem is printed by ren.py out of the directed one.) -/
import Derived.Test.YtcenebjdhbdejaaGreatDoorB32
import Derived.Test.YtcenebjdhbdejaaGreatDoorB09
import Derived.Test.YtcenebjdhbdejaaGreatDoorB18
namespace Go.Proofs.YtcenebjdhbdejaaGreatDoor
open Go.MapKept

/-- two graphs have no block in common -/
def Apart (H : Hd) (σ : St) (H2 : Hd) (σ2 : St) : Prop := ∀ c, Gr.foot H σ c → ¬ Gr.foot H2 σ2 c

theorem Turned.trans {w w1 w2 : World} {H : Hd} {τ : Tr} {σ σ1 σ2 : St} (h : Turned H τ σ σ1 w w1) (h2 : Turned H τ σ1 σ2 w1 w2) : Turned H τ σ σ2 w w2 := by
  obtain ⟨g, e, f⟩ := h
  obtain ⟨g2, e2, f2⟩ := h2
  refine ⟨g2, e.then e2 (fun c hc hh => ?_), fun c hc => ?_⟩
  · rcases f c hh with h | h
    · exact h
    · omega
  · rcases f2 c hc with h | h
    · exact f c h
    · exact Or.inr (Nat.le_trans e.size h)
theorem Turned.off {w w1 w2 : World} {H : Hd} {τ : Tr} {σ σ1 : St} {S : Nat → Prop} (h : Turned H τ σ σ1 w w1) (he : Ext S w1 w2) (hf : ∀ c, Gr.foot H σ1 c → ¬ S c) (hS : ∀ c, S c → w.heap.size ≤ c) : Turned H τ σ σ1 w w2 :=
  ⟨h.1.ext he hf, h.2.1.then he (fun c hc hs => by have := hS c hs; omega), h.2.2⟩
theorem Turned.no {w w1 w2 : World} {H : Hd} {τ : Tr} {σ σ1 : St} (h : Turned H τ σ σ1 w w1) (he : Ext No w1 w2) : Turned H τ σ σ1 w w2 := h.off he (fun _ _ h => h) (fun _ h => h.elim)
theorem Turned.pre {w0 w w1 : World} {H : Hd} {τ : Tr} {σ σ1 : St} (he : Ext No w0 w) (h : Turned H τ σ σ1 w w1) : Turned H τ σ σ1 w0 w1 :=
  ⟨h.1, he.no.trans h.2.1, fun c hc => (h.2.2 c hc).imp id (fun x => Nat.le_trans he.size x)⟩
theorem Turned.other {w w1 : World} {H H2 : Hd} {τ τ2 : Tr} {σ σ1 σ2 : St} (h : Turned H τ σ σ1 w w1) (ha : Apart H σ H2 σ2) (h2 : Gr w H2 τ2 σ2) : Gr w1 H2 τ2 σ2 :=
  h2.ext h.2.1 (fun c hc hh => ha c (Or.inr (Or.inr hh)) hc)
theorem Gr.foot_lt {w : World} {H : Hd} {τ : Tr} {σ : St} (h : Gr w H τ σ) {c : Nat} (hc : Gr.foot H σ c) : c < w.heap.size := by
  rcases hc with rfl | rfl | hc
  · exact h.lt
  · exact h.ltt
  · exact h.st.foot_lt hc
theorem Apart.turned {w w1 : World} {H H2 : Hd} {τ τ2 : Tr} {σ σ1 σ2 : St} (ha : Apart H σ H2 σ2) (h : Turned H τ σ σ1 w w1) (h2 : Gr w H2 τ2 σ2) : Apart H σ1 H2 σ2 := by
  intro c hc h3
  rcases hc with rfl | rfl | hc
  · exact ha _ (Or.inl rfl) h3
  · exact ha _ (Or.inr (Or.inl rfl)) h3
  · rcases h.2.2 c hc with h | h
    · exact ha c (Or.inr (Or.inr h)) h3
    · have := h2.foot_lt h3; omega

/-- what AddVerticesFrom leaves: the vertices in some order, up to the first that is there already -/
def AddedVs (p : Nat → Addr) (H : Hd) (τ : Tr) (σ : St) (K0 : List Int) (w : World) (r : Ending) (w' : World) : Prop :=
  ∃ (K : List Int) (n : Nat) (σ' : St), K.Perm K0 ∧ Turned H τ σ σ' w w' ∧ σ'.V.map (·.1) = σ.V.map (·.1) ++ K.take n ∧ σ'.E = σ.E ∧
    ((n = K.length ∧ r = .returned .nilIface) ∨ ∃ hn : n < K.length, K[n] ∈ σ.V.map (·.1) ++ K.take n ∧ r = .returned ((Er.wrap (.sent 0)).val p))

/-- a round -/
def VFR (H : Hd) (τ : Tr) (σ : St) (w : World) (r mb : Nat) (L : List (Int × Nat)) (k : Nat) (wr : World) : Prop :=
  ∃ (done left : List (Int × Nat)) (cur : Option (Int × Value)) (σ' : St), left.length = k ∧ (done ++ left).Perm L ∧ IterI kI wr r mb (L.map fun o => (o.1, .map (some o.2))) (left.map fun o => (o.1, .map (some o.2))) cur ∧
    Turned H τ σ σ' w wr ∧ σ'.V.map (·.1) = σ.V.map (·.1) ++ done.map (·.1) ∧ σ'.E = σ.E ∧ ¬ σ'.foot H.A mb ∧ ¬ σ'.foot H.A r

/-- ahead of the call that adds o -/
structure VN (p : Nat → Addr) (H : Hd) (τ : Tr) (σ σ' : St) (H2 : Hd) (τ2 : Tr) (σ2 : St) (w : World) (r mb : Nat) (L done l1 l2 : List (Int × Nat)) (o : Int × Nat) (k n : Nat) (wn : World) : Prop where
  g : Gr wn H τ σ'
  g2 : Gr wn H2 τ2 σ2
  s : Sent wn p
  t : Turned H τ σ σ' w wn
  it : ∃ cur, IterI kI wn r mb (L.map fun o => (o.1, .map (some o.2))) ((l1 ++ l2).map fun o => (o.1, .map (some o.2))) cur
  mem : (o.1, n) ∈ σ2.V
  perm : (done ++ [o] ++ (l1 ++ l2)).Perm L
  len : (l1 ++ l2).length + 1 = k
  V : σ'.V.map (·.1) = σ.V.map (·.1) ++ done.map (·.1)
  E : σ'.E = σ.E
  nm : ¬ σ'.foot H.A mb
  nr : ¬ σ'.foot H.A r

theorem VN.of {p : Nat → Addr} {B : Nat} {H : Hd} {τ : Tr} {σ σ' : St} {H2 : Hd} {τ2 : Tr} {σ2 : St} {w wr wn : World} {r mb : Nat} {L done left l1 l2 : List (Int × Nat)} {o : Int × Nat} {k : Nat} {cur : Option (Int × Value)}
    (hg : Gr w H τ σ) (hg2 : Gr w H2 τ2 σ2) (ha : Apart H σ H2 σ2) (hs : Sent w p) (hB : Below6 B p) (hf : ∀ c, σ.foot H.A c → B ≤ c) (hL : (L.map (·.1)).Perm (σ2.V.map (·.1))) (hr : w.heap.size ≤ r) (_hBw : B ≤ w.heap.size)
    (hl : left.length = k) (hperm : (done ++ left).Perm L) (ht : Turned H τ σ σ' w wr) (hV : σ'.V.map (·.1) = σ.V.map (·.1) ++ done.map (·.1)) (hE : σ'.E = σ.E) (nm : ¬ σ'.foot H.A mb) (nr : ¬ σ'.foot H.A r)
    (h1 : left = l1 ++ o :: l2) (hI : IterI kI wn r mb (L.map fun o => (o.1, .map (some o.2))) ((l1 ++ l2).map fun o => (o.1, .map (some o.2))) cur) (hen : Ext (fun c => c = r) wr wn) :
    ∃ n, VN p H τ σ σ' H2 τ2 σ2 w r mb L done l1 l2 o k n wn := by
  subst h1
  have hp : (done ++ [o] ++ (l1 ++ l2)).Perm L := by
    refine List.Perm.trans ?_ hperm
    simp only [List.append_assoc, List.singleton_append]
    exact List.Perm.append_left _ List.perm_middle.symm
  have hm : o.1 ∈ σ2.V.map (·.1) := hL.mem_iff.1 (List.mem_map.2 ⟨o, hp.mem_iff.1 (by simp), rfl⟩)
  obtain ⟨v, hv, h2⟩ := List.mem_map.1 hm
  have ht' : Turned H τ σ σ' w wn := ht.off hen (fun c hc e => by
    subst e
    rcases hc with hc | hc | hc
    · have := hg.lt; omega
    · have := hg.ltt; omega
    · exact nr hc) (fun c hc => by subst hc; exact hr)
  refine ⟨v.2, ht'.1, ?_, hs.ext hB ht'.2.1 hf, ht', ⟨_, hI⟩, by rw [← h2]; exact hv, hp, by rw [← hl]; simp; omega, hV, hE, nm, nr⟩
  exact ht'.other ha hg2

set_option maxRecDepth 100000 in
set_option maxHeartbeats 2000000 in
theorem d_addVerticesFrom {w : World} {H : Hd} {τ : Tr} {σ : St} {H2 : Hd} {τ2 : Tr} {σ2 : St} {p : Nat → Addr} {B : Nat} (h : Gr w H τ σ) (h2 : Gr w H2 τ2 σ2) (ha : Apart H σ H2 σ2) (hp : Sent w p) (hB : Below6 B p) (hBw : B ≤ w.heap.size) (hf : ∀ c, σ.foot H.A c → B ≤ c)
    (hV : σ2.V.length < 1000000) (hE : σ2.E.length < 1000000) :
    Calls Tryz.prog 104 #[.pointer (some ⟨H.d, 0, none⟩), .iface 141 (.pointer (some ⟨H2.d, 0, none⟩))] w (AddedVs p H τ σ (σ2.V.map (·.1)) w) := by
  have hc := d_adjacency h2 hV hE
  have HG := Lib.hid (And.intro h (And.intro h2 (And.intro ha (And.intro hp (And.intro hB (And.intro hBw hf))))))
  clear h h2 ha hp hB hBw hf hV hE
  have hM1 := M141_AdjacencyMap
  have hM2 := M141_VertexWithProperties
  go_enter Tryz.func104, Tryz.ntmps104
  go_wp2_with fail
  refine hc.mono ?_
  rintro r1 w1 ⟨mb, L, E', rfl, hL, hE', hM, hb, he⟩
  have hmo := hM.out
  have HL := Lib.hid (And.intro hL (And.intro (hb mb List.mem_cons_self) he))
  clear hc hL hE' hM hb he
  go_wp2_with (first | (at_range; (refine wpL_range rfl rfl U105 rfl hmo ?_); intro w4 hI4 hs4 he4))
  try go_frame
  have HI := Lib.hid (And.intro hI4 (And.intro hs4 (he4.drew.size)))
  have HE4 := Lib.hid (HL.out.2.2.trans he4)
  clear hI4 hs4 he4 hmo
  go_loopg [] L.length (fun k wr => VFR H τ σ w w1.heap.size mb L k wr)
  case atStart =>
    obtain ⟨hI4, hs4, -⟩ := HI.out
    refine ⟨[], L, none, σ, rfl, by simp, hI4, Turned.same HG.out.1 HE4.out, by simp, rfl, fun hc => ?_, fun hc => ?_⟩
    · have := HG.out.1.st.foot_lt hc; have := HL.out.2.1; omega
    · have := HG.out.1.st.foot_lt hc; have := HL.out.2.2.size; omega
  case round =>
    obtain ⟨done, left, cur, σ', hl, hperm, hI, ht, hV, hE, nm, nr⟩ := hrel
    have HK := Lib.hid (And.intro hl (And.intro hperm (And.intro ht (And.intro hV (And.intro hE (And.intro nm nr))))))
    clear hl hperm ht hV hE nm nr
    go_wp2_with (first | (at_next; (refine wpL_nextM (g := fun o : Int × Nat => (o.1, Value.map (some o.2))) rfl rfl rfl hI ?_ ?_); intro h0; rotate_left; intro l1 o l2 wn h1 hIn hsn hen hEn; obtain ⟨n, hN⟩ := VN.of HG.out.1 HG.out.2.1 HG.out.2.2.1 HG.out.2.2.2.1 HG.out.2.2.2.2.1 HG.out.2.2.2.2.2.2 HL.out.1 (HL.out.2.2.size) HG.out.2.2.2.2.2.1 HK.out.1 HK.out.2.1 HK.out.2.2.1 HK.out.2.2.2.1 HK.out.2.2.2.2.1 HK.out.2.2.2.2.2.1 HK.out.2.2.2.2.2.2 h1 hIn hen; have HN := Lib.hid hN; clear hN h1 hIn hsn hen; rotate_left) | (go_at_call 117; (refine (d_vertexWith HN.out.g2 HN.out.mem).mono ?_); rintro r3 w3 ⟨rfl, h3⟩; have H3 := Lib.hid h3; clear h3) | (go_at_call 122; (refine (copyV_run _ _).mono ?_); rintro r5 w5 ⟨rfl, hw5⟩; subst hw5))
    · go_ret
      obtain ⟨hl, hperm, ht, hV, hE, nm, nr⟩ := HK.out
      subst h0
      have hp : done.Perm L := by simpa using hperm
      exact ⟨done.map (·.1), done.length, σ', (hp.map _).trans HL.out.1, ht, by rw [hV, ← List.length_map (f := (·.1)), List.take_length], hE, Or.inl ⟨by simp, rfl⟩⟩
    · have e5 : Ext No wn (((w3.alloc (propO n)).alloc (propO n)).alloc (.cells #[.func (.func 125) #[] #[.pointer (some ⟨w3.heap.size + 1, 0, none⟩)]] 220)) := ((H3.out.alloc _).alloc _).alloc _
      have ra : (((w3.alloc (propO n)).alloc (propO n)).alloc (.cells #[.func (.func 125) #[] #[.pointer (some ⟨w3.heap.size + 1, 0, none⟩)]] 220)).heap[w3.heap.size + 1]? = some (propO n) := alloc_heap (two_new w3 _ _) _
      have rm := e5.obj (HN.out.g2.st.att n (List.mem_append_left _ (List.mem_map.2 ⟨_, HN.out.mem, rfl⟩))) id
      have ro : (((w3.alloc (propO n)).alloc (propO n)).alloc (.cells #[.func (.func 125) #[] #[.pointer (some ⟨w3.heap.size + 1, 0, none⟩)]] 220)).cell? ⟨w3.heap.size + 1 + 1, 0, none⟩ = some (.func (.func 125) #[] #[.pointer (some ⟨w3.heap.size + 1, 0, none⟩)]) := by
        have := (heap_alloc ((w3.alloc (propO n)).alloc (propO n)) (.cells #[.func (.func 125) #[] #[.pointer (some ⟨w3.heap.size + 1, 0, none⟩)]] 220)).1
        rw [World.size_alloc, World.size_alloc] at this
        rw [cell_of_row _ _ _ _ _ _ this]; rfl
      have hcall := d_addVertex_with (k := o.1) (HN.out.g.ext e5 (fun _ _ h => h)) (HN.out.s.ext HG.out.2.2.2.2.1 e5 (fun _ h => h.elim)) HG.out.2.2.2.2.1 ro ⟨_, n, rfl, ra, rm⟩
      have H5 := Lib.hid e5
      clear e5 ra rm ro
      refine hcall.mono ?_
      rintro r6 w6 (⟨hnew, rfl, a, ht6⟩ | ⟨hold, rfl, he6⟩)
      · have H6 := Lib.hid (And.intro hnew ht6)
        clear hnew ht6 hcall
        go_wp2_with fail
        go_roundg (l1 ++ l2).length
        case measure => have := HN.out.len; omega
        case rel =>
          have h := HN.out
          have ht := h.t.trans (H6.out.2.pre H5.out)
          obtain ⟨cur2, hI2⟩ := h.it
          have hsz : wn.heap.size ≤ (((w3.alloc (propO n)).alloc (propO n)).alloc (.cells #[.func (.func 125) #[] #[.pointer (some ⟨w3.heap.size + 1, 0, none⟩)]] 220)).heap.size := H5.out.size
          have hnf : ∀ c, ¬ σ'.foot H.A c → c < wn.heap.size → ¬ ({ σ' with V := σ'.V ++ [(o.1, a)] } : St).foot H.A c := fun c hc hlt hc2 => by
            rcases H6.out.2.2.2 c hc2 with h7 | h7
            · exact hc h7
            · omega
          exact ⟨done ++ [o], l1 ++ l2, cur2, _, rfl, h.perm, (hI2.ext H5.out id id).ext H6.out.2.2.1 h.nm h.nr, ht, by
            show (σ'.V ++ [(o.1, a)]).map (·.1) = _
            rw [List.map_append, h.V, List.map_append, List.append_assoc]; rfl, h.E, hnf mb h.nm hI2.ltb, hnf _ h.nr hI2.ltr⟩
      · have H6 := Lib.hid (And.intro hold he6)
        clear hold he6 hcall
        go_wp2_with (go_at_call 118; (refine (wrap_any _ _ _).mono ?_); rintro r7 w7 ⟨rfl, rfl⟩)
        go_ret
        have h := HN.out
        have hp : ((done ++ [o] ++ (l1 ++ l2)).map (·.1)).Perm (σ2.V.map (·.1)) := (h.perm.map _).trans HL.out.1
        have hlen : (done.map (·.1)).length = done.length := List.length_map _
        refine ⟨(done ++ [o] ++ (l1 ++ l2)).map (·.1), done.length, σ', hp, (h.t.no H5.out).no H6.out.2, ?_, h.E, Or.inr ⟨by simp, ?_, rfl⟩⟩
        · rw [h.V]
          congr 1
          simp only [List.map_append, List.append_assoc]
          rw [← hlen, List.take_left]
        · obtain ⟨b, hb⟩ := H6.out.1
          have hm : o.1 ∈ σ'.V.map (·.1) := List.mem_map.2 ⟨_, hb, rfl⟩
          rw [h.V] at hm
          have e1 : ((done ++ [o] ++ (l1 ++ l2)).map (·.1)).take done.length = done.map (·.1) := by
            simp only [List.map_append, List.append_assoc]
            rw [← hlen, List.take_left]
          rw [e1]
          have e2 : ((done ++ [o] ++ (l1 ++ l2)).map (·.1))[done.length]'(by simp) = o.1 := by simp
          rw [e2]; exact hm
set_option maxRecDepth 100000 in
set_option maxHeartbeats 2000000 in
theorem u_addVerticesFrom {w : World} {H : Hd} {τ : Tr} {σ : St} {H2 : Hd} {τ2 : Tr} {σ2 : St} {p : Nat → Addr} {B : Nat} (h : Gr w H τ σ) (h2 : Gr w H2 τ2 σ2) (ha : Apart H σ H2 σ2) (hp : Sent w p) (hB : Below6 B p) (hBw : B ≤ w.heap.size) (hf : ∀ c, σ.foot H.A c → B ≤ c)
    (hV : σ2.V.length < 1000000) (hE : σ2.E.length < 1000000) :
    Calls Tryz.prog 129 #[.pointer (some ⟨H.d, 0, none⟩), .iface 143 (.pointer (some ⟨H2.d, 0, none⟩))] w (AddedVs p H τ σ (σ2.V.map (·.1)) w) := by
  have hc := u_adjacency h2 hV hE
  have HG := Lib.hid (And.intro h (And.intro h2 (And.intro ha (And.intro hp (And.intro hB (And.intro hBw hf))))))
  clear h h2 ha hp hB hBw hf hV hE
  have hM1 := M143_AdjacencyMap
  have hM2 := M143_VertexWithProperties
  go_enter Tryz.func129, Tryz.ntmps129
  go_wp2_with fail
  refine hc.mono ?_
  rintro r1 w1 ⟨mb, L, E', rfl, hL, hE', hM, hb, he⟩
  have hmo := hM.out
  have HL := Lib.hid (And.intro hL (And.intro (hb mb List.mem_cons_self) he))
  clear hc hL hE' hM hb he
  go_wp2_with (first | (at_range; (refine wpL_range rfl rfl U105 rfl hmo ?_); intro w4 hI4 hs4 he4))
  try go_frame
  have HI := Lib.hid (And.intro hI4 (And.intro hs4 (he4.drew.size)))
  have HE4 := Lib.hid (HL.out.2.2.trans he4)
  clear hI4 hs4 he4 hmo
  go_loopg [] L.length (fun k wr => VFR H τ σ w w1.heap.size mb L k wr)
  case atStart =>
    obtain ⟨hI4, hs4, -⟩ := HI.out
    refine ⟨[], L, none, σ, rfl, by simp, hI4, Turned.same HG.out.1 HE4.out, by simp, rfl, fun hc => ?_, fun hc => ?_⟩
    · have := HG.out.1.st.foot_lt hc; have := HL.out.2.1; omega
    · have := HG.out.1.st.foot_lt hc; have := HL.out.2.2.size; omega
  case round =>
    obtain ⟨done, left, cur, σ', hl, hperm, hI, ht, hV, hE, nm, nr⟩ := hrel
    have HK := Lib.hid (And.intro hl (And.intro hperm (And.intro ht (And.intro hV (And.intro hE (And.intro nm nr))))))
    clear hl hperm ht hV hE nm nr
    go_wp2_with (first | (at_next; (refine wpL_nextM (g := fun o : Int × Nat => (o.1, Value.map (some o.2))) rfl rfl rfl hI ?_ ?_); intro h0; rotate_left; intro l1 o l2 wn h1 hIn hsn hen hEn; obtain ⟨n, hN⟩ := VN.of HG.out.1 HG.out.2.1 HG.out.2.2.1 HG.out.2.2.2.1 HG.out.2.2.2.2.1 HG.out.2.2.2.2.2.2 HL.out.1 (HL.out.2.2.size) HG.out.2.2.2.2.2.1 HK.out.1 HK.out.2.1 HK.out.2.2.1 HK.out.2.2.2.1 HK.out.2.2.2.2.1 HK.out.2.2.2.2.2.1 HK.out.2.2.2.2.2.2 h1 hIn hen; have HN := Lib.hid hN; clear hN h1 hIn hsn hen; rotate_left) | (go_at_call 142; (refine (u_vertexWith HN.out.g2 HN.out.mem).mono ?_); rintro r3 w3 ⟨rfl, h3⟩; have H3 := Lib.hid h3; clear h3) | (go_at_call 122; (refine (copyV_run _ _).mono ?_); rintro r5 w5 ⟨rfl, hw5⟩; subst hw5))
    · go_ret
      obtain ⟨hl, hperm, ht, hV, hE, nm, nr⟩ := HK.out
      subst h0
      have hp : done.Perm L := by simpa using hperm
      exact ⟨done.map (·.1), done.length, σ', (hp.map _).trans HL.out.1, ht, by rw [hV, ← List.length_map (f := (·.1)), List.take_length], hE, Or.inl ⟨by simp, rfl⟩⟩
    · have e5 : Ext No wn (((w3.alloc (propO n)).alloc (propO n)).alloc (.cells #[.func (.func 125) #[] #[.pointer (some ⟨w3.heap.size + 1, 0, none⟩)]] 220)) := ((H3.out.alloc _).alloc _).alloc _
      have ra : (((w3.alloc (propO n)).alloc (propO n)).alloc (.cells #[.func (.func 125) #[] #[.pointer (some ⟨w3.heap.size + 1, 0, none⟩)]] 220)).heap[w3.heap.size + 1]? = some (propO n) := alloc_heap (two_new w3 _ _) _
      have rm := e5.obj (HN.out.g2.st.att n (List.mem_append_left _ (List.mem_map.2 ⟨_, HN.out.mem, rfl⟩))) id
      have ro : (((w3.alloc (propO n)).alloc (propO n)).alloc (.cells #[.func (.func 125) #[] #[.pointer (some ⟨w3.heap.size + 1, 0, none⟩)]] 220)).cell? ⟨w3.heap.size + 1 + 1, 0, none⟩ = some (.func (.func 125) #[] #[.pointer (some ⟨w3.heap.size + 1, 0, none⟩)]) := by
        have := (heap_alloc ((w3.alloc (propO n)).alloc (propO n)) (.cells #[.func (.func 125) #[] #[.pointer (some ⟨w3.heap.size + 1, 0, none⟩)]] 220)).1
        rw [World.size_alloc, World.size_alloc] at this
        rw [cell_of_row _ _ _ _ _ _ this]; rfl
      have hcall := u_addVertex_with (k := o.1) (HN.out.g.ext e5 (fun _ _ h => h)) (HN.out.s.ext HG.out.2.2.2.2.1 e5 (fun _ h => h.elim)) HG.out.2.2.2.2.1 ro ⟨_, n, rfl, ra, rm⟩
      have H5 := Lib.hid e5
      clear e5 ra rm ro
      refine hcall.mono ?_
      rintro r6 w6 (⟨hnew, rfl, a, ht6⟩ | ⟨hold, rfl, he6⟩)
      · have H6 := Lib.hid (And.intro hnew ht6)
        clear hnew ht6 hcall
        go_wp2_with fail
        go_roundg (l1 ++ l2).length
        case measure => have := HN.out.len; omega
        case rel =>
          have h := HN.out
          have ht := h.t.trans (H6.out.2.pre H5.out)
          obtain ⟨cur2, hI2⟩ := h.it
          have hsz : wn.heap.size ≤ (((w3.alloc (propO n)).alloc (propO n)).alloc (.cells #[.func (.func 125) #[] #[.pointer (some ⟨w3.heap.size + 1, 0, none⟩)]] 220)).heap.size := H5.out.size
          have hnf : ∀ c, ¬ σ'.foot H.A c → c < wn.heap.size → ¬ ({ σ' with V := σ'.V ++ [(o.1, a)] } : St).foot H.A c := fun c hc hlt hc2 => by
            rcases H6.out.2.2.2 c hc2 with h7 | h7
            · exact hc h7
            · omega
          exact ⟨done ++ [o], l1 ++ l2, cur2, _, rfl, h.perm, (hI2.ext H5.out id id).ext H6.out.2.2.1 h.nm h.nr, ht, by
            show (σ'.V ++ [(o.1, a)]).map (·.1) = _
            rw [List.map_append, h.V, List.map_append, List.append_assoc]; rfl, h.E, hnf mb h.nm hI2.ltb, hnf _ h.nr hI2.ltr⟩
      · have H6 := Lib.hid (And.intro hold he6)
        clear hold he6 hcall
        go_wp2_with (go_at_call 118; (refine (wrap_any _ _ _).mono ?_); rintro r7 w7 ⟨rfl, rfl⟩)
        go_ret
        have h := HN.out
        have hp : ((done ++ [o] ++ (l1 ++ l2)).map (·.1)).Perm (σ2.V.map (·.1)) := (h.perm.map _).trans HL.out.1
        have hlen : (done.map (·.1)).length = done.length := List.length_map _
        refine ⟨(done ++ [o] ++ (l1 ++ l2)).map (·.1), done.length, σ', hp, (h.t.no H5.out).no H6.out.2, ?_, h.E, Or.inr ⟨by simp, ?_, rfl⟩⟩
        · rw [h.V]
          congr 1
          simp only [List.map_append, List.append_assoc]
          rw [← hlen, List.take_left]
        · obtain ⟨b, hb⟩ := H6.out.1
          have hm : o.1 ∈ σ'.V.map (·.1) := List.mem_map.2 ⟨_, hb, rfl⟩
          rw [h.V] at hm
          have e1 : ((done ++ [o] ++ (l1 ++ l2)).map (·.1)).take done.length = done.map (·.1) := by
            simp only [List.map_append, List.append_assoc]
            rw [← hlen, List.take_left]
          rw [e1]
          have e2 : ((done ++ [o] ++ (l1 ++ l2)).map (·.1))[done.length]'(by simp) = o.1 := by simp
          rw [e2]; exact hm

end Go.Proofs.YtcenebjdhbdejaaGreatDoor
