/- AddEdgesFrom of either kind, walked. (The undirected theorem is printed by ren.py out of the directed one.) Clone of either kind, walked. (The undirected theorem is printed out of the directed one.) -/
import Derived.Test.YtcenebjdhbdejaaGreatDoorB33
import Derived.Test.YtcenebjdhbdejaaGreatDoorB39
import Derived.Test.YtcenebjdhbdejaaGreatDoorB16
import Derived.Deep.RegionHeld3
namespace Go.Proofs.YtcenebjdhbdejaaGreatDoor
open Go.MapKept

theorem numOf_zero {er : Option Er} (h : numOf er = 0) : er = none := by
  cases er with
  | none => rfl
  | some e => simp only [numOf] at h; omega

set_option maxRecDepth 100000 in
set_option maxHeartbeats 400000 in
theorem copyEdge_run (e : EdgeR) (w : World) : Calls Tryz.prog 121 #[e.val] w fun r w' => r = .returned (.tuple #[kI e.src, kI e.dst, .func (.func 124) #[] #[.pointer (some ⟨w.heap.size, 0, none⟩)]]) ∧ ∃ n, w' = (w.alloc (ownE e.src e.dst e.att e.wt)).drewN n := by
  go_enter Tryz.func121, Tryz.ntmps121
  go_wp2_with fail
  go_quiet (fail)
  go_wp2
  refine bodyPost_ret (v := .tuple #[kI e.src, kI e.dst, .func (.func 124) #[] #[.pointer (some ⟨w.heap.size, 0, none⟩)]]) (by simp [results, Tryz.results121, go_sem]) rfl ⟨rfl, nq, rfl⟩

theorem own_turned {w w' : World} {H : Hd} {τ : Tr} {σ : St} (hg : Gr w H τ σ) {S : Nat → Prop} (he : Ext S w w') (hS : ∀ c, S c → σ.foot H.A c) {B e size n : Nat} {v : Value} {xs : List Value} (h : w.ownsRow B e size v n xs) (hne : e ≠ 149) : w'.ownsRow B e size v n xs :=
  ownsRow_soft (N := 0) h (he.mono (fun c _ hc => foot_soft hg (fun _ _ => Nat.zero_le _) (hS c hc))) hne

/-- what AddEdgesFrom leaves: the edges in some order, up to the first that is refused -/
def AddedEs (p : Nat → Addr) (dir : Bool) (H : Hd) (τ : Tr) (σ : St) (s : PS) (s2 : PS) (σ2 : St) (w : World) (r : Ending) (w' : World) : Prop :=
  ∃ (l : List EdgeR) (n : Nat) (σ' : St), EdgesR dir s2 σ2 l ∧ Turned H τ σ σ' w w' ∧ Rep dir ⟨s.V, s.E ++ (l.take n).map EdgeR.tri⟩ τ σ' ∧
    ((n = l.length ∧ r = .returned .nilIface) ∨ ∃ (hn : n < l.length) (er : Er), er.no < 6 ∧ r = .returned ((Er.wrap er).val p) ∧
      (l[n].src ∉ s.V ∨ l[n].dst ∉ s.V ∨ hasE dir (s.E ++ (l.take n).map EdgeR.tri) l[n].src l[n].dst))

/-- a round -/
def EFR (dir : Bool) (H : Hd) (τ : Tr) (σ : St) (s : PS) (w w1 : World) (v : Value) (l : List EdgeR) (k : Nat) (iv : Value) (wr : World) : Prop :=
  ∃ (i : Nat) (σ' : St), iv = .int .i64 i ∧ i + k = l.length ∧ Turned H τ σ σ' w wr ∧ Rep dir ⟨s.V, s.E ++ (l.take i).map EdgeR.tri⟩ τ σ' ∧ wr.ownsRow w.heap.size 97 5 v l.length (l.flatMap EdgeR.cells) ∧ w1.heap.size ≤ wr.heap.size

set_option maxRecDepth 100000 in
set_option maxHeartbeats 2000000 in
theorem d_addEdgesFrom {w : World} {H : Hd} {τ : Tr} {σ : St} {s : PS} {H2 : Hd} {τ2 : Tr} {σ2 : St} {s2 : PS} {p : Nat → Addr} {B : Nat} (h : Gr w H τ σ) (hr : Rep true s τ σ) (h2 : Gr w H2 τ2 σ2) (hr2 : Rep true s2 τ2 σ2) (ha : Apart H σ H2 σ2) (hp : Sent w p) (hB : Below6 B p) (hBw : B ≤ w.heap.size) (hf : ∀ c, σ.foot H.A c → B ≤ c)
    (hprev : τ.prev = false) (hE : (stored true s2.E).length < 1000000) :
    Calls Tryz.prog 102 #[.pointer (some ⟨H.d, 0, none⟩), .iface 141 (.pointer (some ⟨H2.d, 0, none⟩))] w (AddedEs p true H τ σ s s2 σ2 w) := by
  have hc := any_edges true h2 hr2 hE
  have hloop : ∀ l : List EdgeR, EdgesR true s2 σ2 l → ∀ e ∈ l, true = false → e.src ≠ e.dst := fun l hl e he hd => by
    have hm : e.tri ∈ stored true s2.E := hl.1.mem_iff.1 (mem_stored_self (List.mem_map.2 ⟨e, he, rfl⟩))
    rw [hd] at hm hr2
    simp only [stored, Bool.false_eq_true, if_false, List.mem_flatMap, List.mem_cons, List.not_mem_nil, or_false] at hm
    obtain ⟨z, hz, h3⟩ := hm
    have := hr2.loop rfl z hz
    rcases h3 with h3 | h3
    · intro e1
      have : e.tri.1 = e.tri.2.1 := e1
      rw [h3] at this; contradiction
    · intro e1
      have e2 : e.tri.1 = e.tri.2.1 := e1
      rw [h3] at e2; exact this e2.symm
  have HG := Lib.hid (And.intro h (And.intro hr (And.intro h2 (And.intro hr2 (And.intro ha (And.intro hp (And.intro hB (And.intro hBw (And.intro hf (And.intro hprev hloop))))))))))
  clear h hr h2 hr2 ha hp hB hBw hf hprev hE hloop
  have hM1 := M141_Edges
  go_enter Tryz.func102, Tryz.ntmps102
  go_wp2_with fail
  refine hc.mono ?_
  rintro r1 w1 ⟨v, l, rfl, ho, hl, hR, he⟩
  obtain ⟨q, cap, rfl, -⟩ := own_read (f := EdgeR.cells) (fun _ => rfl) ho
  have HL := Lib.hid (And.intro ho (And.intro hl (And.intro hR he)))
  clear hc ho hl hR he
  go_wp2_with fail
  try go_frame
  go_loopg [21] l.length (fun k iv wr => EFR true H τ σ s w w1 (.slice q l.length cap) l k iv wr)
  case atStart => exact ⟨0, σ, rfl, by simp, Turned.same HG.out.1 HL.out.2.2.2, by simpa using HG.out.2.1, HL.out.1, Nat.le_refl _⟩
  case round =>
    obtain ⟨i, σ', rfl, hk, ht, hr, ho, hsz⟩ := hrel
    by_cases hlt : i < l.length
    · obtain ⟨g, rfl, hg, hc⟩ := own_at (f := EdgeR.cells) (fun _ => rfl) ho hlt
      have c0 : wr.cell? ⟨g, i * 5, none⟩ = some (kI (l[i]'hlt).src) := hc 0 (by decide)
      have c1 : wr.cell? ⟨g, i * 5 + 1, none⟩ = some (kI (l[i]'hlt).dst) := hc 1 (by decide)
      have c2 : wr.cell? ⟨g, i * 5 + 2, none⟩ = some (.map (some (l[i]'hlt).att)) := hc 2 (by decide)
      have c3 : wr.cell? ⟨g, i * 5 + 3, none⟩ = some (.int .i64 (l[i]'hlt).wt) := hc 3 (by decide)
      have c4 : wr.cell? ⟨g, i * 5 + 4, none⟩ = some .nilIface := hc 4 (by decide)
      have hlt' : (i : Int) < (l.length : Int) := by omega
      have htk : (l.take (i + 1)).map EdgeR.tri = (l.take i).map EdgeR.tri ++ [(l[i]'hlt).tri] := by rw [List.take_add_one, List.getElem?_eq_getElem hlt, List.map_append]; rfl
      have hmem := List.getElem_mem hlt
      have HK := Lib.hid (And.intro hk (And.intro ht (And.intro hr (And.intro ho (And.intro hsz (And.intro htk hmem))))))
      clear hk ht hr ho hsz hc htk hmem
      generalize hx : l[i]'hlt = x at HK c0 c1 c2 c3 c4
      have HX := Lib.hid hx
      clear hx
      go_wp2_with (go_at_call 121; (refine (copyEdge_run x _).mono ?_); rintro r2 w2 ⟨rfl, nq, hw2⟩; subst hw2)
      have e3 : Ext No wr ((((wr.alloc (ownE x.src x.dst x.att x.wt)).alloc (ownE x.src x.dst x.att x.wt)).drewN nq).alloc (.cells #[.func (.func 124) #[] #[.pointer (some ⟨wr.heap.size + 1, 0, none⟩)]] 85)) := ((((Ext.refl No wr).alloc _).alloc _).drewN nq).alloc _
      have ra : ((((wr.alloc (ownE x.src x.dst x.att x.wt)).alloc (ownE x.src x.dst x.att x.wt)).drewN nq).alloc (.cells #[.func (.func 124) #[] #[.pointer (some ⟨wr.heap.size + 1, 0, none⟩)]] 85)).heap[wr.heap.size + 1]? = some (ownE x.src x.dst x.att x.wt) := alloc_heap (show (((wr.alloc (ownE x.src x.dst x.att x.wt)).alloc (ownE x.src x.dst x.att x.wt)).drewN nq).heap[wr.heap.size + 1]? = _ from two_new wr _ _) _
      have ro : ((((wr.alloc (ownE x.src x.dst x.att x.wt)).alloc (ownE x.src x.dst x.att x.wt)).drewN nq).alloc (.cells #[.func (.func 124) #[] #[.pointer (some ⟨wr.heap.size + 1, 0, none⟩)]] 85)).cell? ⟨wr.heap.size + 1 + 1, 0, none⟩ = some (.func (.func 124) #[] #[.pointer (some ⟨wr.heap.size + 1, 0, none⟩)]) := by
        have := (heap_alloc (((wr.alloc (ownE x.src x.dst x.att x.wt)).alloc (ownE x.src x.dst x.att x.wt)).drewN nq) (.cells #[.func (.func 124) #[] #[.pointer (some ⟨wr.heap.size + 1, 0, none⟩)]] 85)).1
        have hz : (((wr.alloc (ownE x.src x.dst x.att x.wt)).alloc (ownE x.src x.dst x.att x.wt)).drewN nq).heap.size = wr.heap.size + 1 + 1 := by
          show ((wr.alloc (ownE x.src x.dst x.att x.wt)).alloc (ownE x.src x.dst x.att x.wt)).heap.size = _
          rw [World.size_alloc, World.size_alloc]
        rw [hz] at this
        rw [cell_of_row _ _ _ _ _ _ this]; rfl
      have hcall : Calls Tryz.prog 101 #[.pointer (some ⟨H.d, 0, none⟩), kI x.src, kI x.dst, .slice (some ⟨wr.heap.size + 1 + 1, 0, none⟩) 1 1] ((((wr.alloc (ownE x.src x.dst x.att x.wt)).alloc (ownE x.src x.dst x.att x.wt)).drewN nq).alloc (.cells #[.func (.func 124) #[] #[.pointer (some ⟨wr.heap.size + 1, 0, none⟩)]] 85)) (SaysErr p (World.heap ((((wr.alloc (ownE x.src x.dst x.att x.wt)).alloc (ownE x.src x.dst x.att x.wt)).drewN nq).alloc (.cells #[.func (.func 124) #[] #[.pointer (some ⟨wr.heap.size + 1, 0, none⟩)]] 85))).size (ErrPost H τ σ' (addEQ true ⟨s.V, s.E ++ (l.take i).map EdgeR.tri⟩ τ σ' x.src x.dst x.wt)) ((((wr.alloc (ownE x.src x.dst x.att x.wt)).alloc (ownE x.src x.dst x.att x.wt)).drewN nq).alloc (.cells #[.func (.func 124) #[] #[.pointer (some ⟨wr.heap.size + 1, 0, none⟩)]] 85))) := by
        obtain ⟨hk, ht, hr, ho, hsz, htk, hmem⟩ := HK.out
        have hm2 := HL.out.2.2.1.2 x hmem
        have g2 := ht.other HG.out.2.2.2.2.1 HG.out.2.2.1
        have rm := e3.obj (g2.st.att x.att (List.mem_append_right _ (List.mem_map.2 ⟨x, hm2, rfl⟩))) id
        have g := ht.1.ext e3 (fun _ _ h => h)
        have hf' : ∀ c, σ'.foot H.A c → B ≤ c := fun c hc => by
          rcases ht.2.2 c hc with h7 | h7
          · exact HG.out.2.2.2.2.2.2.2.2.1 c h7
          · have := HG.out.2.2.2.2.2.2.2.1; omega
        exact any_addEdge true g g hr ((HG.out.2.2.2.2.2.1.ext HG.out.2.2.2.2.2.2.1 ht.2.1 HG.out.2.2.2.2.2.2.2.2.1).ext HG.out.2.2.2.2.2.2.1 e3 (fun _ h => h.elim)) HG.out.2.2.2.2.2.2.1 hf' HG.out.2.2.2.2.2.2.2.2.2.1
          (by intro h0; first | exact HG.out.2.2.2.2.2.2.2.2.2.2 l HL.out.2.2.1 x hmem h0 | exact HG.out.2.2.2.2.2.2.2.2.2.2 l HL.out.2.2.1 x hmem trivial) ro (Opt.copy _ _ _ _ ra rm)
      have H3 := Lib.hid e3
      clear e3 ra ro c0 c1 c2 c3 c4
      refine hcall.mono ?_
      rintro r3 w3 ⟨er, rfl, hno, -, -, σ'', ht3, hq⟩
      clear hcall
      unfold addEQ at hq
      by_cases hv : x.src ∉ s.V ∨ x.dst ∉ s.V
      · rw [if_pos hv] at hq
        obtain ⟨hn, rfl⟩ := hq
        cases er with
        | none => simp only [numOf] at hn; omega
        | some e =>
          obtain ⟨t, v, he⟩ := Er.val_iface p e
          have HQ := Lib.hid (And.intro hv (And.intro ht3 (And.intro (hno e rfl) he)))
          clear hn hv ht3 hno
          simp only [erv, he]
          go_wp2_with (go_at_call 118; (refine (wrap_any _ _ _).mono ?_); rintro r7 w7 ⟨rfl, rfl⟩)
          go_ret
          obtain ⟨hk, ht, hr, ho, hsz, htk, hmem⟩ := HK.out
          refine ⟨l, i, σ'', HL.out.2.2.1, (ht.no H3.out).trans HQ.out.2.1, hr, Or.inr ⟨hlt, e, HQ.out.2.2.1, by rw [Er.val, HQ.out.2.2.2]; rfl, ?_⟩⟩
          rw [HX.out]
          exact HQ.out.1.elim Or.inl (fun h => Or.inr (Or.inl h))
      · rw [if_neg hv] at hq
        by_cases hh : hasE true (s.E ++ (l.take i).map EdgeR.tri) x.src x.dst
        · rw [if_pos hh] at hq
          obtain ⟨hn, rfl⟩ := hq
          cases er with
          | none => simp only [numOf] at hn; omega
          | some e =>
            obtain ⟨t, v, he⟩ := Er.val_iface p e
            have HQ := Lib.hid (And.intro hh (And.intro ht3 (And.intro (hno e rfl) he)))
            clear hn hv ht3 hno hh
            simp only [erv, he]
            go_wp2_with (go_at_call 118; (refine (wrap_any _ _ _).mono ?_); rintro r7 w7 ⟨rfl, rfl⟩)
            go_ret
            obtain ⟨hk, ht, hr, ho, hsz, htk, hmem⟩ := HK.out
            refine ⟨l, i, σ'', HL.out.2.2.1, (ht.no H3.out).trans HQ.out.2.1, hr, Or.inr ⟨hlt, e, HQ.out.2.2.1, by rw [Er.val, HQ.out.2.2.2]; rfl, ?_⟩⟩
            rw [HX.out]
            exact Or.inr (Or.inr HQ.out.1)
        · rw [if_neg hh] at hq
          obtain ⟨hn, hr3⟩ := hq
          obtain rfl := numOf_zero hn
          have HQ := Lib.hid (And.intro ht3 hr3)
          clear hn hv ht3 hno hh hr3
          simp only [erv]
          go_wp2_with fail
          go_roundg (l.length - (i + 1))
          case measure => have := HK.out.1; omega
          case rel =>
            obtain ⟨hk, ht, hr, ho, hsz, htk, hmem⟩ := HK.out
            refine ⟨i + 1, σ'', by rw [w64 (by have := HL.out.2.1; omega)], by omega, (ht.no H3.out).trans HQ.out.1, ?_, own_turned (ht.1.ext H3.out (fun _ _ h => h)) HQ.out.1.2.1 (fun _ h => h) (ownsRow_ext ho H3.out (fun _ _ h => h)) (by decide), ?_⟩
            · rw [htk, ← List.append_assoc]; exact HQ.out.2
            · have h1 := H3.out.size
              have h2 := HQ.out.1.2.1.size
              omega
    · have hnlt : ¬ (i : Int) < (l.length : Int) := by omega
      have hi : i = l.length := by omega
      subst hi
      have HK := Lib.hid (And.intro ht hr)
      clear hk ht hr ho hsz
      go_wp2
      go_ret
      exact ⟨l, l.length, σ', HL.out.2.2.1, HK.out.1, HK.out.2, Or.inl ⟨rfl, rfl⟩⟩
set_option maxRecDepth 100000 in
set_option maxHeartbeats 2000000 in
theorem u_addEdgesFrom {w : World} {H : Hd} {τ : Tr} {σ : St} {s : PS} {H2 : Hd} {τ2 : Tr} {σ2 : St} {s2 : PS} {p : Nat → Addr} {B : Nat} (h : Gr w H τ σ) (hr : Rep false s τ σ) (h2 : Gr w H2 τ2 σ2) (hr2 : Rep false s2 τ2 σ2) (ha : Apart H σ H2 σ2) (hp : Sent w p) (hB : Below6 B p) (hBw : B ≤ w.heap.size) (hf : ∀ c, σ.foot H.A c → B ≤ c)
    (hprev : τ.prev = false) (hE : (stored false s2.E).length < 1000000) :
    Calls Tryz.prog 127 #[.pointer (some ⟨H.d, 0, none⟩), .iface 143 (.pointer (some ⟨H2.d, 0, none⟩))] w (AddedEs p false H τ σ s s2 σ2 w) := by
  have hc := any_edges false h2 hr2 hE
  have hloop : ∀ l : List EdgeR, EdgesR false s2 σ2 l → ∀ e ∈ l, false = false → e.src ≠ e.dst := fun l hl e he hd => by
    have hm : e.tri ∈ stored false s2.E := hl.1.mem_iff.1 (mem_stored_self (List.mem_map.2 ⟨e, he, rfl⟩))
    rw [hd] at hm hr2
    simp only [stored, Bool.false_eq_true, if_false, List.mem_flatMap, List.mem_cons, List.not_mem_nil, or_false] at hm
    obtain ⟨z, hz, h3⟩ := hm
    have := hr2.loop rfl z hz
    rcases h3 with h3 | h3
    · intro e1
      have : e.tri.1 = e.tri.2.1 := e1
      rw [h3] at this; contradiction
    · intro e1
      have e2 : e.tri.1 = e.tri.2.1 := e1
      rw [h3] at e2; exact this e2.symm
  have HG := Lib.hid (And.intro h (And.intro hr (And.intro h2 (And.intro hr2 (And.intro ha (And.intro hp (And.intro hB (And.intro hBw (And.intro hf (And.intro hprev hloop))))))))))
  clear h hr h2 hr2 ha hp hB hBw hf hprev hE hloop
  have hM1 := M143_Edges
  go_enter Tryz.func127, Tryz.ntmps127
  go_wp2_with fail
  refine hc.mono ?_
  rintro r1 w1 ⟨v, l, rfl, ho, hl, hR, he⟩
  obtain ⟨q, cap, rfl, -⟩ := own_read (f := EdgeR.cells) (fun _ => rfl) ho
  have HL := Lib.hid (And.intro ho (And.intro hl (And.intro hR he)))
  clear hc ho hl hR he
  go_wp2_with fail
  try go_frame
  go_loopg [21] l.length (fun k iv wr => EFR false H τ σ s w w1 (.slice q l.length cap) l k iv wr)
  case atStart => exact ⟨0, σ, rfl, by simp, Turned.same HG.out.1 HL.out.2.2.2, by simpa using HG.out.2.1, HL.out.1, Nat.le_refl _⟩
  case round =>
    obtain ⟨i, σ', rfl, hk, ht, hr, ho, hsz⟩ := hrel
    by_cases hlt : i < l.length
    · obtain ⟨g, rfl, hg, hc⟩ := own_at (f := EdgeR.cells) (fun _ => rfl) ho hlt
      have c0 : wr.cell? ⟨g, i * 5, none⟩ = some (kI (l[i]'hlt).src) := hc 0 (by decide)
      have c1 : wr.cell? ⟨g, i * 5 + 1, none⟩ = some (kI (l[i]'hlt).dst) := hc 1 (by decide)
      have c2 : wr.cell? ⟨g, i * 5 + 2, none⟩ = some (.map (some (l[i]'hlt).att)) := hc 2 (by decide)
      have c3 : wr.cell? ⟨g, i * 5 + 3, none⟩ = some (.int .i64 (l[i]'hlt).wt) := hc 3 (by decide)
      have c4 : wr.cell? ⟨g, i * 5 + 4, none⟩ = some .nilIface := hc 4 (by decide)
      have hlt' : (i : Int) < (l.length : Int) := by omega
      have htk : (l.take (i + 1)).map EdgeR.tri = (l.take i).map EdgeR.tri ++ [(l[i]'hlt).tri] := by rw [List.take_add_one, List.getElem?_eq_getElem hlt, List.map_append]; rfl
      have hmem := List.getElem_mem hlt
      have HK := Lib.hid (And.intro hk (And.intro ht (And.intro hr (And.intro ho (And.intro hsz (And.intro htk hmem))))))
      clear hk ht hr ho hsz hc htk hmem
      generalize hx : l[i]'hlt = x at HK c0 c1 c2 c3 c4
      have HX := Lib.hid hx
      clear hx
      go_wp2_with (go_at_call 121; (refine (copyEdge_run x _).mono ?_); rintro r2 w2 ⟨rfl, nq, hw2⟩; subst hw2)
      have e3 : Ext No wr ((((wr.alloc (ownE x.src x.dst x.att x.wt)).alloc (ownE x.src x.dst x.att x.wt)).drewN nq).alloc (.cells #[.func (.func 124) #[] #[.pointer (some ⟨wr.heap.size + 1, 0, none⟩)]] 85)) := ((((Ext.refl No wr).alloc _).alloc _).drewN nq).alloc _
      have ra : ((((wr.alloc (ownE x.src x.dst x.att x.wt)).alloc (ownE x.src x.dst x.att x.wt)).drewN nq).alloc (.cells #[.func (.func 124) #[] #[.pointer (some ⟨wr.heap.size + 1, 0, none⟩)]] 85)).heap[wr.heap.size + 1]? = some (ownE x.src x.dst x.att x.wt) := alloc_heap (show (((wr.alloc (ownE x.src x.dst x.att x.wt)).alloc (ownE x.src x.dst x.att x.wt)).drewN nq).heap[wr.heap.size + 1]? = _ from two_new wr _ _) _
      have ro : ((((wr.alloc (ownE x.src x.dst x.att x.wt)).alloc (ownE x.src x.dst x.att x.wt)).drewN nq).alloc (.cells #[.func (.func 124) #[] #[.pointer (some ⟨wr.heap.size + 1, 0, none⟩)]] 85)).cell? ⟨wr.heap.size + 1 + 1, 0, none⟩ = some (.func (.func 124) #[] #[.pointer (some ⟨wr.heap.size + 1, 0, none⟩)]) := by
        have := (heap_alloc (((wr.alloc (ownE x.src x.dst x.att x.wt)).alloc (ownE x.src x.dst x.att x.wt)).drewN nq) (.cells #[.func (.func 124) #[] #[.pointer (some ⟨wr.heap.size + 1, 0, none⟩)]] 85)).1
        have hz : (((wr.alloc (ownE x.src x.dst x.att x.wt)).alloc (ownE x.src x.dst x.att x.wt)).drewN nq).heap.size = wr.heap.size + 1 + 1 := by
          show ((wr.alloc (ownE x.src x.dst x.att x.wt)).alloc (ownE x.src x.dst x.att x.wt)).heap.size = _
          rw [World.size_alloc, World.size_alloc]
        rw [hz] at this
        rw [cell_of_row _ _ _ _ _ _ this]; rfl
      have hcall : Calls Tryz.prog 126 #[.pointer (some ⟨H.d, 0, none⟩), kI x.src, kI x.dst, .slice (some ⟨wr.heap.size + 1 + 1, 0, none⟩) 1 1] ((((wr.alloc (ownE x.src x.dst x.att x.wt)).alloc (ownE x.src x.dst x.att x.wt)).drewN nq).alloc (.cells #[.func (.func 124) #[] #[.pointer (some ⟨wr.heap.size + 1, 0, none⟩)]] 85)) (SaysErr p (World.heap ((((wr.alloc (ownE x.src x.dst x.att x.wt)).alloc (ownE x.src x.dst x.att x.wt)).drewN nq).alloc (.cells #[.func (.func 124) #[] #[.pointer (some ⟨wr.heap.size + 1, 0, none⟩)]] 85))).size (ErrPost H τ σ' (addEQ false ⟨s.V, s.E ++ (l.take i).map EdgeR.tri⟩ τ σ' x.src x.dst x.wt)) ((((wr.alloc (ownE x.src x.dst x.att x.wt)).alloc (ownE x.src x.dst x.att x.wt)).drewN nq).alloc (.cells #[.func (.func 124) #[] #[.pointer (some ⟨wr.heap.size + 1, 0, none⟩)]] 85))) := by
        obtain ⟨hk, ht, hr, ho, hsz, htk, hmem⟩ := HK.out
        have hm2 := HL.out.2.2.1.2 x hmem
        have g2 := ht.other HG.out.2.2.2.2.1 HG.out.2.2.1
        have rm := e3.obj (g2.st.att x.att (List.mem_append_right _ (List.mem_map.2 ⟨x, hm2, rfl⟩))) id
        have g := ht.1.ext e3 (fun _ _ h => h)
        have hf' : ∀ c, σ'.foot H.A c → B ≤ c := fun c hc => by
          rcases ht.2.2 c hc with h7 | h7
          · exact HG.out.2.2.2.2.2.2.2.2.1 c h7
          · have := HG.out.2.2.2.2.2.2.2.1; omega
        exact any_addEdge false g g hr ((HG.out.2.2.2.2.2.1.ext HG.out.2.2.2.2.2.2.1 ht.2.1 HG.out.2.2.2.2.2.2.2.2.1).ext HG.out.2.2.2.2.2.2.1 e3 (fun _ h => h.elim)) HG.out.2.2.2.2.2.2.1 hf' HG.out.2.2.2.2.2.2.2.2.2.1
          (by intro h0; first | exact HG.out.2.2.2.2.2.2.2.2.2.2 l HL.out.2.2.1 x hmem h0 | exact HG.out.2.2.2.2.2.2.2.2.2.2 l HL.out.2.2.1 x hmem trivial) ro (Opt.copy _ _ _ _ ra rm)
      have H3 := Lib.hid e3
      clear e3 ra ro c0 c1 c2 c3 c4
      refine hcall.mono ?_
      rintro r3 w3 ⟨er, rfl, hno, -, -, σ'', ht3, hq⟩
      clear hcall
      unfold addEQ at hq
      by_cases hv : x.src ∉ s.V ∨ x.dst ∉ s.V
      · rw [if_pos hv] at hq
        obtain ⟨hn, rfl⟩ := hq
        cases er with
        | none => simp only [numOf] at hn; omega
        | some e =>
          obtain ⟨t, v, he⟩ := Er.val_iface p e
          have HQ := Lib.hid (And.intro hv (And.intro ht3 (And.intro (hno e rfl) he)))
          clear hn hv ht3 hno
          simp only [erv, he]
          go_wp2_with (go_at_call 118; (refine (wrap_any _ _ _).mono ?_); rintro r7 w7 ⟨rfl, rfl⟩)
          go_ret
          obtain ⟨hk, ht, hr, ho, hsz, htk, hmem⟩ := HK.out
          refine ⟨l, i, σ'', HL.out.2.2.1, (ht.no H3.out).trans HQ.out.2.1, hr, Or.inr ⟨hlt, e, HQ.out.2.2.1, by rw [Er.val, HQ.out.2.2.2]; rfl, ?_⟩⟩
          rw [HX.out]
          exact HQ.out.1.elim Or.inl (fun h => Or.inr (Or.inl h))
      · rw [if_neg hv] at hq
        by_cases hh : hasE false (s.E ++ (l.take i).map EdgeR.tri) x.src x.dst
        · rw [if_pos hh] at hq
          obtain ⟨hn, rfl⟩ := hq
          cases er with
          | none => simp only [numOf] at hn; omega
          | some e =>
            obtain ⟨t, v, he⟩ := Er.val_iface p e
            have HQ := Lib.hid (And.intro hh (And.intro ht3 (And.intro (hno e rfl) he)))
            clear hn hv ht3 hno hh
            simp only [erv, he]
            go_wp2_with (go_at_call 118; (refine (wrap_any _ _ _).mono ?_); rintro r7 w7 ⟨rfl, rfl⟩)
            go_ret
            obtain ⟨hk, ht, hr, ho, hsz, htk, hmem⟩ := HK.out
            refine ⟨l, i, σ'', HL.out.2.2.1, (ht.no H3.out).trans HQ.out.2.1, hr, Or.inr ⟨hlt, e, HQ.out.2.2.1, by rw [Er.val, HQ.out.2.2.2]; rfl, ?_⟩⟩
            rw [HX.out]
            exact Or.inr (Or.inr HQ.out.1)
        · rw [if_neg hh] at hq
          obtain ⟨hn, hr3⟩ := hq
          obtain rfl := numOf_zero hn
          have HQ := Lib.hid (And.intro ht3 hr3)
          clear hn hv ht3 hno hh hr3
          simp only [erv]
          go_wp2_with fail
          go_roundg (l.length - (i + 1))
          case measure => have := HK.out.1; omega
          case rel =>
            obtain ⟨hk, ht, hr, ho, hsz, htk, hmem⟩ := HK.out
            refine ⟨i + 1, σ'', by rw [w64 (by have := HL.out.2.1; omega)], by omega, (ht.no H3.out).trans HQ.out.1, ?_, own_turned (ht.1.ext H3.out (fun _ _ h => h)) HQ.out.1.2.1 (fun _ h => h) (ownsRow_ext ho H3.out (fun _ _ h => h)) (by decide), ?_⟩
            · rw [htk, ← List.append_assoc]; exact HQ.out.2
            · have h1 := H3.out.size
              have h2 := HQ.out.1.2.1.size
              omega
    · have hnlt : ¬ (i : Int) < (l.length : Int) := by omega
      have hi : i = l.length := by omega
      subst hi
      have HK := Lib.hid (And.intro ht hr)
      clear hk ht hr ho hsz
      go_wp2
      go_ret
      exact ⟨l, l.length, σ', HL.out.2.2.1, HK.out.1, HK.out.2, Or.inl ⟨rfl, rfl⟩⟩

end Go.Proofs.YtcenebjdhbdejaaGreatDoor

namespace Go.Proofs.YtcenebjdhbdejaaGreatDoor
open Go.MapKept

theorem cells5 {w : World} {b : Nat} {c0 c1 c2 c3 c4 : Value} {T : TypeId} (h : w.heap[b]? = some (.cells #[c0, c1, c2, c3, c4] T (0, 0))) :
    w.cell? ⟨b, 0, none⟩ = some c0 ∧ w.cell? ⟨b, 1, none⟩ = some c1 ∧ w.cell? ⟨b, 2, none⟩ = some c2 ∧ w.cell? ⟨b, 3, none⟩ = some c3 ∧ w.cell? ⟨b, 4, none⟩ = some c4 := by
  simp [World.cell?, h]

/-- what Clone leaves: a graph of its own, that holds the same -/
def Cloned (dir : Bool) (τ : Tr) (s : PS) (w : World) (r : Ending) (w' : World) : Prop :=
  ∃ (H' : Hd) (τ' : Tr) (σ' : St) (s' : PS), r = .returned (.tuple #[gV dir H', .nilIface]) ∧ Gr w' H' τ' σ' ∧ Rep dir s' τ' σ' ∧ τ'.prev = τ.prev ∧ Sim dir s' s ∧ Ext No w w' ∧ ∀ c, Gr.foot H' σ' c → w.heap.size ≤ c

/-- a graph's own edges are not refused, one by one -/
theorem not_refused {dir : Bool} {s : PS} {l : List EdgeR} {K : List Int} (hK : K.Perm s.V) (hf : Fine dir s) (hl : (stored dir (l.map EdgeR.tri)).Perm (stored dir s.E)) {n : Nat} (hn : n < l.length) :
    ¬ (l[n].src ∉ K ∨ l[n].dst ∉ K ∨ hasE dir ([] ++ (l.take n).map EdgeR.tri) l[n].src l[n].dst) := by
  have hm : l[n].tri ∈ stored dir s.E := hl.mem_iff.1 (mem_stored_self (List.mem_map.2 ⟨l[n], List.getElem_mem hn, rfl⟩))
  have he := hf.ends _ hm
  have hu : ((stored dir (l.map EdgeR.tri)).map prT).Nodup := (hl.map _).nodup_iff.2 hf.uq
  have h1 := one_isE (a := l[n].src) (b := l[n].dst) hu
  rintro (h | h | h)
  · exact h (hK.mem_iff.2 he.1)
  · exact h (hK.mem_iff.2 he.2)
  · rw [List.nil_append] at h
    obtain ⟨e, hem, hj⟩ := hasE_iff.1 h
    obtain ⟨x, hx, rfl⟩ := List.mem_map.1 hem
    obtain ⟨j, hj2, rfl⟩ := List.mem_take_iff_getElem.1 hx
    have := List.pairwise_iff_getElem.1 h1 j n (by simp; omega) (by simpa using hn) (by omega)
    refine this ⟨by simpa using hj, ?_⟩
    simp [isE]

set_option maxRecDepth 100000 in
set_option maxHeartbeats 4000000 in
theorem d_clone {w : World} {H : Hd} {τ : Tr} {σ : St} {s : PS} {p : Nat → Addr} {B : Nat} (h : Gr w H τ σ) (hr : Rep true s τ σ) (hp : Sent w p) (hB : Below6 B p) (hBw : B ≤ w.heap.size) (hprev : τ.prev = false) (hV : s.V.length < 1000000) (hE : (stored true s.E).length < 1000000) :
    Calls Tryz.prog 106 #[.pointer (some ⟨H.d, 0, none⟩)] w (Cloned true τ s w) := by
  obtain ⟨t0, t1, t2, t3, t4⟩ := cells5 h.tra
  have d0 := h.d0
  have d1 := h.d1
  have ld := h.lt
  have lt := h.ltt
  have HG := Lib.hid (And.intro h (And.intro hr (And.intro hp (And.intro hB (And.intro hBw (And.intro hprev (And.intro hV hE)))))))
  clear h hr hp hB hBw hprev hV hE
  go_enter Tryz.func106, Tryz.ntmps106
  go_upto_region 1 with (fail)
  go_still_tail 36, (by kernel_rfl)
  go_upto_region 2 with (fail)
  have e1 : Ext No w (w.alloc (.cells #[.bool τ.dir, .bool τ.acyc, .bool τ.wei, .bool τ.root, .bool τ.prev] 113)).drew := ((Ext.refl No w).alloc _).drew
  have rt : (w.alloc (.cells #[.bool τ.dir, .bool τ.acyc, .bool τ.wei, .bool τ.root, .bool τ.prev] 113)).drew.heap[w.heap.size]? = some (.cells #[.bool τ.dir, .bool τ.acyc, .bool τ.wei, .bool τ.root, .bool τ.prev] 113 (0, 0)) := at_drew (heap_alloc w _).1
  have d0 := e1.cellv d0 id
  have H1 := Lib.hid (And.intro e1 rt)
  clear e1 rt t0 t1 t2 t3 t4 d1 ld lt
  generalize (w.alloc (.cells #[.bool τ.dir, .bool τ.acyc, .bool τ.wei, .bool τ.root, .bool τ.prev] 113)).drew = W1 at H1 d0 ⊢
  have ld := World.block_lt_of_cell? _ _ d0
  go_region_held3 (fun u => u.cell? ⟨H.d, 0, none⟩ = some hashV) (first | exact d0 | exact k0 | exact ((Ext.refl No w2).alloc _).cellv k0 id)
    (first
      | (go_at_call 46; (refine (newStore _).mono ?_); rintro r2 w2 ⟨A, rfl, hst, he, hf⟩; have k0 := he.cellv d0 id; have HN := Lib.hid (And.intro hst (And.intro (((Ext.refl No W1).drew).trans he) hf)); clear hst he hf))
  have HR : RowKit.Hid (Gr (w2.alloc (.cells #[hashV, .pointer (some ⟨w.heap.size, 0, none⟩), storeV A] 174)) ⟨w2.heap.size, w.heap.size, A⟩ τ σ0 ∧ Ext No w (w2.alloc (.cells #[hashV, .pointer (some ⟨w.heap.size, 0, none⟩), storeV A] 174)) ∧ ∀ c, Gr.foot ⟨w2.heap.size, w.heap.size, A⟩ σ0 c → w.heap.size ≤ c) := by
    obtain ⟨hst, he, hf⟩ := HN.out
    obtain ⟨e1, rt⟩ := H1.out
    have hlt : w.heap.size < W1.heap.size := (Array.getElem?_eq_some_iff.1 rt).1
    have hs2 := he.size
    refine Lib.hid ⟨⟨?_, (he.alloc _).obj rt id, hst.ext ((Ext.refl No w2).alloc _) (fun _ _ h => h), ?_, ?_, ?_⟩, (e1.trans he).alloc _, ?_⟩
    · rw [if_pos HG.out.2.1.hd]; exact (heap_alloc w2 _).1
    · intro hc; have := hst.foot_lt hc; simp at this
    · intro hc; have := hf _ hc; simp only [] at this; have h3 : W1.drew.heap.size = W1.heap.size := rfl; omega
    · simp only []; omega
    · rintro c (rfl | rfl | hc)
      · simp only []; omega
      · exact Nat.le_refl _
      · have := hf _ hc; have h3 : W1.drew.heap.size = W1.heap.size := rfl; omega
  clear HN k0 d0 ld H1
  generalize w2.alloc (.cells #[hashV, .pointer (some ⟨w.heap.size, 0, none⟩), storeV A] 174) = W3 at HR ⊢
  have hA : Apart ⟨w2.heap.size, w.heap.size, A⟩ σ0 H σ := fun c hc hc2 => by
    have h1 := HR.out.2.2 c hc
    have h2 := HG.out.1.foot_lt hc2
    omega
  have hf0 : ∀ c, σ0.foot A c → B ≤ c := fun c hc => Nat.le_trans HG.out.2.2.2.2.1 (HR.out.2.2 c (Or.inr (Or.inr hc)))
  have hVl : σ.V.length < 1000000 := by rw [HG.out.2.1.lenV]; exact HG.out.2.2.2.2.2.2.1
  have hEl : σ.E.length < 1000000 := by have := HG.out.2.2.2.2.2.2.2; rw [← HG.out.2.1.E, List.length_map] at this; exact this
  have HA := Lib.hid (And.intro hA (And.intro hf0 (And.intro hVl hEl)))
  clear hA hf0 hVl hEl
  go_wp2_with fail
  refine (d_addVerticesFrom HR.out.1 (HG.out.1.ext HR.out.2.1 (fun _ _ h => h)) HA.out.1 (HG.out.2.2.1.ext HG.out.2.2.2.1 HR.out.2.1 (fun _ h => h.elim)) HG.out.2.2.2.1 (Nat.le_trans HG.out.2.2.2.2.1 HR.out.2.1.size) HA.out.2.1 HA.out.2.2.1 HA.out.2.2.2).mono ?_
  rintro r4 w4 ⟨K, n, σ1, hK, ht4, hV4, hE4, hres⟩
  have hKs : K.Perm s.V := by rw [← HG.out.2.1.V]; exact hK
  have hnd : K.Nodup := hKs.nodup_iff.2 (HG.out.2.1.fine HG.out.1.st).nd
  have hV4' : σ1.V.map (·.1) = K.take n := by rw [hV4]; rfl
  rcases hres with ⟨rfl, rfl⟩ | ⟨hn, hm, -⟩
  · rw [List.take_length] at hV4'
    have hr4 : Rep true ⟨K, []⟩ τ σ1 := ⟨HG.out.2.1.hd, hV4', by rw [hE4]; rfl, fun _ e he => by cases he⟩
    have hA4 := HA.out.1.turned ht4 (HG.out.1.ext HR.out.2.1 (fun _ _ h => h))
    have hf4 : ∀ c, σ1.foot A c → B ≤ c := fun c hc => by
      rcases ht4.2.2 c hc with h7 | h7
      · exact HA.out.2.1 c h7
      · have := HR.out.2.1.size; have := HG.out.2.2.2.2.1; omega
    have g4 := ht4.other HA.out.1 (HG.out.1.ext HR.out.2.1 (fun _ _ h => h))
    have hp4 := (HG.out.2.2.1.ext HG.out.2.2.2.1 HR.out.2.1 (fun _ h => h.elim)).ext HG.out.2.2.2.1 ht4.2.1 HA.out.2.1
    have H4 := Lib.hid (And.intro ht4 (And.intro hr4 (And.intro hA4 (And.intro hf4 (And.intro g4 (And.intro hp4 hKs))))))
    clear hK ht4 hV4 hE4 hV4' hr4 hA4 hf4 g4 hp4 hKs hnd
    go_wp2_with fail
    refine (d_addEdgesFrom H4.out.1.1 H4.out.2.1 H4.out.2.2.2.2.1 HG.out.2.1 H4.out.2.2.1 H4.out.2.2.2.2.2.1 HG.out.2.2.2.1 (Nat.le_trans HG.out.2.2.2.2.1 (Nat.le_trans HR.out.2.1.size H4.out.1.2.1.size)) H4.out.2.2.2.1 HG.out.2.2.2.2.2.1 HG.out.2.2.2.2.2.2.2).mono ?_
    rintro r5 w5 ⟨l, m, σ3, hl, ht5, hr5, hres5⟩
    rcases hres5 with ⟨rfl, rfl⟩ | ⟨hm, er, -, -, hbad⟩
    · rw [List.take_length, List.nil_append] at hr5
      have H5 := Lib.hid (And.intro hl (And.intro ht5 hr5))
      clear hl ht5 hr5
      go_wp2
      go_ret2
      have ht := H4.out.1.trans H5.out.2.1
      refine ⟨⟨w2.heap.size, w.heap.size, A⟩, τ, σ3, ⟨K, l.map EdgeR.tri⟩, rfl, ht.1, H5.out.2.2, rfl, ⟨H4.out.2.2.2.2.2.2, H5.out.1.1⟩, ?_, ?_⟩
      · exact HR.out.2.1.then ht.2.1 (fun c hc hh => by have := HR.out.2.2 c (Or.inr (Or.inr hh)); omega)
      · rintro c (rfl | rfl | hc)
        · exact HR.out.2.2 _ (Or.inl rfl)
        · exact Nat.le_refl _
        · rcases ht.2.2 c hc with h7 | h7
          · exact HR.out.2.2 c (Or.inr (Or.inr h7))
          · have := HR.out.2.1.size; omega
    · exact absurd hbad (not_refused H4.out.2.2.2.2.2.2 (HG.out.2.1.fine HG.out.1.st) hl.1 hm)
  · exfalso
    simp only [show σ0.V = [] from rfl, List.map_nil, List.nil_append] at hm
    obtain ⟨j, hj, hje⟩ := List.mem_take_iff_getElem.1 hm
    have := List.pairwise_iff_getElem.1 hnd j n (by omega) hn (by omega)
    exact this hje
set_option maxRecDepth 100000 in
set_option maxHeartbeats 4000000 in
theorem u_clone {w : World} {H : Hd} {τ : Tr} {σ : St} {s : PS} {p : Nat → Addr} {B : Nat} (h : Gr w H τ σ) (hr : Rep false s τ σ) (hp : Sent w p) (hB : Below6 B p) (hBw : B ≤ w.heap.size) (hprev : τ.prev = false) (hV : s.V.length < 1000000) (hE : (stored false s.E).length < 1000000) :
    Calls Tryz.prog 131 #[.pointer (some ⟨H.d, 0, none⟩)] w (Cloned false τ s w) := by
  obtain ⟨t0, t1, t2, t3, t4⟩ := cells5 h.tra
  have d0 := h.d0
  have d1 := h.d1
  have ld := h.lt
  have lt := h.ltt
  have HG := Lib.hid (And.intro h (And.intro hr (And.intro hp (And.intro hB (And.intro hBw (And.intro hprev (And.intro hV hE)))))))
  clear h hr hp hB hBw hprev hV hE
  go_enter Tryz.func131, Tryz.ntmps131
  go_upto_region 1 with (fail)
  go_still_tail 29, (by kernel_rfl)
  go_upto_region 2 with (fail)
  have e1 : Ext No w (w.alloc (.cells #[.bool τ.dir, .bool τ.acyc, .bool τ.wei, .bool τ.root, .bool false] 113)).drew := ((Ext.refl No w).alloc _).drew
  have rt : (w.alloc (.cells #[.bool τ.dir, .bool τ.acyc, .bool τ.wei, .bool τ.root, .bool false] 113)).drew.heap[w.heap.size]? = some (.cells #[.bool τ.dir, .bool τ.acyc, .bool τ.wei, .bool τ.root, .bool false] 113 (0, 0)) := at_drew (heap_alloc w _).1
  have d0 := e1.cellv d0 id
  have H1 := Lib.hid (And.intro e1 rt)
  clear e1 rt t0 t1 t2 t3 t4 d1 ld lt
  generalize (w.alloc (.cells #[.bool τ.dir, .bool τ.acyc, .bool τ.wei, .bool τ.root, .bool false] 113)).drew = W1 at H1 d0 ⊢
  have ld := World.block_lt_of_cell? _ _ d0
  go_region_held3 (fun u => u.cell? ⟨H.d, 0, none⟩ = some hashV) (first | exact d0 | exact k0 | exact ((Ext.refl No w2).alloc _).cellv k0 id)
    (first
      | (go_at_call 46; (refine (newStore _).mono ?_); rintro r2 w2 ⟨A, rfl, hst, he, hf⟩; have k0 := he.cellv d0 id; have HN := Lib.hid (And.intro hst (And.intro (((Ext.refl No W1).drew).trans he) hf)); clear hst he hf))
  have HR : RowKit.Hid (Gr (w2.alloc (.cells #[hashV, .pointer (some ⟨w.heap.size, 0, none⟩), storeV A] 175)) ⟨w2.heap.size, w.heap.size, A⟩ τ σ0 ∧ Ext No w (w2.alloc (.cells #[hashV, .pointer (some ⟨w.heap.size, 0, none⟩), storeV A] 175)) ∧ ∀ c, Gr.foot ⟨w2.heap.size, w.heap.size, A⟩ σ0 c → w.heap.size ≤ c) := by
    obtain ⟨hst, he, hf⟩ := HN.out
    obtain ⟨e1, rt⟩ := H1.out
    have hlt : w.heap.size < W1.heap.size := (Array.getElem?_eq_some_iff.1 rt).1
    have hs2 := he.size
    refine Lib.hid ⟨⟨?_, (by rw [HG.out.2.2.2.2.2.1]; exact (he.alloc _).obj rt id), hst.ext ((Ext.refl No w2).alloc _) (fun _ _ h => h), ?_, ?_, ?_⟩, (e1.trans he).alloc _, ?_⟩
    · rw [if_neg (by rw [HG.out.2.1.hd]; simp)]; exact (heap_alloc w2 _).1
    · intro hc; have := hst.foot_lt hc; simp at this
    · intro hc; have := hf _ hc; simp only [] at this; have h3 : W1.drew.heap.size = W1.heap.size := rfl; omega
    · simp only []; omega
    · rintro c (rfl | rfl | hc)
      · simp only []; omega
      · exact Nat.le_refl _
      · have := hf _ hc; have h3 : W1.drew.heap.size = W1.heap.size := rfl; omega
  clear HN k0 d0 ld H1
  generalize w2.alloc (.cells #[hashV, .pointer (some ⟨w.heap.size, 0, none⟩), storeV A] 175) = W3 at HR ⊢
  have hA : Apart ⟨w2.heap.size, w.heap.size, A⟩ σ0 H σ := fun c hc hc2 => by
    have h1 := HR.out.2.2 c hc
    have h2 := HG.out.1.foot_lt hc2
    omega
  have hf0 : ∀ c, σ0.foot A c → B ≤ c := fun c hc => Nat.le_trans HG.out.2.2.2.2.1 (HR.out.2.2 c (Or.inr (Or.inr hc)))
  have hVl : σ.V.length < 1000000 := by rw [HG.out.2.1.lenV]; exact HG.out.2.2.2.2.2.2.1
  have hEl : σ.E.length < 1000000 := by have := HG.out.2.2.2.2.2.2.2; rw [← HG.out.2.1.E, List.length_map] at this; exact this
  have HA := Lib.hid (And.intro hA (And.intro hf0 (And.intro hVl hEl)))
  clear hA hf0 hVl hEl
  go_wp2_with fail
  refine (u_addVerticesFrom HR.out.1 (HG.out.1.ext HR.out.2.1 (fun _ _ h => h)) HA.out.1 (HG.out.2.2.1.ext HG.out.2.2.2.1 HR.out.2.1 (fun _ h => h.elim)) HG.out.2.2.2.1 (Nat.le_trans HG.out.2.2.2.2.1 HR.out.2.1.size) HA.out.2.1 HA.out.2.2.1 HA.out.2.2.2).mono ?_
  rintro r4 w4 ⟨K, n, σ1, hK, ht4, hV4, hE4, hres⟩
  have hKs : K.Perm s.V := by rw [← HG.out.2.1.V]; exact hK
  have hnd : K.Nodup := hKs.nodup_iff.2 (HG.out.2.1.fine HG.out.1.st).nd
  have hV4' : σ1.V.map (·.1) = K.take n := by rw [hV4]; rfl
  rcases hres with ⟨rfl, rfl⟩ | ⟨hn, hm, -⟩
  · rw [List.take_length] at hV4'
    have hr4 : Rep false ⟨K, []⟩ τ σ1 := ⟨HG.out.2.1.hd, hV4', by rw [hE4]; rfl, fun _ e he => by cases he⟩
    have hA4 := HA.out.1.turned ht4 (HG.out.1.ext HR.out.2.1 (fun _ _ h => h))
    have hf4 : ∀ c, σ1.foot A c → B ≤ c := fun c hc => by
      rcases ht4.2.2 c hc with h7 | h7
      · exact HA.out.2.1 c h7
      · have := HR.out.2.1.size; have := HG.out.2.2.2.2.1; omega
    have g4 := ht4.other HA.out.1 (HG.out.1.ext HR.out.2.1 (fun _ _ h => h))
    have hp4 := (HG.out.2.2.1.ext HG.out.2.2.2.1 HR.out.2.1 (fun _ h => h.elim)).ext HG.out.2.2.2.1 ht4.2.1 HA.out.2.1
    have H4 := Lib.hid (And.intro ht4 (And.intro hr4 (And.intro hA4 (And.intro hf4 (And.intro g4 (And.intro hp4 hKs))))))
    clear hK ht4 hV4 hE4 hV4' hr4 hA4 hf4 g4 hp4 hKs hnd
    go_wp2_with fail
    refine (u_addEdgesFrom H4.out.1.1 H4.out.2.1 H4.out.2.2.2.2.1 HG.out.2.1 H4.out.2.2.1 H4.out.2.2.2.2.2.1 HG.out.2.2.2.1 (Nat.le_trans HG.out.2.2.2.2.1 (Nat.le_trans HR.out.2.1.size H4.out.1.2.1.size)) H4.out.2.2.2.1 HG.out.2.2.2.2.2.1 HG.out.2.2.2.2.2.2.2).mono ?_
    rintro r5 w5 ⟨l, m, σ3, hl, ht5, hr5, hres5⟩
    rcases hres5 with ⟨rfl, rfl⟩ | ⟨hm, er, -, -, hbad⟩
    · rw [List.take_length, List.nil_append] at hr5
      have H5 := Lib.hid (And.intro hl (And.intro ht5 hr5))
      clear hl ht5 hr5
      go_wp2
      go_ret2
      have ht := H4.out.1.trans H5.out.2.1
      refine ⟨⟨w2.heap.size, w.heap.size, A⟩, τ, σ3, ⟨K, l.map EdgeR.tri⟩, rfl, ht.1, H5.out.2.2, rfl, ⟨H4.out.2.2.2.2.2.2, H5.out.1.1⟩, ?_, ?_⟩
      · exact HR.out.2.1.then ht.2.1 (fun c hc hh => by have := HR.out.2.2 c (Or.inr (Or.inr hh)); omega)
      · rintro c (rfl | rfl | hc)
        · exact HR.out.2.2 _ (Or.inl rfl)
        · exact Nat.le_refl _
        · rcases ht.2.2 c hc with h7 | h7
          · exact HR.out.2.2 c (Or.inr (Or.inr h7))
          · have := HR.out.2.1.size; omega
    · exact absurd hbad (not_refused H4.out.2.2.2.2.2.2 (HG.out.2.1.fine HG.out.1.st) hl.1 hm)
  · exfalso
    simp only [show σ0.V = [] from rfl, List.map_nil, List.nil_append] at hm
    obtain ⟨j, hj, hje⟩ := List.mem_take_iff_getElem.1 hm
    have := List.pairwise_iff_getElem.1 hnd j n (by omega) hn (by omega)
    exact this hje

end Go.Proofs.YtcenebjdhbdejaaGreatDoor
