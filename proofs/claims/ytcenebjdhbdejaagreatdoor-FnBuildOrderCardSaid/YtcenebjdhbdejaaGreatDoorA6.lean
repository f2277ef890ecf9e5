/- The store's ListVertices, ListEdges, walked. -/
import Derived.Test.YtcenebjdhbdejaaGreatDoorA5
namespace Go.Proofs.YtcenebjdhbdejaaGreatDoor
open Go.MapKept

theorem U26 : Tryz.prog.underlying 26 = some (.slice 2) := by kernel_rfl
theorem I2 : (Tryz.prog.info? 2).map (fun i => (i.zero, i.size, i.bytes)) = some (some (.int .i64 0), 1, 8) := by kernel_rfl
theorem U120 : Tryz.prog.underlying 120 = some (.slice 97) := by kernel_rfl
theorem I97 : (Tryz.prog.info? 97).map (fun i => (i.zero, i.size, i.bytes)) = some (some (.agg #[.int .i64 0, .int .i64 0, .map none, .int .i64 0, .nilIface]), 5, 48) := by kernel_rfl

/-- The keys collected so far. -/
def LV (w : World) (M : List (Int × Value)) (bv r : Nat) (k : Nat) (v : Value) (wr : World) : Prop :=
  ∃ (done left : List (Int × Value)) (cur : Option (Int × Value)), left.length = k ∧ (done ++ left).Perm M ∧ IterI kI wr r bv M left cur ∧ wr.ownsRow w.heap.size 2 1 v done.length (done.flatMap fun p => [kI p.1]) ∧ Ext No w wr

/-- What ListVertices leaves. -/
def Listed (σ : St) (w : World) (r : Ending) (w' : World) : Prop :=
  ∃ (v : Value) (l : List Int), r = .returned (.tuple #[v, .nilIface]) ∧ l.Perm (σ.V.map (·.1)) ∧ w'.ownsRow w.heap.size 2 1 v l.length (l.flatMap fun k => [kI k]) ∧ Ext No w w'

set_option maxRecDepth 100000 in
set_option maxHeartbeats 400000 in
theorem listVertices {w : World} {A : Ad} {σ : St} (h : Store w A σ) (hN : σ.V.length < 1000000) :
    Calls Tryz.prog 149 #[.pointer (some ⟨A.s, 0, none⟩)] w (Listed σ w) := by
  have hlt := h.lt
  have c0 := h.c0
  have hv := h.vm
  go_enter Tryz.func149, Tryz.ntmps149
  have H := Lib.hid h
  clear h
  go_wp2_with (first | (at_len; refine wpL_len rfl rfl U146 rfl hv ?_; simp only [List.length_map]) | (at_make; (refine wpL_make0 rfl rfl U26 I2 rfl (n := σ.V.length) rfl hN (by decide) (Nat.le_refl _) ?_); intro w1 ho1 he1; have hv1 := hv.ext he1 (fun h => h); have c01 := he1.cellv c0 (fun h => h); have hs1 := he1.size) | (at_range; (refine wpL_range rfl rfl U146 rfl hv1 ?_); intro w2 hI2 hs2 he2; have ho2 := ownsRow_ext ho1 he2 (fun _ _ h => h); have he3 := he1.trans he2))
  go_frame
  clear hv hv1 c0 c01 ho1 he1 he2
  go_loopg [4] σ.V.length (fun k v wr => LV w (σ.V.map fun v => (v.1, kI v.1)) A.bv w1.heap.size k v wr)
  case atStart => exact ⟨[], _, _, by simp, by simp, hI2, ho2, he3⟩
  case round =>
    obtain ⟨done, left, cur, hl, hperm, hI, ho, he⟩ := hrel
    clear hI2 ho2 he3 hs2
    have hb : ∀ c, u4.ownBlock = some c → w.heap.size ≤ c := fun c hc => (ho.lt c hc).1
    have hnr := (hI.not_row ho).1
    have HL := Lib.hid hl
    have hdl : done.length < 1000000 := by have := hperm.length_eq; simp at this; omega
    clear hl
    go_wp2_with (first | (at_next; (refine wpL_next rfl rfl rfl hI ?_ ?_); intro h0; rotate_left; intro l1 p l2 wn h1 hIn hsn hen hE; have HS := Lib.hid hsn; clear hsn; have hon := (ownsRow_ext ho hen (fun c hc e => hnr (e ▸ hc))).alloc (.cells #[kI p.1] 2); have hEn := ((he.then hen (T := fun c => c = w1.heap.size) (fun c hc e => by subst e; omega)).alloc (.cells #[kI p.1] 2)); rotate_left) | (at_builtin; (refine wpL_append1 rfl rfl U26 I2 rfl (by decide) (by decide) (f := fun p => [kI p.1]) (fun _ => rfl) (fun _ _ h => by simp at h; subst h; rfl) rfl hon p rfl ⟨2, (0, 0), (heap_alloc wn _).1⟩ hdl hEn.size ?_); intro v' wa hoa hea hba))
    · go_ret2
      have h := H.out
      subst h0
      have hp : done.Perm (σ.V.map fun v => (v.1, kI v.1)) := by simpa using hperm
      refine ⟨u4, done.map (·.1), rfl, ?_, ?_, he⟩
      · have := hp.map (·.1); rwa [keys_map (fun v => kI v.1)] at this
      · simpa [List.flatMap_map] using ho
    · go_roundg (l1 ++ l2).length
      case measure => have hl := HL.out; rw [h1] at hl; simp at hl ⊢; omega
      case rel =>
        refine ⟨done ++ [p], l1 ++ l2, some p, rfl, ?_, (hIn.ext ((Ext.refl No wn).alloc _) id id).row hon hea, hoa, hEn.then hea (fun c hc e => ?_)⟩
        · rw [h1] at hperm
          refine List.Perm.trans ?_ hperm
          simp only [List.append_assoc, List.singleton_append]
          exact List.Perm.append_left _ List.perm_middle.symm
        · have := hb c e.symm; omega

theorem perm_map_inv {β γ : Type} {g : β → γ} {l : List γ} {L : List β} (h : l.Perm (L.map g)) : ∃ L' : List β, L'.Perm L ∧ l = L'.map g := by
  generalize hm : L.map g = m at h
  induction h generalizing L with
  | nil => exact ⟨[], by have : L = [] := by simpa using hm
                         subst this; exact List.Perm.refl _, rfl⟩
  | cons x h ih =>
    cases L with
    | nil => simp at hm
    | cons y L =>
      simp only [List.map_cons, List.cons.injEq] at hm
      obtain ⟨rfl, hm⟩ := hm
      obtain ⟨L', h1, h2⟩ := ih hm
      exact ⟨y :: L', h1.cons y, by rw [h2]; rfl⟩
  | swap x y l =>
    match L, hm with
    | [], hm => simp at hm
    | [_], hm => simp at hm
    | a :: b :: L, hm =>
      simp only [List.map_cons, List.cons.injEq] at hm
      obtain ⟨rfl, rfl, rfl⟩ := hm
      exact ⟨b :: a :: L, List.Perm.swap _ _ _, rfl⟩
  | trans h1 h2 ih1 ih2 =>
    obtain ⟨L', g1, g2⟩ := ih2 hm
    obtain ⟨L'', g3, g4⟩ := ih1 (L := L') g2.symm
    exact ⟨L'', g3.trans g1, g4⟩

abbrev EdgeR.cells (e : EdgeR) : List Value := [kI e.src, kI e.dst, .map (some e.att), .int .i64 e.wt, .nilIface]

theorem EdgeR.one (e : EdgeR) : ∀ u ∈ e.cells, u.oneCell' = true := by
  intro u hu
  simp only [List.mem_cons, List.not_mem_nil, or_false] at hu
  rcases hu with rfl | rfl | rfl | rfl | rfl <;> rfl
theorem two_new (w : World) (o o' : Obj) : ((w.alloc o).alloc o').heap[w.heap.size + 1]? = some o' := by
  have := (heap_alloc (w.alloc o) o').1; rwa [World.size_alloc] at this

/-- the edges that go out of a list of vertices -/
def fan (E : List EdgeR) (l : List Int) : List EdgeR := l.flatMap fun a => E.filter fun e => e.src == a

theorem fan_perm {E : List EdgeR} {l : List Int} (hn : l.Nodup) (h : ∀ e ∈ E, e.src ∈ l) : (fan E l).Perm E := by
  induction l generalizing E with
  | nil =>
    cases E with
    | nil => exact List.Perm.refl _
    | cons e E => exact absurd (h e List.mem_cons_self) (by simp)
  | cons a l ih =>
    rw [List.nodup_cons] at hn
    have h2 : fan E l = fan (E.filter fun e => !(e.src == a)) l := by
      unfold fan
      have : ∀ x ∈ l, (E.filter fun e => e.src == x) = ((E.filter fun e => !(e.src == a)).filter fun e => e.src == x) := by
        intro x hx
        rw [List.filter_filter]
        apply List.filter_congr
        intro e _
        by_cases hex : e.src = x
        · have : x ≠ a := fun e' => hn.1 (e' ▸ hx)
          simp [hex, this]
        · simp [hex]
      clear ih hn h
      induction l with
      | nil => rfl
      | cons y l ih =>
        simp only [List.flatMap_cons]
        rw [this y List.mem_cons_self, ih (fun x hx => this x (List.mem_cons_of_mem _ hx))]
    have h3 : (fan (E.filter fun e => !(e.src == a)) l).Perm (E.filter fun e => !(e.src == a)) := by
      apply ih hn.2
      intro e he
      obtain ⟨h4, h5⟩ := List.mem_filter.1 he
      rcases List.mem_cons.1 (h e h4) with h6 | h6
      · simp [h6] at h5
      · exact h6
    show ((E.filter fun e => e.src == a) ++ fan E l).Perm E
    rw [h2]
    exact ((List.Perm.refl _).append h3).trans (List.filter_append_perm (fun e : EdgeR => e.src == a) E)

theorem fan_perm_of {E : List EdgeR} {l l' : List Int} (h : l.Perm l') : (fan E l).Perm (fan E l') := by
  unfold fan; exact h.flatMap_right _

/-- the outer round of ListEdges -/
def LE1 (w : World) (A : Ad) (σ : St) (r : Nat) (k : Nat) (v : Value) (wr : World) : Prop :=
  ∃ (done left : List (Int × Nat)) (cur : Option (Int × Value)) (ds : List EdgeR), left.length = k ∧ (done ++ left).Perm σ.O ∧
    IterI kI wr r A.bo (σ.O.map fun o => (o.1, .map (some o.2))) (left.map fun o => (o.1, .map (some o.2))) cur ∧
    ds.Perm (fan σ.E (done.map (·.1))) ∧ wr.ownsRow w.heap.size 97 5 v ds.length (ds.flatMap EdgeR.cells) ∧ Ext No w wr

/-- the inner round -/
def LE2 (w : World) (A : Ad) (σ : St) (r r2 : Nat) (left : List (Int × Nat)) (o : Int × Nat) (ds : List EdgeR) (k : Nat) (v : Value) (wr : World) : Prop :=
  ∃ (dn lf : List EdgeR) (cur2 : Option (Int × Value)), lf.length = k ∧ (dn ++ lf).Perm (σ.E.filter fun e => e.src == o.1) ∧
    (∃ cur, IterI kI wr r A.bo (σ.O.map fun o => (o.1, .map (some o.2))) (left.map fun o => (o.1, .map (some o.2))) cur) ∧
    IterI kI wr r2 o.2 (outOf σ.E o.1) (lf.map fun e => (e.dst, e.val)) cur2 ∧
    wr.ownsRow w.heap.size 97 5 v (ds ++ dn).length ((ds ++ dn).flatMap EdgeR.cells) ∧ Ext No w wr

/-- What ListEdges leaves. -/
def ListedE (σ : St) (w : World) (r : Ending) (w' : World) : Prop :=
  ∃ (v : Value) (l : List EdgeR), r = .returned (.tuple #[v, .nilIface]) ∧ l.Perm σ.E ∧ w'.ownsRow w.heap.size 97 5 v l.length (l.flatMap EdgeR.cells) ∧ Ext No w w'

set_option maxRecDepth 100000 in
set_option maxHeartbeats 800000 in
theorem listEdges {w : World} {A : Ad} {σ : St} (h : Store w A σ) (hN : σ.E.length < 1000000) :
    Calls Tryz.prog 148 #[.pointer (some ⟨A.s, 0, none⟩)] w (ListedE σ w) := by
  have hlt := h.lt
  have c2 := h.c2
  have hv := h.om
  go_enter Tryz.func148, Tryz.ntmps148
  have H := Lib.hid h
  clear h
  go_wp2_with (first | (at_make; (refine wpL_make0 rfl rfl U120 I97 rfl (n := 0) rfl (by decide) (by decide) (Nat.le_refl _) ?_); intro w1 ho1 he1; have hv1 := hv.ext he1 (fun h => h); have c21 := he1.cellv c2 (fun h => h); have hs1 := he1.size) | (at_range; (refine wpL_range rfl rfl U105 rfl hv1 ?_); intro w2 hI2 hs2 he2; have ho2 := ownsRow_ext ho1 he2 (fun _ _ h => h); have he3 := he1.trans he2))
  go_frame
  clear hv hv1 c2 c21 ho1 he1 he2
  go_loopg [4] σ.O.length (fun k v wr => LE1 w A σ w1.heap.size k v wr)
  case atStart => exact ⟨[], σ.O, none, [], rfl, by simp, hI2, by simp [fan], by simpa using ho2, he3⟩
  case round =>
    obtain ⟨done, left, cur, ds, hl, hperm, hI, hds, ho, he⟩ := hrel
    clear hI2 ho2 he3 hs2
    have hb : ∀ c, u4.ownBlock = some c → w.heap.size ≤ c := fun c hc => (ho.lt c hc).1
    have hnr := (hI.not_row ho).1
    have HL := Lib.hid hl
    clear hl
    go_wp2_with (first | (at_next; (refine wpL_nextM (g := fun o : Int × Nat => (o.1, Value.map (some o.2))) rfl rfl rfl hI ?_ ?_); intro h0; rotate_left; intro l1 o l2 wn h1 hIn hsn hen hE; have HS := Lib.hid hsn; clear hsn; have hoM : o ∈ σ.O := hperm.mem_iff.1 (by rw [h1]; simp); have hmn := (H.out.outs o hoM).ext (he.then hen (T := fun c => c = w1.heap.size) (fun c hc e => by subst e; omega)) (fun h => h); rotate_left) | (at_range; (refine wpL_range rfl rfl U107 rfl hmn ?_); intro w5 hI5 hs5 he5))
    · go_ret2
      have h := H.out
      subst h0
      have hp : done.Perm σ.O := by simpa using hperm
      refine ⟨u4, ds, rfl, ?_, ho, he⟩
      refine (hds.trans (fan_perm_of (hp.map (·.1)))).trans (fan_perm h.okeys ?_)
      intro e he'
      obtain ⟨b, hb⟩ := h.outk e he'
      exact List.mem_map.2 ⟨_, hb, rfl⟩
    · try go_frame
      have hin : IterI kI w5 w1.heap.size A.bo (σ.O.map fun o => (o.1, .map (some o.2))) ((l1 ++ l2).map fun o => (o.1, .map (some o.2))) (some (o.1, .map (some o.2))) := hIn.ext he5 id id
      have how : w5.ownsRow w.heap.size 97 5 u4 ds.length (ds.flatMap EdgeR.cells) := ownsRow_ext (ownsRow_ext ho hen (fun c hc e => hnr (e ▸ hc))) he5 (fun _ _ => id)
      have hew : Ext No w w5 := (he.then hen (T := fun c => c = w1.heap.size) (fun c hc e => by subst e; omega)).trans he5
      have hws : w1.heap.size < wn.heap.size := hIn.ltr
      have HH := Lib.hid (And.intro hin (And.intro how hew))
      clear hIn how hew hen hE hmn hI
      go_loopg [4] (σ.E.filter fun e => e.src == o.1).length (fun k v wq => LE2 w A σ w1.heap.size wn.heap.size (l1 ++ l2) o ds k v wq)
      case atStart =>
        obtain ⟨a1, a2, a3⟩ := HH.out
        exact ⟨[], (σ.E.filter fun e => e.src == o.1), none, rfl, by simp, ⟨_, a1⟩, hI5, by simpa using a2, a3⟩
      case round =>
        obtain ⟨dn, lf, cur2, hl2, hperm2, ⟨cur1, hI1⟩, hI2, ho2, he2⟩ := hrel
        have hb2 : ∀ c, u4.ownBlock = some c → w.heap.size ≤ c := fun c hc => (ho2.lt c hc).1
        have hnr2 := (hI2.not_row ho2).1
        have HL2 := Lib.hid hl2
        clear hl2 hI5 hs5 he5 hb hnr ho
        have hdl : (ds ++ dn).length < 1000000 := by
          have hle : (fan σ.E (done.map (·.1)) ++ σ.E.filter fun e => e.src == o.1).length ≤ σ.E.length := by
            have hp : (fan σ.E ((done ++ left).map (·.1))).Perm σ.E := (fan_perm_of (hperm.map (·.1))).trans (fan_perm H.out.okeys (fun e he' => by
              obtain ⟨b, hb⟩ := H.out.outk e he'
              exact List.mem_map.2 ⟨_, hb, rfl⟩))
            have hle := hp.length_eq
            rw [h1] at hle
            simp only [fan, List.map_append, List.flatMap_append, List.length_append, List.map_cons, List.flatMap_cons] at hle ⊢
            omega
          have g1 := hds.length_eq
          have g2 := hperm2.length_eq
          simp only [List.length_append] at hle g2 ⊢
          omega
        go_wp2_with (first | (at_next; (refine wpL_nextM (g := fun e : EdgeR => (e.dst, e.val)) rfl rfl rfl hI2 ?_ ?_); intro h0; rotate_left; intro k1 e k2 wm h2 hIm hsm hem hEm; have HS2 := Lib.hid hsm; clear hsm; have hon := ((ownsRow_ext ho2 hem (fun c hc e => hnr2 (e ▸ hc))).alloc (.cells e.cells.toArray 97)).alloc (.cells e.cells.toArray 97); have hEn := (((he2.then hem (T := fun c => c = wn.heap.size) (fun c hc e => by subst e; omega)).alloc (.cells e.cells.toArray 97)).alloc (.cells e.cells.toArray 97)); rotate_left) | (at_builtin; (refine wpL_append1 rfl rfl U120 I97 rfl (by decide) (by decide) (f := EdgeR.cells) (fun _ => rfl) EdgeR.one rfl hon e rfl ⟨97, (0, 0), two_new _ _ _⟩ hdl hEn.size ?_); intro v' wa hoa hea hba))
        · go_roundg (l1 ++ l2).length
          case measure => have hl := HL.out; rw [h1] at hl; simp at hl ⊢; omega
          case rel =>
            subst h0
            refine ⟨done ++ [o], l1 ++ l2, _, ds ++ dn, rfl, ?_, hI1, ?_, ho2, he2⟩
            · rw [h1] at hperm
              refine List.Perm.trans ?_ hperm
              simp only [List.append_assoc, List.singleton_append]
              exact List.Perm.append_left _ List.perm_middle.symm
            · simp only [fan, List.map_append, List.flatMap_append, List.map_cons, List.map_nil, List.flatMap_cons, List.flatMap_nil, List.append_nil]
              exact hds.append (by simpa using hperm2)
        · go_roundg (k1 ++ k2).length
          case measure => have hl := HL2.out; rw [h2] at hl; simp at hl ⊢; omega
          case rel =>
            have hbo := H.out.om.lt
            have hr1 := ((hI1.ext hem (fun e => by omega) (fun e => by omega)).ext ((((Ext.refl No wm).alloc (.cells e.cells.toArray 97)).alloc (.cells e.cells.toArray 97))) id id).row hon hea
            have hr2 := (hIm.ext ((((Ext.refl No wm).alloc (.cells e.cells.toArray 97)).alloc (.cells e.cells.toArray 97))) id id).row hon hea
            refine ⟨dn ++ [e], k1 ++ k2, _, rfl, ?_, ⟨_, hr1⟩, hr2, by simpa using hoa, hEn.then hea (fun c hc e => ?_)⟩
            · rw [h2] at hperm2
              refine List.Perm.trans ?_ hperm2
              simp only [List.append_assoc, List.singleton_append]
              exact List.Perm.append_left _ List.perm_middle.symm
            · have := hb2 c e.symm; omega
end Go.Proofs.YtcenebjdhbdejaaGreatDoor
