/- sort.Slice, as stepped calls it: over the shelf's contract. stepped: the adjacency map, walked. stepped: the predecessor map, walked. sort.Slice over the edges of edgesOf. -/
import Derived.Test.YtcenebjdhbdejaaGreatDoorB16
import Derived.Shelf.GgSortFunc.Whole
import Derived.Shelf.GgSortFunc.Tiny
import Derived.Shelf.SlSortFuncK.WholeK
import Derived.Deep.QuietTactic
namespace Go.Proofs
open Go.Shelf Go.RowKit Go.Lib Go.Sort
def Tryz.sg_ren : Go.Shelf.Ren := ⟨fun | 6 => 37 | 10 => 49 | 11 => 50 | 12 => 51 | 13 => 52 | 14 => 53 | 24 => 68 | 25 => 69 | 26 => 70 | 27 => 71 | 28 => 72 | 29 => 73 | 30 => 74 | 31 => 75 | 32 => 76 | 33 => 77 | 34 => 78 | 35 => 79 | 36 => 80 | 37 => 81 | 38 => 82 | 39 => 83 | n => n, fun | 20 => 20 | 26 => 109 | 35 => 127 | 0 => 0 | 37 => 129 | 3 => 3 | 41 => 133 | 44 => 136 | 49 => 154 | 51 => 156 | 4 => 4 | 54 => 159 | 53 => 158 | 58 => 163 | 5 => 5 | 9 => 9 | 60 => 176 | 64 => 180 | 66 => 182 | 67 => 183 | 17 => 17 | 32 => 124 | 33 => 125 | 82 => 200 | 12 => 12 | 75 => 193 | 76 => 194 | 77 => 195 | 78 => 196 | 79 => 197 | 80 => 198 | n => n, fun n => n⟩
theorem Tryz.sg : LaysGg.n6 Tryz.prog Tryz.sg_ren := {
  mixed := by kernel_rfl,
  f6 := Tryz.func37.trans (congrArg some (by kernel_rfl)),
  f10 := Tryz.func49.trans (congrArg some (by kernel_rfl)),
  f11 := Tryz.func50.trans (congrArg some (by kernel_rfl)),
  f12 := Tryz.func51.trans (congrArg some (by kernel_rfl)),
  f13 := Tryz.func52.trans (congrArg some (by kernel_rfl)),
  f14 := Tryz.func53.trans (congrArg some (by kernel_rfl)),
  f24 := Tryz.func68.trans (congrArg some (by kernel_rfl)),
  f25 := Tryz.func69.trans (congrArg some (by kernel_rfl)),
  f26 := Tryz.func70.trans (congrArg some (by kernel_rfl)),
  f27 := Tryz.func71.trans (congrArg some (by kernel_rfl)),
  f28 := Tryz.func72.trans (congrArg some (by kernel_rfl)),
  f29 := Tryz.func73.trans (congrArg some (by kernel_rfl)),
  f30 := Tryz.func74.trans (congrArg some (by kernel_rfl)),
  f31 := Tryz.func75.trans (congrArg some (by kernel_rfl)),
  f32 := Tryz.func76.trans (congrArg some (by kernel_rfl)),
  f33 := Tryz.func77.trans (congrArg some (by kernel_rfl)),
  f34 := Tryz.func78.trans (congrArg some (by kernel_rfl)),
  f35 := Tryz.func79.trans (congrArg some (by kernel_rfl)),
  f36 := Tryz.func80.trans (congrArg some (by kernel_rfl)),
  f37 := Tryz.func81.trans (congrArg some (by kernel_rfl)),
  f38 := Tryz.func82.trans (congrArg some (by kernel_rfl)),
  f39 := Tryz.func83.trans (congrArg some (by kernel_rfl)),
  t0 := Tryz.underlying0,
  a0 := Tryz.isAgg0,
  z0 := Tryz.sizeOf0,
  v0 := Tryz.zeroValue0,
  i0 := by kernel_rfl,
  t3 := Tryz.underlying3,
  a3 := Tryz.isAgg3,
  z3 := Tryz.sizeOf3,
  v3 := Tryz.zeroValue3,
  i3 := by kernel_rfl,
  t4 := Tryz.underlying4,
  a4 := Tryz.isAgg4,
  z4 := Tryz.sizeOf4,
  v4 := Tryz.zeroValue4,
  i4 := by kernel_rfl,
  t5 := Tryz.underlying5,
  a5 := Tryz.isAgg5,
  z5 := Tryz.sizeOf5,
  v5 := Tryz.zeroValue5,
  i5 := by kernel_rfl,
  t9 := Tryz.underlying9,
  a9 := Tryz.isAgg9,
  z9 := Tryz.sizeOf9,
  v9 := Tryz.zeroValue9,
  i9 := by kernel_rfl,
  t12 := Tryz.underlying12,
  a12 := Tryz.isAgg12,
  z12 := Tryz.sizeOf12,
  v12 := Tryz.zeroValue12,
  i12 := by kernel_rfl,
  t17 := Tryz.underlying17,
  a17 := Tryz.isAgg17,
  z17 := Tryz.sizeOf17,
  v17 := Tryz.zeroValue17,
  i17 := by kernel_rfl,
  t20 := Tryz.underlying20,
  a20 := Tryz.isAgg20,
  z20 := Tryz.sizeOf20,
  v20 := Tryz.zeroValue20,
  i20 := by kernel_rfl,
  t26 := Tryz.underlying109,
  a26 := Tryz.isAgg109,
  z26 := Tryz.sizeOf109,
  v26 := Tryz.zeroValue109,
  i26 := by kernel_rfl,
  t32 := Tryz.underlying124,
  a32 := Tryz.isAgg124,
  z32 := Tryz.sizeOf124,
  v32 := Tryz.zeroValue124,
  i32 := by kernel_rfl,
  t33 := Tryz.underlying125,
  a33 := Tryz.isAgg125,
  z33 := Tryz.sizeOf125,
  v33 := Tryz.zeroValue125,
  i33 := by kernel_rfl,
  t35 := Tryz.underlying127,
  a35 := Tryz.isAgg127,
  z35 := Tryz.sizeOf127,
  v35 := Tryz.zeroValue127,
  i35 := by kernel_rfl,
  t37 := Tryz.underlying129,
  a37 := Tryz.isAgg129,
  z37 := Tryz.sizeOf129,
  v37 := Tryz.zeroValue129,
  i37 := by kernel_rfl,
  t41 := Tryz.underlying133,
  a41 := Tryz.isAgg133,
  z41 := Tryz.sizeOf133,
  v41 := Tryz.zeroValue133,
  i41 := by kernel_rfl,
  t44 := Tryz.underlying136,
  a44 := Tryz.isAgg136,
  z44 := Tryz.sizeOf136,
  v44 := Tryz.zeroValue136,
  i44 := by kernel_rfl,
  t49 := Tryz.underlying154,
  a49 := Tryz.isAgg154,
  z49 := Tryz.sizeOf154,
  v49 := Tryz.zeroValue154,
  i49 := by kernel_rfl,
  t51 := Tryz.underlying156,
  a51 := Tryz.isAgg156,
  z51 := Tryz.sizeOf156,
  v51 := Tryz.zeroValue156,
  i51 := by kernel_rfl,
  t53 := Tryz.underlying158,
  a53 := Tryz.isAgg158,
  z53 := Tryz.sizeOf158,
  v53 := Tryz.zeroValue158,
  i53 := by kernel_rfl,
  t54 := Tryz.underlying159,
  a54 := Tryz.isAgg159,
  z54 := Tryz.sizeOf159,
  v54 := Tryz.zeroValue159,
  i54 := by kernel_rfl,
  t58 := Tryz.underlying163,
  a58 := Tryz.isAgg163,
  z58 := Tryz.sizeOf163,
  v58 := Tryz.zeroValue163,
  i58 := by kernel_rfl,
  t60 := Tryz.underlying176,
  a60 := Tryz.isAgg176,
  z60 := Tryz.sizeOf176,
  v60 := Tryz.zeroValue176,
  i60 := by kernel_rfl,
  t64 := Tryz.underlying180,
  a64 := Tryz.isAgg180,
  z64 := Tryz.sizeOf180,
  v64 := Tryz.zeroValue180,
  i64 := by kernel_rfl,
  t66 := Tryz.underlying182,
  a66 := Tryz.isAgg182,
  z66 := Tryz.sizeOf182,
  v66 := Tryz.zeroValue182,
  i66 := by kernel_rfl,
  t67 := Tryz.underlying183,
  a67 := Tryz.isAgg183,
  z67 := Tryz.sizeOf183,
  v67 := Tryz.zeroValue183,
  i67 := by kernel_rfl,
  t75 := Tryz.underlying193,
  a75 := Tryz.isAgg193,
  z75 := Tryz.sizeOf193,
  v75 := Tryz.zeroValue193,
  i75 := by kernel_rfl,
  t76 := Tryz.underlying194,
  a76 := Tryz.isAgg194,
  z76 := Tryz.sizeOf194,
  v76 := Tryz.zeroValue194,
  i76 := by kernel_rfl,
  t77 := Tryz.underlying195,
  a77 := Tryz.isAgg195,
  z77 := Tryz.sizeOf195,
  v77 := Tryz.zeroValue195,
  i77 := by kernel_rfl,
  t78 := Tryz.underlying196,
  a78 := Tryz.isAgg196,
  z78 := Tryz.sizeOf196,
  v78 := Tryz.zeroValue196,
  i78 := by kernel_rfl,
  t79 := Tryz.underlying197,
  a79 := Tryz.isAgg197,
  z79 := Tryz.sizeOf197,
  v79 := Tryz.zeroValue197,
  i79 := by kernel_rfl,
  t80 := Tryz.underlying198,
  a80 := Tryz.isAgg198,
  z80 := Tryz.sizeOf198,
  v80 := Tryz.zeroValue198,
  i80 := by kernel_rfl,
  t82 := Tryz.underlying200,
  a82 := Tryz.isAgg200,
  z82 := Tryz.sizeOf200,
  v82 := Tryz.zeroValue200,
  i82 := by kernel_rfl }
end Go.Proofs

namespace Go.Proofs.YtcenebjdhbdejaaGreatDoor
open Go.Shelf Go.RowKit Go.Lib Go.Sort

noncomputable def t26 : TypeInfo := (Tryz.prog.info? 26).get (by kernel_rfl)
noncomputable def t2 : TypeInfo := (Tryz.prog.info? 2).get (by kernel_rfl)
noncomputable def t37 : TypeInfo := (Tryz.prog.info? 37).get (by kernel_rfl)
noncomputable def t59 : TypeInfo := (Tryz.prog.info? 59).get (by kernel_rfl)

theorem sK2 (n : Nat) (h2 : 2 ≤ n) : Lib.swapperK n t2 6 = 5 := by
  have a : t2.hasPointers = false := by kernel_rfl
  have b : t2.bytes = 8 := by kernel_rfl
  have c : (n == 0) = false := by simp; omega
  have d : (n == 1) = false := by simp; omega
  simp [Lib.swapperK, a, b, c, d]
theorem sK59 (n : Nat) (h2 : 2 ≤ n) : Lib.swapperK n t59 25 = 9 := by
  have a : t59.hasPointers = false := by kernel_rfl
  have b : t59.bytes = 24 := by kernel_rfl
  have c : (n == 0) = false := by simp; omega
  have d : (n == 1) = false := by simp; omega
  simp [Lib.swapperK, a, b, c, d]

def ltK (a b : Int) : Bool := decide (a < b)
theorem swo_ltK : SWO ltK where
  irrefl := fun x => by simp [ltK]
  trans := fun x y z h1 h2 => by simp [ltK] at *; omega
  ntrans := fun x y z h1 h2 => by simp [ltK] at *; omega
/-- by the ends -/
def ltE (a b : Tri) : Bool := decide (a.1 < b.1 ∨ a.1 = b.1 ∧ a.2.1 < b.2.1)
theorem swo_ltE : SWO ltE where
  irrefl := fun x => by simp [ltE]
  trans := fun x y z h1 h2 => by simp [ltE] at *; omega
  ntrans := fun x y z h1 h2 => by simp [ltE] at *; omega

set_option maxHeartbeats 2000000 in
theorem less_keys (blk c t size : Nat) (W : World) (G : Nat → Int) (hs : W.cell? ⟨t, 4, none⟩ = some (.slice (some ⟨blk, 0, none⟩) size c))
    (hc : ∀ k, k < size → W.cell? ⟨blk, 0 + k, none⟩ = some (.int .i64 (G k))) (i j : Nat) (hi : i < size) (hj : j < size) :
    Calls Tryz.prog 38 #[.int .i64 i, .int .i64 j, .pointer (some ⟨t, 0, none⟩)] W fun e w' => e = .returned (.bool (decide (G i < G j))) ∧ ∃ q, w' = W.drewN q := by
  have ci : W.cell? ⟨blk, i, none⟩ = some (.int .i64 (G i)) := by have := hc i hi; simpa using this
  have cj : W.cell? ⟨blk, j, none⟩ = some (.int .i64 (G j)) := by have := hc j hj; simpa using this
  clear hc
  go_enter Tryz.func38, Tryz.ntmps38
  go_wp2
  go_quiet (fail)
  go_wp2
  go_ret
  exact ⟨rfl, nq, rfl⟩

set_option maxHeartbeats 4000000 in
theorem less_edges (blk c t size : Nat) (W : World) (G : Nat → Tri) (hs : W.cell? ⟨t, 5, none⟩ = some (.slice (some ⟨blk, 0, none⟩) size c))
    (h0 : ∀ k, k < size → W.cell? ⟨blk, 0 + k * 3, none⟩ = some (.int .i64 (G k).1)) (h1 : ∀ k, k < size → W.cell? ⟨blk, 0 + k * 3 + 1, none⟩ = some (.int .i64 (G k).2.1)) (i j : Nat) (hi : i < size) (hj : j < size) :
    Calls Tryz.prog 39 #[.int .i64 i, .int .i64 j, .pointer (some ⟨t, 0, none⟩)] W fun e w' => e = .returned (.bool (ltE (G i) (G j))) ∧ ∃ q, w' = W.drewN q := by
  have ci : W.cell? ⟨blk, i * 3, none⟩ = some (.int .i64 (G i).1) := by have := h0 i hi; simpa using this
  have cj : W.cell? ⟨blk, j * 3, none⟩ = some (.int .i64 (G j).1) := by have := h0 j hj; simpa using this
  have di : W.cell? ⟨blk, i * 3 + 1, none⟩ = some (.int .i64 (G i).2.1) := by have := h1 i hi; simpa using this
  have dj : W.cell? ⟨blk, j * 3 + 1, none⟩ = some (.int .i64 (G j).2.1) := by have := h1 j hj; simpa using this
  clear h0 h1
  go_enter Tryz.func39, Tryz.ntmps39
  go_wp2
  go_quiet (fail)
  go_wp2
  · go_quiet (fail)
    go_wp2
    go_ret
    have hne : ((G i).1 != (G j).1) = true := by assumption
    refine ⟨?_, _, World.drewN_drewN _ _ _⟩
    simp only [bne_iff_ne, ne_eq] at hne
    simp [ltE, hne]
  · go_quiet (fail)
    go_wp2
    go_ret
    have hne : ((G i).1 != (G j).1) = false := by assumption
    refine ⟨?_, _, World.drewN_drewN _ _ _⟩
    simp only [bne_eq_false_iff_eq] at hne
    simp [ltE, hne]

section
variable {α : Type} [Inhabited α]
theorem holds_blk (enc : α → Value) {w : World} {g : Nat} {cur : Array Value} {e : TypeId} {ss : List α} (hb : w.heap[g]? = some (.cells cur e (0, 0))) (ht : cur.toList.take ss.length = ss.map enc) : Holds enc w g 0 ss.toArray := by
  intro j hj
  have hj' : j < ss.length := by simpa using hj
  refine ⟨?_, by simp [World.frozen?, hb]⟩
  have h1 : (cur.toList.take ss.length)[j]? = (ss.map enc)[j]? := by rw [ht]
  rw [List.getElem?_take_of_lt hj'] at h1
  simp only [World.cell?, hb, Nat.zero_add]
  simp only [Option.isSome_none, Bool.false_eq_true, if_false]
  rw [← Array.getElem?_toList, h1]
  simp [hj']

theorem heap_sortedA (enc : α → Value) {w : World} {g n : Nat} {os : Array Obj} {cur : Array Value} {e : TypeId} {fr : Nat × Nat} (d : Array α) (hb : w.heap[g]? = some (.cells cur e fr)) :
    (grow (putRow enc (Sort.ahead w n) g 0 d) os).heap[g]? = some (.cells (putCells enc 0 d cur) e fr) := by
  have hg : g < w.heap.size := (Array.getElem?_eq_some_iff.1 hb).1
  rw [heap_grow_old _ _ (by simpa using hg)]
  simp [putRow, mapBlock, Sort.ahead, Array.getElem?_modify, hb, onCells]

theorem ext_sortedA (enc : α → Value) {w : World} {g n : Nat} {os : Array Obj} (d : Array α) : Ext (fun c => c = g) w (grow (putRow enc (Sort.ahead w n) g 0 d) os) := by
  refine ⟨by simp, fun k hk hne => ?_, rfl, rfl⟩
  rw [heap_grow_old _ _ (by simpa using hk)]
  have : g ≠ k := fun e => hne e.symm
  simp [putRow, mapBlock, Sort.ahead, Array.getElem?_modify, this]

theorem take_putCellsA (enc : α → Value) (cur : Array Value) (ts : Array α) (h : ts.size ≤ cur.size) : (putCells enc 0 ts cur).toList.take ts.size = ts.toList.map enc := by
  apply List.ext_getElem?
  intro j
  by_cases hj : j < ts.size
  · rw [List.getElem?_take_of_lt hj, Array.getElem?_toList]
    simp [putCells, hj, show j < cur.size by omega]
  · rw [List.getElem?_take_eq_none (by omega), List.getElem?_eq_none (by simp; omega)]

theorem perm_of {d d' : Array α} (h : PermIn 0 d.size d d') : d'.toList.Perm d.toList := by
  obtain ⟨h1, -, h3⟩ := h
  have e1 : d.extract 0 d.size = d := by simp
  have e2 : d'.extract 0 d.size = d' := by rw [← h1]; simp
  rwa [e1, e2] at h3
theorem sorted_of {lt : α → α → Bool} {d d' : Array α} (h : PermIn 0 d.size d d') (hs : SortedIn lt 0 d.size d') : d'.toList.Pairwise (fun a b => lt b a = false) := by
  rw [List.pairwise_iff_getElem]
  intro i j hi hj hij
  have h1 := h.1
  have := hs i j (Nat.zero_le _) hij (by simp at hj; omega)
  rw [getElem!_pos d' j (by simpa using hj), getElem!_pos d' i (by simpa using hi)] at this
  simpa using this
end

theorem flatK_list {β : Type} [Inhabited β] {enc : β → List Value} {k : Nat} (hk : ∀ x, (enc x).length = k) (h0 : 0 < k) (d : Array β) : (flatK enc k d).toList = d.toList.flatMap enc := by
  apply List.ext_getElem?
  intro t
  have hl : (d.toList.flatMap enc).length = d.size * k := by
    have : ∀ l : List β, (l.flatMap enc).length = l.length * k := by
      intro l; induction l with
      | nil => simp
      | cons x l ih => simp only [List.flatMap_cons, List.length_append, ih, hk, List.length_cons, Nat.add_mul]; omega
    rw [this]; simp
  by_cases ht : t < d.size * k
  · have h1 : t / k < d.size := by rw [Nat.div_lt_iff_lt_mul h0]; exact ht
    have h2 : t % k < k := Nat.mod_lt _ h0
    have h3 := flat_get hk d.toList (t / k) (t % k) (by simpa using h1) h2
    have h4 : t / k * k + t % k = t := by rw [Nat.mul_comm]; exact Nat.div_add_mod t k
    rw [h4] at h3
    rw [h3, Array.getElem?_toList, Array.getElem?_eq_getElem (by simpa using ht)]
    have h5 := get_flatK enc k d t ht
    rw [getElem!_pos (flatK enc k d) t (by simpa using ht)] at h5
    rw [h5, getElem!_pos d _ h1, getElem!_pos (enc d[t / k]) _ (by rw [hk]; exact h2), Array.getElem_toList, List.getElem?_eq_getElem (by rw [hk]; exact h2)]
    rfl
  · rw [List.getElem?_eq_none (by simp; omega), List.getElem?_eq_none (by rw [hl]; omega)]

theorem map_oneC (l : List Int) : l.map (Value.int .i64) = l.flatMap oneC := by induction l with
  | nil => rfl
  | cons x l ih => simp [ih]

theorem pair_small {β : Type} {R : β → β → Prop} : ∀ {l : List β}, ¬ 2 ≤ l.length → l.Pairwise R
  | [], _ => List.Pairwise.nil
  | [x], _ => by simp
  | x :: y :: l, h => absurd (by simp) h

theorem swapper_small : ∀ n : Nat, n ≤ 1 → Tryz.prog.funcs.findIdx? (·.name == "internal/reflectlite" ++ ".Swapper$" ++ toString (n + 1)) = some (59 + n)
  | 0, _ => by kernel_rfl
  | 1, _ => by kernel_rfl
  | n + 2, h => by omega

set_option maxRecDepth 100000 in
set_option maxHeartbeats 2000000 in
theorem sortKeys {w : World} {t B : Nat} {c0 c1 c2 c3 ks es : Value} {kl : List Int} (hrow : w.heap[t]? = some (.cells #[c0, c1, c2, c3, ks, es] 39 (0, 0))) (ho : w.ownsRow B 2 1 ks kl.length (kl.flatMap oneC)) (hl : kl.length < 1000000) :
    Calls Tryz.prog 37 #[.iface 26 ks, .func (.func 38) #[] #[.pointer (some ⟨t, 0, none⟩)]] w fun r w' => r = .returned (.tuple #[]) ∧ ∃ kl' : List Int, kl'.Perm kl ∧ kl'.Pairwise (fun a b => ltK b a = false) ∧ w'.ownsRow B 2 1 ks kl'.length (kl'.flatMap oneC) ∧ Ext (fun c => some c = ks.ownBlock) w w' := by
  by_cases h2 : 2 ≤ kl.length
  · rcases ho.2 with ⟨-, hn⟩ | ⟨g, cap, cur, rfl, hb, hgg, hnc, hcm, hsz, htk⟩
    · omega
    have htk' : cur.toList.take kl.length = kl.map (Value.int .i64) := by rw [map_oneC, ← htk, Nat.mul_one]
    have hH : Holds (Value.int .i64) w g 0 kl.toArray := holds_blk _ hgg htk'
    have hblk : g < w.heap.size := (Array.getElem?_eq_some_iff.1 hgg).1
    have htb : t < w.heap.size := (Array.getElem?_eq_some_iff.1 hrow).1
    have htg : t ≠ g := fun e => row_ne hrow ho (by decide) (by rw [e]; rfl)
    have hcell : w.cell? ⟨t, 4, none⟩ = some (.slice (some ⟨g, 0, none⟩) kl.toArray.size cap) := (cells6 hrow).2.2.2.2.1
    have hless : LessReads Tryz.prog 38 #[.pointer (some ⟨t, 0, none⟩)] (Value.int .i64) ltK g 0 kl.toArray.size w := by
      intro m os dk hs i j hi hj
      have e : sortWorld (Value.int .i64) w g 0 m dk os = putRow (Value.int .i64) (grow (Sort.ahead w m) os) g 0 dk := by
        unfold sortWorld; rw [putRow_grow _ (Sort.ahead w m) _ g 0 _ hblk]
      have hHg : Holds (Value.int .i64) (grow (Sort.ahead w m) os) g 0 kl.toArray := holds_grow _ _ _ g 0 _ hblk (holds_ahead _ _ _ _ _ _ hH)
      refine less_keys g cap t kl.toArray.size _ (fun k => dk[k]!) ?_ (fun k hk => ?_) i j hi hj
      · rw [e, cell?_putRow_other _ _ g 0 dk _ (Or.inl (by exact htg)), cell?_grow _ _ _ (by exact htb)]; exact hcell
      · rw [e]; exact cell?_putRow _ _ g 0 _ dk hHg hs k (by omega)
    have hS := Any.sort_Slice_sorted Tryz.sg 26 2 t26 t2 (by kernel_rfl) (by kernel_rfl) (by kernel_rfl) (by kernel_rfl) 6 (fun _ => by kernel_rfl) (by kernel_rfl) (fun _ => by kernel_rfl) (Value.int .i64) (fun _ => rfl) ltK swo_ltK 38 _
      (enters_of Tryz.func38 (by kernel_rfl) rfl) g 0 cap kl.toArray (by simpa using h2) (by simp; omega) 63 (by rw [sK2 _ (by simpa using h2)]; kernel_rfl) true
      (fun args W => run_callFunc_extern Tryz.func63 (by kernel_rfl) (by kernel_rfl) (by kernel_rfl) (e := Extern.ReflectliteSwapper.swap true) (by kernel_rfl) args W) _ hless hH hblk
    change Calls Tryz.prog 37 _ _ _ at hS
    refine hS.mono ?_
    rintro r w' ⟨rfl, d', n, os, hp, hs, rfl⟩
    have hd : d'.size = kl.length := by have := hp.1; simpa using this
    refine ⟨rfl, d'.toList, ?_, sorted_of hp hs, ?_, (ext_sortedA _ _).mono (fun c _ hc => by rw [hc]; rfl)⟩
    · have := perm_of hp; simpa using this
    · have hlen : d'.toList.length = kl.length := by simpa using hd
      refine ⟨by rw [← map_oneC]; simp, Or.inr ⟨g, cap, _, by rw [hlen], hb, heap_sortedA _ _ hgg, by omega, hcm, by simp [putCells, hsz], ?_⟩⟩
      rw [← map_oneC, Nat.mul_one, hlen, ← hd]
      exact take_putCellsA _ cur d' (by omega)
  · obtain ⟨q, cap, rfl, -⟩ := own_read (f := oneC) (fun _ => rfl) ho
    have hK : Lib.swapperK kl.length t2 6 = kl.length + 1 := by
      rcases Nat.eq_zero_or_pos kl.length with h | h
      · rw [h]; simp [Lib.swapperK]
      · have : kl.length = 1 := by omega
        rw [this]; simp [Lib.swapperK]
    have hS := Any.sort_Slice_tiny Tryz.sg 26 2 t26 t2 (by kernel_rfl) (by kernel_rfl) (by kernel_rfl) (by kernel_rfl) 6 (fun _ => by kernel_rfl) q kl.length cap (by omega) (59 + kl.length) (by rw [hK]; exact swapper_small _ (by omega)) (.func 38) #[] #[.pointer (some ⟨t, 0, none⟩)] w
    change Calls Tryz.prog 37 _ _ _ at hS
    refine hS.mono ?_
    rintro r w' ⟨rfl, os, rfl⟩
    have he : Ext No w (grow w os) := ⟨by simp, fun c hc _ => heap_grow_old w os hc, rfl, rfl⟩
    exact ⟨rfl, kl, List.Perm.refl _, pair_small h2, ownsRow_ext ho he (fun _ _ h => h), he.no⟩
theorem flatK_tri (l : List Tri) : (flatK triC 3 l.toArray).toList = l.flatMap triC := by rw [flatK_list (enc := triC) (k := 3) (fun _ => rfl) (by decide)]

set_option maxRecDepth 100000 in
set_option maxHeartbeats 2000000 in
theorem sortEdges {w : World} {t B : Nat} {c0 c1 c2 c3 ks es : Value} {kl : List Tri} (hrow : w.heap[t]? = some (.cells #[c0, c1, c2, c3, ks, es] 39 (0, 0))) (ho : w.ownsRow B 59 3 es kl.length (kl.flatMap triC)) (hl : kl.length < 1000000) :
    Calls Tryz.prog 37 #[.iface 37 es, .func (.func 39) #[] #[.pointer (some ⟨t, 0, none⟩)]] w fun r w' => r = .returned (.tuple #[]) ∧ ∃ kl' : List Tri, kl'.Perm kl ∧ kl'.Pairwise (fun a b => ltE b a = false) ∧ w'.ownsRow B 59 3 es kl'.length (kl'.flatMap triC) ∧ Ext (fun c => some c = es.ownBlock) w w' := by
  by_cases h2 : 2 ≤ kl.length
  · rcases ho.2 with ⟨-, hn⟩ | ⟨g, cap, cur, rfl, hb, hgg, hnc, hcm, hsz, htk⟩
    · omega
    have hfl : (kl.flatMap triC).length = kl.length * 3 := ho.1
    have htk' : cur.toList.take (kl.flatMap triC).length = (kl.flatMap triC).map id := by rw [List.map_id, hfl]; exact htk
    have hH : HoldsK triC 3 w g 0 kl.toArray := by
      have := holds_blk id hgg htk'
      rw [← flatK_tri] at this
      exact this
    have hblk : g < w.heap.size := (Array.getElem?_eq_some_iff.1 hgg).1
    have htb : t < w.heap.size := (Array.getElem?_eq_some_iff.1 hrow).1
    have htg : t ≠ g := fun e => row_ne hrow ho (by decide) (by rw [e]; rfl)
    have hcell : w.cell? ⟨t, 5, none⟩ = some (.slice (some ⟨g, 0, none⟩) kl.toArray.size cap) := (cells6 hrow).2.2.2.2.2.1
    have hless : LessReadsK Tryz.prog 39 #[.pointer (some ⟨t, 0, none⟩)] triC 3 ltE g 0 kl.toArray.size w := by
      intro m os dk hs i j hi hj
      have e : sortWorldK triC 3 w g 0 m dk os = putRowK triC 3 (grow (Sort.ahead w m) os) g 0 dk := by
        unfold sortWorldK; rw [putRowK_grow _ _ (Sort.ahead w m) _ g 0 _ hblk]
      have hHg : HoldsK triC 3 (grow (Sort.ahead w m) os) g 0 kl.toArray := holdsK_grow _ _ _ _ g 0 _ hblk (holdsK_ahead _ _ _ _ _ _ _ hH)
      refine less_edges g cap t kl.toArray.size _ (fun k => dk[k]!) ?_ (fun k hk => ?_) (fun k hk => ?_) i j hi hj
      · rw [e, cell?_putRowK_other _ _ _ g 0 dk _ (by exact htg), cell?_grow _ _ _ (by exact htb)]; exact hcell
      · rw [e]; exact ((holdsK_putRowK _ _ _ g 0 _ dk hHg hs).cell (i := k) (c := 0) (by omega) (by omega)).1
      · rw [e]; exact ((holdsK_putRowK _ _ _ g 0 _ dk hHg hs).cell (i := k) (c := 1) (by omega) (by omega)).1
    have hS := Any.sort_Slice_cells_sorted Tryz.sg 37 59 t37 t59 (by kernel_rfl) (by kernel_rfl) (by kernel_rfl) (by kernel_rfl) 25 (fun _ => by kernel_rfl) triC 3 (fun _ => rfl) (by kernel_rfl) (fun _ => by kernel_rfl) triC_one ltE swo_ltE 39 _
      (enters_of Tryz.func39 (by kernel_rfl) rfl) g 0 cap kl.toArray (by simpa using h2) (by simp; omega) 67 (by rw [sK59 _ (by simpa using h2)]; kernel_rfl) false
      (fun args W => run_callFunc_extern Tryz.func67 (by kernel_rfl) (by kernel_rfl) (by kernel_rfl) (e := Extern.ReflectliteSwapper.swap false) (by kernel_rfl) args W) _ hless hH hblk
    change Calls Tryz.prog 37 _ _ _ at hS
    refine hS.mono ?_
    rintro r w' ⟨rfl, d', n, os, hp, hs, rfl⟩
    have hd : d'.size = kl.length := by have := hp.1; simpa using this
    refine ⟨rfl, d'.toList, ?_, sorted_of hp hs, ?_, (ext_sortedA id (flatK triC 3 d')).mono (fun c _ hc => by rw [hc]; rfl)⟩
    · have := perm_of hp; simpa using this
    · have hlen : d'.toList.length = kl.length := by simpa using hd
      have hfl2 : (flatK triC 3 d').size = kl.length * 3 := by rw [size_flatK, hd]
      have hfl3 : (flatK triC 3 d').toList = d'.toList.flatMap triC := flatK_list (enc := triC) (k := 3) (fun _ => rfl) (by decide) d'
      have hfl4 : (d'.toList.flatMap triC).length = d'.toList.length * 3 := by rw [← hfl3, Array.length_toList, hfl2, hlen]
      refine ⟨hfl4, Or.inr ⟨g, cap, _, by rw [hlen], hb, heap_sortedA id (flatK triC 3 d') hgg, by omega, hcm, by simp [putCells, hsz], ?_⟩⟩
      have := take_putCellsA id cur (flatK triC 3 d') (by rw [hfl2, hsz]; exact Nat.mul_le_mul_right _ hnc)
      rw [List.map_id, hfl2, hfl3] at this
      rw [hlen]; exact this
  · obtain ⟨q, cap, rfl, -⟩ := own_read (f := triC) (fun _ => rfl) ho
    have hK : Lib.swapperK kl.length t59 25 = kl.length + 1 := by
      rcases Nat.eq_zero_or_pos kl.length with h | h
      · rw [h]; simp [Lib.swapperK]
      · have : kl.length = 1 := by omega
        rw [this]; simp [Lib.swapperK]
    have hS := Any.sort_Slice_tiny Tryz.sg 37 59 t37 t59 (by kernel_rfl) (by kernel_rfl) (by kernel_rfl) (by kernel_rfl) 25 (fun _ => by kernel_rfl) q kl.length cap (by omega) (59 + kl.length) (by rw [hK]; exact swapper_small _ (by omega)) (.func 39) #[] #[.pointer (some ⟨t, 0, none⟩)] w
    change Calls Tryz.prog 37 _ _ _ at hS
    refine hS.mono ?_
    rintro r w' ⟨rfl, os, rfl⟩
    have he : Ext No w (grow w os) := ⟨by simp, fun c hc _ => heap_grow_old w os hc, rfl, rfl⟩
    exact ⟨rfl, kl, List.Perm.refl _, pair_small h2, ownsRow_ext ho he (fun _ _ h => h), he.no⟩
end Go.Proofs.YtcenebjdhbdejaaGreatDoor

namespace Go.Proofs.YtcenebjdhbdejaaGreatDoor
open Go.MapKept

/-- What stepped says of a map: its keys, its edges, sorted; in rows of its own. -/
def SaidMap (T : TypeId) (d : Addr) (kf : EdgeR → Int) (R : List Int → (Int → List EdgeR) → Prop) (w : World) (r : Ending) (w' : World) : Prop :=
  ∃ (ks es : Value) (kl : List Int) (el : List Tri) (K : List Int) (F : Int → List EdgeR), r = .returned (.tuple #[.iface T (.pointer (some d)), saidV 0 0 0 0 ks es]) ∧ R K F ∧
    kl.Perm K ∧ kl.Pairwise (fun a b => ltK b a = false) ∧ el.Perm (K.flatMap (triL kf F)) ∧ el.Pairwise (fun a b => ltE b a = false) ∧
    w'.ownsRow w.heap.size 2 1 ks kl.length (kl.flatMap oneC) ∧ w'.ownsRow w.heap.size 59 3 es el.length (el.flatMap triC) ∧ Ext No w w'

theorem ownsRow_low {w : World} {B B' e size n : Nat} {v : Value} {xs : List Value} (h : w.ownsRow B e size v n xs) (hb : B' ≤ B) : w.ownsRow B' e size v n xs := by
  refine ⟨h.1, ?_⟩
  rcases h.2 with hn | ⟨g, cap, cur, hv, hg, rest⟩
  · exact Or.inl hn
  · exact Or.inr ⟨g, cap, cur, hv, Nat.le_trans hb hg, rest⟩

/-- behind the sort of the keys -/
structure SortedK (kf : EdgeR → Int) (N : Nat) (w2 : World) (L : List (Int × Nat)) (F : Int → List EdgeR) (ks es : Value) (ds : List Tri) (kl : List Int) (w5 : World) : Prop where
  row : w5.heap[N + 2]? = some (.cells #[.int .u8 0, .int .i64 0, .int .i64 0, .int .i64 0, ks, es] 39 (0, 0))
  kp : kl.Perm (L.map (·.1))
  ksd : kl.Pairwise (fun a b => ltK b a = false)
  own : w5.ownsRow w2.heap.size 2 1 ks kl.length (kl.flatMap oneC)
  dsp : ds.Perm ((L.map (·.1)).flatMap (triL kf F))
  owe : w5.ownsRow w2.heap.size 59 3 es ds.length (ds.flatMap triC)
  len : ds.length < 1000000
  he : Ext (fun c => c = N + 2) w2 w5

theorem SortedK.of {kf : EdgeR → Int} {N k : Nat} {w2 wr w5 : World} {mb r : Nat} {L : List (Int × Nat)} {F : Int → List EdgeR} {done left : List (Int × Nat)} {ks es : Value} {ds : List Tri} {cur : Option (Int × Value)} {kl : List Int}
    (hK : left.length = k ∧ (done ++ left).Perm L ∧ IterI kI wr r mb (L.map fun o => (o.1, .map (some o.2))) (left.map fun o => (o.1, .map (some o.2))) cur ∧ MapM wr mb L (fun a => (F a).map fun e => (kf e, e.val)) ∧
      wr.heap[N + 2]? = some (.cells #[.int .u8 0, .int .i64 0, .int .i64 0, .int .i64 0, ks, es] 39 (0, 0)) ∧ wr.ownsRow w2.heap.size 2 1 ks done.length (done.flatMap fun o => oneC o.1) ∧ ds.Perm ((done.map (·.1)).flatMap (triL kf F)) ∧ wr.ownsRow w2.heap.size 59 3 es ds.length (ds.flatMap triC) ∧
      Ext (fun c => c = N + 2) w2 wr ∧ (∃ a c d e, wr.heap[r]? = some (.mapIter a c d e)) ∧ r ≠ N + 2 ∧ done.length < 1000000)
    (hL : ((L.map (·.1)).flatMap (triL kf F)).length < 1000000)
    (h0 : left = []) (hks : wr.ownsRow w2.heap.size 2 1 ks (done.map (·.1)).length ((done.map (·.1)).flatMap oneC)) (hkp : kl.Perm (done.map (·.1))) (hksd : kl.Pairwise (fun a b => ltK b a = false)) (hko : w5.ownsRow w2.heap.size 2 1 ks kl.length (kl.flatMap oneC))
    (hke : Ext (fun c => some c = ks.ownBlock) wr w5) : SortedK kf N w2 L F ks es ds kl w5 := by
  obtain ⟨hl, hperm, hI, hM, hrow, hks0, hds, hes, he, hri, hrt, hdl⟩ := hK
  subst h0
  have hp : done.Perm L := by simpa using hperm
  have hds' : ds.Perm ((L.map (·.1)).flatMap (triL kf F)) := hds.trans ((hp.map _).flatMap_right _)
  refine ⟨hke.obj hrow (fun e => row_ne hrow hks (by decide) e.symm), hkp.trans (hp.map _), hksd, hko, hds', ownsRow_ext hes hke (fun c hc e => ownsRow_ne hes hks (by decide) c hc e.symm), by rw [hds'.length_eq]; exact hL, ?_⟩
  exact he.then hke (fun c hc e => by have := (hks.lt c e.symm).1; omega)

/-- behind both sorts -/
structure SortedE (kf : EdgeR → Int) (N : Nat) (w2 : World) (L : List (Int × Nat)) (F : Int → List EdgeR) (ks es : Value) (kl : List Int) (el : List Tri) (w6 : World) : Prop where
  row : w6.heap[N + 2]? = some (.cells #[.int .u8 0, .int .i64 0, .int .i64 0, .int .i64 0, ks, es] 39 (0, 0))
  res : w6.heap[N + 1]? = some said0
  kp : kl.Perm (L.map (·.1))
  ksd : kl.Pairwise (fun a b => ltK b a = false)
  own : w6.ownsRow w2.heap.size 2 1 ks kl.length (kl.flatMap oneC)
  ep : el.Perm ((L.map (·.1)).flatMap (triL kf F))
  esd : el.Pairwise (fun a b => ltE b a = false)
  owe : w6.ownsRow w2.heap.size 59 3 es el.length (el.flatMap triC)
  he : Ext (fun c => c = N + 2) w2 w6

theorem SortedE.of {kf : EdgeR → Int} {N : Nat} {w2 w5 w6 : World} {L : List (Int × Nat)} {F : Int → List EdgeR} {ks es : Value} {ds el : List Tri} {kl : List Int} (h : SortedK kf N w2 L F ks es ds kl w5)
    (hep : el.Perm ds) (hes : el.Pairwise (fun a b => ltE b a = false)) (heo : w6.ownsRow w2.heap.size 59 3 es el.length (el.flatMap triC)) (hee : Ext (fun c => some c = es.ownBlock) w5 w6) (h5 : w2.heap[N + 1]? = some said0) (hN : N + 2 < w2.heap.size) : SortedE kf N w2 L F ks es kl el w6 := by
  refine ⟨hee.obj h.row (fun e => row_ne h.row h.owe (by decide) e.symm), ?_, h.kp, h.ksd, ownsRow_ext h.own hee (fun c hc e => ownsRow_ne h.own h.owe (by decide) c hc e.symm), hep.trans h.dsp, hes, heo, ?_⟩
  · exact hee.obj (h.he.obj h5 (by omega)) (fun e => by have := (h.owe.lt _ e.symm).1; omega)
  · exact h.he.then hee (fun c hc e => by have := (h.owe.lt c e.symm).1; omega)

set_option maxRecDepth 100000 in
set_option maxHeartbeats 2000000 in
theorem stepped_am (G : GK) {w : World} {d : Addr} {a b wt : Int} {kf : EdgeR → Int} {R : List Int → (Int → List EdgeR) → Prop}
    (hC : ∀ w', Ext No w w' → Calls Tryz.prog G.am.f #[.pointer (some d)] w' (SaysMap kf R w')) :
    Calls Tryz.prog 24 #[.iface G.T (.pointer (some d)), stepV 9 a b wt] w (SaidMap G.T d kf R w) := by
  have HC := Lib.hid (hC _ (sw_ext w 9 a b wt))
  clear hC
  have hM := G.am.m
  have hE := G.am.e
  go_enter Tryz.func24, Tryz.ntmps24
  go_wp2_with (go_at_call 35; (refine (edgeWeight_run _ _).mono ?_); rintro r1 w1 ⟨rfl, rfl⟩)
  refine HC.out.mono ?_
  rintro r1 w2 ⟨mb, L, F, rfl, hM2, he, hL1, hL2, hR⟩
  have r6 := he.obj (sw_said w 9 a b wt) id
  have r5 := he.obj (sw_res w 9 a b wt) id
  obtain ⟨x0, x1, x2, x3, x4, x5, f0, f1, f2, f3, f4, f5⟩ := cells6 r6
  have l6 := World.block_lt_of_cell? _ _ x0
  have HR := Lib.hid (And.intro hM2 (And.intro he (And.intro hL1 (And.intro hL2 (And.intro hR (And.intro r6 r5))))))
  clear hM2 he hL1 hL2 hR r6 r5
  have eW : Ext (fun c => c = w.heap.size + 2) w2 (w2.setCell ⟨w.heap.size + 1 + 1, 0, none⟩ (.int .u8 0)) := (Ext.refl _ w2).setCell _ _ (fun _ => rfl)
  have hMW := HR.out.1.rowx HR.out.2.2.2.2.2.1 eW
  have rW : (w2.setCell ⟨w.heap.size + 1 + 1, 0, none⟩ (.int .u8 0)).heap[w.heap.size + 2]? = some said0 := set_heap HR.out.2.2.2.2.2.1 _
  have hm := hMW.out
  have HW := Lib.hid (And.intro hMW (And.intro rW eW))
  clear hMW rW eW
  go_wp2_with (first | (go_at_call 29; (refine (errorOf_nil _).mono ?_); rintro r2 w3 ⟨rfl, rfl⟩) | (at_range; generalize w2.setCell ⟨w.heap.size + 1 + 1, 0, none⟩ (.int .u8 0) = W at hm HW ⊢; (refine wpL_range rfl rfl U105 rfl hm ?_); intro w4 hI4 hs4 he4))
  go_frame
  have HI := Lib.hid (And.intro hI4 (And.intro hs4 he4))
  clear hI4 hs4 he4 hm x0 x1 x2 x3 x4 x5 f0 f1 f2 f3 f4 f5 l6
  go_loopg [] L.length (fun k wr => SM1 kf w2.heap.size (w.heap.size + 2) w2 mb W.heap.size L F k wr)
  case atStart =>
    obtain ⟨hI4, hs4, he4⟩ := HI.out
    obtain ⟨hMW, rW, eW⟩ := HW.out
    refine ⟨[], L, none, nilS, nilS, [], rfl, by simp, hI4, hMW.ext he4 (fun _ _ h => h), he4.obj rW id, ⟨by simp, Or.inl ⟨rfl, rfl⟩⟩, by simp, ⟨by simp, Or.inl ⟨rfl, rfl⟩⟩, eW.trans he4.no⟩
  case round =>
    obtain ⟨done, left, cur, ks, es, ds, hl, hperm, hI, hM, hrow, hks, hds, hes, he⟩ := hrel
    have hri := hI.is_iter
    obtain ⟨hrt, hbt⟩ := hI.ne_row hrow
    obtain ⟨x0, x1, x2, x3, x4, x5, f0, f1, f2, f3, f4, f5⟩ := cells6 hrow
    have l6 := World.block_lt_of_cell? _ _ x0
    have hdl : done.length < 1000000 := by have h1 := hperm.length_eq; have h2 := HR.out.2.2.1; simp at h1; omega
    have HK := Lib.hid (And.intro hl (And.intro hperm (And.intro hI (And.intro hM (And.intro hrow (And.intro hks (And.intro hds (And.intro hes (And.intro he (And.intro hri (And.intro hrt hdl)))))))))))
    clear hl hperm hM hrow hks hds hes he hri hrt hbt hdl
    go_wp2_with (first | (at_next; (refine wpL_nextM (g := fun o : Int × Nat => (o.1, Value.map (some o.2))) rfl rfl rfl hI ?_ ?_); intro h0; rotate_left; intro l1 o l2 wn h1 hIn hsn hen hE; have HN := Lib.hid (Ahead.of h1 hIn hsn hen HK.out HW.out.2.2.size (Nat.le_refl _)); clear h1 hIn hsn hen; have hon := HN.out.own; obtain ⟨y0, y1, y2, y3, y4, y5, g0, g1, g2, g3, g4, g5⟩ := cells6 HN.out.row; have k6 := World.block_lt_of_cell? _ _ y0; rotate_left) | (at_builtin; (refine wpL_append1 rfl rfl U26 I2 rfl (by decide) (by decide) (f := fun o : Int × Nat => oneC o.1) (fun _ => rfl) (fun o => oneC_one o.1) rfl hon o rfl ⟨2, (0, 0), (heap_alloc wn _).1⟩ HK.out.2.2.2.2.2.2.2.2.2.2.2 HN.out.size ?_); intro v' wa hoa hea hba; obtain ⟨q', cap', hv, -⟩ := own_read (f := fun o : Int × Nat => oneC o.1) (fun _ => rfl) hoa; simp only [List.length_append, List.length_cons, List.length_nil, Nat.zero_add] at hv; subst hv; have HA : RowKit.Hid (AheadA kf w2.heap.size (w.heap.size + 2) w2 mb W.heap.size L F done l1 l2 o ks es ds (.slice q' (done.length + 1) cap') wa (wa.setCell ⟨w.heap.size + 1 + 1, 4, none⟩ (.slice q' (done.length + 1) cap'))) := Lib.hid (HN.out.grown hoa hea (Nat.le_refl _)); clear hoa hea hba; obtain ⟨z0, z1, z2, z3, z4, z5, q0, q1, q2, q3, q4, q5⟩ := cells6 HA.out.rowa; have m6 := World.block_lt_of_cell? _ _ z0; have hmn := HA.out.inn) | (at_range; (generalize wa.setCell ⟨w.heap.size + 1 + 1, 4, none⟩ (.slice q' (done.length + 1) cap') = W5 at hmn HA ⊢); (refine wpL_range rfl rfl U107 rfl hmn ?_); intro w6 hI6 hs6 he6))
    · have hks : wr.ownsRow w2.heap.size 2 1 ks (done.map (·.1)).length ((done.map (·.1)).flatMap oneC) := by
        have := HK.out.2.2.2.2.2.1
        rw [List.length_map, List.flatMap_map]; exact this
      have hS1 := sortKeys HK.out.2.2.2.2.1 hks (by rw [List.length_map]; exact HK.out.2.2.2.2.2.2.2.2.2.2.2)
      refine hS1.mono ?_
      rintro r5 w5 ⟨rfl, kl, hkp, hksd, hko, hke⟩
      have HF : RowKit.Hid (SortedK kf w.heap.size w2 L F ks es ds kl w5) := Lib.hid (SortedK.of HK.out HR.out.2.2.2.1 h0 hks hkp hksd hko hke)
      clear hks hS1 hkp hksd hko hke x0 x1 x2 x3 x4 x5 f0 f1 f2 f3 f4 f5 l6
      obtain ⟨x0, x1, x2, x3, x4, x5, f0, f1, f2, f3, f4, f5⟩ := cells6 HF.out.row
      have l6 := World.block_lt_of_cell? _ _ x0
      go_wp2_with fail
      refine (sortEdges HF.out.row HF.out.owe HF.out.len).mono ?_
      rintro r6 w6 ⟨rfl, el, hep, hes, heo, hee⟩
      obtain ⟨qk, ck, hvk, -⟩ := own_read (f := oneC) (fun _ => rfl) HF.out.own
      obtain ⟨qe, ce, hve, -⟩ := own_read (f := triC) (fun _ => rfl) heo
      subst hvk
      subst hve
      have HZ : RowKit.Hid (SortedE kf w.heap.size w2 L F (.slice qk kl.length ck) (.slice qe el.length ce) kl el w6) := Lib.hid (SortedE.of HF.out hep hes heo hee HR.out.2.2.2.2.2.2 (by have := HR.out.2.1.size; rw [sw_size] at this; omega))
      clear hep hes heo hee x0 x1 x2 x3 x4 x5 f0 f1 f2 f3 f4 f5 l6
      obtain ⟨x0, x1, x2, x3, x4, x5, f0, f1, f2, f3, f4, f5⟩ := cells6 HZ.out.row
      obtain ⟨y0, y1, y2, y3, y4, y5, g0, g1, g2, g3, g4, g5⟩ := cells6 HZ.out.res
      have l6 := World.block_lt_of_cell? _ _ x0
      have l5 := World.block_lt_of_cell? _ _ y0
      go_wp2_with fail
      go_region
      all_goals go_wp2
      refine bodyPost_ret (v := .tuple #[.iface G.T (.pointer (some d)), saidV 0 0 0 0 (.slice qk kl.length ck) (.slice qe el.length ce)]) ?hr rfl ?hR
      case hR =>
        have h := HZ.out
        have e7 := ((Ext.refl (fun c => c = w.heap.size + 1) w6).set6 (b := w.heap.size + 1) rfl (.int .u8 0) (.int .i64 0) (.int .i64 0) (.int .i64 0) (.slice qk kl.length ck) (.slice qe el.length ce)).drew
        have hsz : w.heap.size ≤ w2.heap.size := by have := HR.out.2.1.size; rw [sw_size] at this; omega
        refine ⟨_, _, kl, el, L.map (·.1), F, rfl, HR.out.2.2.2.2.1, h.kp, h.ksd, h.ep, h.esd, ?_, ?_, ?_⟩
        · exact ownsRow_low (ownsRow_ext h.own e7 (fun c hc e => row_ne h.res h.own (by decide) (by rw [hc, e]))) hsz
        · exact ownsRow_low (ownsRow_ext h.owe e7 (fun c hc e => row_ne h.res h.owe (by decide) (by rw [hc, e]))) hsz
        · have e2 := (sw_ext w 9 a b wt).trans HR.out.2.1
          exact (e2.then h.he (fun c hc e => by omega)).then e7 (fun c hc e => by omega)
      case hr =>
        have hg := set6 HZ.out.res (.int .u8 0) (.int .i64 0) (.int .i64 0) (.int .i64 0) (.slice qk kl.length ck) (.slice qe el.length ce)
        exact results_tmp_cell (fn := Tryz.f24) (g := w.heap.size + 1) (p := 5) (q := 4) (ty := 39) rfl rfl (at_drew hg) Tryz.underlying39 rfl sz39 rfl
    · try go_frame
      have HI6 := Lib.hid (And.intro hI6 he6)
      have hws : W.heap.size < W5.heap.size := HA.out.it.ltr
      have hwm : mb < W5.heap.size := HA.out.it.ltb
      clear hI6 hs6 he6 hmn hon hI hE x0 x1 x2 x3 x4 x5 f0 f1 f2 f3 f4 f5 l6 y0 y1 y2 y3 y4 y5 g0 g1 g2 g3 g4 g5 k6 z0 z1 z2 z3 z4 z5 q0 q1 q2 q3 q4 q5 m6
      go_loopg [] (F o.1).length (fun k wq => SM2 kf w2.heap.size (w.heap.size + 2) w2 mb W.heap.size W5.heap.size L F done (l1 ++ l2) o ds k wq)
      case atStart =>
        obtain ⟨hI6, he6⟩ := HI6.out
        have h := HA.out
        refine ⟨[], F o.1, none, _, es, ds, rfl, by simp, ⟨_, h.it.ext he6 id id⟩, hI6, h.M.ext he6 (fun _ _ => id), he6.obj h.row id, ownsRow_ext h.own he6 (fun _ _ => id), by simp, ownsRow_ext h.owe he6 (fun _ _ => id), h.he.trans he6.no⟩
      case round =>
        obtain ⟨dn, lf, cur2, ks2, es2, xs, hl, hperm, hO, hI2, hM, hrow, hks, hxs, hes, he⟩ := hrel
        obtain ⟨x0, x1, x2, x3, x4, x5, f0, f1, f2, f3, f4, f5⟩ := cells6 hrow
        have l6 := World.block_lt_of_cell? _ _ x0
        have hdl : xs.length < 1000000 := by rw [hxs]; exact SM2.len HN.out.perm HN.out.dsp hperm HR.out.2.2.2.1
        have HK2 := Lib.hid (And.intro hl (And.intro hperm (And.intro hO (And.intro hI2 (And.intro hM (And.intro hrow (And.intro hks (And.intro hxs (And.intro hes he)))))))))
        have HD := Lib.hid hdl
        clear hl hperm hO hM hrow hks hxs hes he hdl
        go_wp2_with (first | (at_next; (refine wpL_nextM (g := fun e : EdgeR => (kf e, e.val)) rfl rfl rfl hI2 ?_ ?_); intro h0; rotate_left; intro k1 e k2 wm h2 hIm hsm hem hEm; have HN2 := Lib.hid (Ahead2.of h2 hIm hem HK2.out (Nat.le_trans HW.out.2.2.size (Nat.le_of_lt hws)) hws hwm (Nat.le_refl _)); clear h2 hIm hsm hem; have hon := HN2.out.own; obtain ⟨y0, y1, y2, y3, y4, y5, g0, g1, g2, g3, g4, g5⟩ := cells6 HN2.out.row; have k6 := World.block_lt_of_cell? _ _ y0; rotate_left) | (at_builtin; (refine wpL_append1 rfl rfl U37 I59 rfl (by decide) (by decide) (f := triC) (fun _ => rfl) triC_one rfl hon (o.1, kf e, e.wt) rfl ⟨59, (0, 0), two_new _ _ _⟩ HD.out HN2.out.size ?_); intro v' wa2 hoa hea hba; obtain ⟨q2, cap2, hv, -⟩ := own_read (f := triC) (fun _ => rfl) hoa; simp only [List.length_append, List.length_cons, List.length_nil, Nat.zero_add] at hv; subst hv; have HA2 := Lib.hid (HN2.out.grown hoa hea (Nat.le_refl _)); clear hoa hea hba; obtain ⟨z0, z1, z2, z3, z4, z5, q0, q1, q2, q3, q4, q5⟩ := cells6 HA2.out.rowa; have m6 := World.block_lt_of_cell? _ _ z0))
        · go_roundg (l1 ++ l2).length
          case measure => have := HN.out.len; omega
          case rel =>
            obtain ⟨hl, hperm, ⟨cur, hO⟩, hI2, hM, hrow, hks, hxs, hes, he⟩ := HK2.out
            have h := HN.out
            subst h0
            refine ⟨done ++ [o], l1 ++ l2, cur, ks2, es2, xs, rfl, h.perm, hO, hM, hrow, hks, ?_, hes, he⟩
            rw [hxs]
            simp only [List.map_append, List.flatMap_append, List.map_cons, List.map_nil, List.flatMap_cons, List.flatMap_nil, List.append_nil]
            exact h.dsp.append ((by simpa using hperm : dn.Perm (F o.1)).map _)
        · go_roundg (k1 ++ k2).length
          case measure => have := HN2.out.len; omega
          case rel => exact HA2.out.rel
end Go.Proofs.YtcenebjdhbdejaaGreatDoor

namespace Go.Proofs.YtcenebjdhbdejaaGreatDoor
open Go.MapKept

set_option maxRecDepth 100000 in
set_option maxHeartbeats 2000000 in
theorem stepped_pm (G : GK) {w : World} {d : Addr} {a b wt : Int} {kf : EdgeR → Int} {R : List Int → (Int → List EdgeR) → Prop}
    (hC : ∀ w', Ext No w w' → Calls Tryz.prog G.pm.f #[.pointer (some d)] w' (SaysMap kf R w')) :
    Calls Tryz.prog 24 #[.iface G.T (.pointer (some d)), stepV 10 a b wt] w (SaidMap G.T d kf R w) := by
  have HC := Lib.hid (hC _ (sw_ext w 10 a b wt))
  clear hC
  have hM := G.pm.m
  have hE := G.pm.e
  go_enter Tryz.func24, Tryz.ntmps24
  go_wp2_with (go_at_call 35; (refine (edgeWeight_run _ _).mono ?_); rintro r1 w1 ⟨rfl, rfl⟩)
  refine HC.out.mono ?_
  rintro r1 w2 ⟨mb, L, F, rfl, hM2, he, hL1, hL2, hR⟩
  have r6 := he.obj (sw_said w 10 a b wt) id
  have r5 := he.obj (sw_res w 10 a b wt) id
  obtain ⟨x0, x1, x2, x3, x4, x5, f0, f1, f2, f3, f4, f5⟩ := cells6 r6
  have l6 := World.block_lt_of_cell? _ _ x0
  have HR := Lib.hid (And.intro hM2 (And.intro he (And.intro hL1 (And.intro hL2 (And.intro hR (And.intro r6 r5))))))
  clear hM2 he hL1 hL2 hR r6 r5
  have eW : Ext (fun c => c = w.heap.size + 2) w2 (w2.setCell ⟨w.heap.size + 1 + 1, 0, none⟩ (.int .u8 0)) := (Ext.refl _ w2).setCell _ _ (fun _ => rfl)
  have hMW := HR.out.1.rowx HR.out.2.2.2.2.2.1 eW
  have rW : (w2.setCell ⟨w.heap.size + 1 + 1, 0, none⟩ (.int .u8 0)).heap[w.heap.size + 2]? = some said0 := set_heap HR.out.2.2.2.2.2.1 _
  have hm := hMW.out
  have HW := Lib.hid (And.intro hMW (And.intro rW eW))
  clear hMW rW eW
  go_wp2_with (first | (go_at_call 29; (refine (errorOf_nil _).mono ?_); rintro r2 w3 ⟨rfl, rfl⟩) | (at_range; generalize w2.setCell ⟨w.heap.size + 1 + 1, 0, none⟩ (.int .u8 0) = W at hm HW ⊢; (refine wpL_range rfl rfl U105 rfl hm ?_); intro w4 hI4 hs4 he4))
  go_frame
  have HI := Lib.hid (And.intro hI4 (And.intro hs4 he4))
  clear hI4 hs4 he4 hm x0 x1 x2 x3 x4 x5 f0 f1 f2 f3 f4 f5 l6
  go_loopg [] L.length (fun k wr => SM1 kf w2.heap.size (w.heap.size + 2) w2 mb W.heap.size L F k wr)
  case atStart =>
    obtain ⟨hI4, hs4, he4⟩ := HI.out
    obtain ⟨hMW, rW, eW⟩ := HW.out
    refine ⟨[], L, none, nilS, nilS, [], rfl, by simp, hI4, hMW.ext he4 (fun _ _ h => h), he4.obj rW id, ⟨by simp, Or.inl ⟨rfl, rfl⟩⟩, by simp, ⟨by simp, Or.inl ⟨rfl, rfl⟩⟩, eW.trans he4.no⟩
  case round =>
    obtain ⟨done, left, cur, ks, es, ds, hl, hperm, hI, hM, hrow, hks, hds, hes, he⟩ := hrel
    have hri := hI.is_iter
    obtain ⟨hrt, hbt⟩ := hI.ne_row hrow
    obtain ⟨x0, x1, x2, x3, x4, x5, f0, f1, f2, f3, f4, f5⟩ := cells6 hrow
    have l6 := World.block_lt_of_cell? _ _ x0
    have hdl : done.length < 1000000 := by have h1 := hperm.length_eq; have h2 := HR.out.2.2.1; simp at h1; omega
    have HK := Lib.hid (And.intro hl (And.intro hperm (And.intro hI (And.intro hM (And.intro hrow (And.intro hks (And.intro hds (And.intro hes (And.intro he (And.intro hri (And.intro hrt hdl)))))))))))
    clear hl hperm hM hrow hks hds hes he hri hrt hbt hdl
    go_wp2_with (first | (at_next; (refine wpL_nextM (g := fun o : Int × Nat => (o.1, Value.map (some o.2))) rfl rfl rfl hI ?_ ?_); intro h0; rotate_left; intro l1 o l2 wn h1 hIn hsn hen hE; have HN := Lib.hid (Ahead.of h1 hIn hsn hen HK.out HW.out.2.2.size (Nat.le_refl _)); clear h1 hIn hsn hen; have hon := HN.out.own; obtain ⟨y0, y1, y2, y3, y4, y5, g0, g1, g2, g3, g4, g5⟩ := cells6 HN.out.row; have k6 := World.block_lt_of_cell? _ _ y0; rotate_left) | (at_builtin; (refine wpL_append1 rfl rfl U26 I2 rfl (by decide) (by decide) (f := fun o : Int × Nat => oneC o.1) (fun _ => rfl) (fun o => oneC_one o.1) rfl hon o rfl ⟨2, (0, 0), (heap_alloc wn _).1⟩ HK.out.2.2.2.2.2.2.2.2.2.2.2 HN.out.size ?_); intro v' wa hoa hea hba; obtain ⟨q', cap', hv, -⟩ := own_read (f := fun o : Int × Nat => oneC o.1) (fun _ => rfl) hoa; simp only [List.length_append, List.length_cons, List.length_nil, Nat.zero_add] at hv; subst hv; have HA : RowKit.Hid (AheadA kf w2.heap.size (w.heap.size + 2) w2 mb W.heap.size L F done l1 l2 o ks es ds (.slice q' (done.length + 1) cap') wa (wa.setCell ⟨w.heap.size + 1 + 1, 4, none⟩ (.slice q' (done.length + 1) cap'))) := Lib.hid (HN.out.grown hoa hea (Nat.le_refl _)); clear hoa hea hba; obtain ⟨z0, z1, z2, z3, z4, z5, q0, q1, q2, q3, q4, q5⟩ := cells6 HA.out.rowa; have m6 := World.block_lt_of_cell? _ _ z0; have hmn := HA.out.inn) | (at_range; (generalize wa.setCell ⟨w.heap.size + 1 + 1, 4, none⟩ (.slice q' (done.length + 1) cap') = W5 at hmn HA ⊢); (refine wpL_range rfl rfl U107 rfl hmn ?_); intro w6 hI6 hs6 he6))
    · have hks : wr.ownsRow w2.heap.size 2 1 ks (done.map (·.1)).length ((done.map (·.1)).flatMap oneC) := by
        have := HK.out.2.2.2.2.2.1
        rw [List.length_map, List.flatMap_map]; exact this
      have hS1 := sortKeys HK.out.2.2.2.2.1 hks (by rw [List.length_map]; exact HK.out.2.2.2.2.2.2.2.2.2.2.2)
      refine hS1.mono ?_
      rintro r5 w5 ⟨rfl, kl, hkp, hksd, hko, hke⟩
      have HF : RowKit.Hid (SortedK kf w.heap.size w2 L F ks es ds kl w5) := Lib.hid (SortedK.of HK.out HR.out.2.2.2.1 h0 hks hkp hksd hko hke)
      clear hks hS1 hkp hksd hko hke x0 x1 x2 x3 x4 x5 f0 f1 f2 f3 f4 f5 l6
      obtain ⟨x0, x1, x2, x3, x4, x5, f0, f1, f2, f3, f4, f5⟩ := cells6 HF.out.row
      have l6 := World.block_lt_of_cell? _ _ x0
      go_wp2_with fail
      refine (sortEdges HF.out.row HF.out.owe HF.out.len).mono ?_
      rintro r6 w6 ⟨rfl, el, hep, hes, heo, hee⟩
      obtain ⟨qk, ck, hvk, -⟩ := own_read (f := oneC) (fun _ => rfl) HF.out.own
      obtain ⟨qe, ce, hve, -⟩ := own_read (f := triC) (fun _ => rfl) heo
      subst hvk
      subst hve
      have HZ : RowKit.Hid (SortedE kf w.heap.size w2 L F (.slice qk kl.length ck) (.slice qe el.length ce) kl el w6) := Lib.hid (SortedE.of HF.out hep hes heo hee HR.out.2.2.2.2.2.2 (by have := HR.out.2.1.size; rw [sw_size] at this; omega))
      clear hep hes heo hee x0 x1 x2 x3 x4 x5 f0 f1 f2 f3 f4 f5 l6
      obtain ⟨x0, x1, x2, x3, x4, x5, f0, f1, f2, f3, f4, f5⟩ := cells6 HZ.out.row
      obtain ⟨y0, y1, y2, y3, y4, y5, g0, g1, g2, g3, g4, g5⟩ := cells6 HZ.out.res
      have l6 := World.block_lt_of_cell? _ _ x0
      have l5 := World.block_lt_of_cell? _ _ y0
      go_wp2_with fail
      go_region
      all_goals go_wp2
      refine bodyPost_ret (v := .tuple #[.iface G.T (.pointer (some d)), saidV 0 0 0 0 (.slice qk kl.length ck) (.slice qe el.length ce)]) ?hr rfl ?hR
      case hR =>
        have h := HZ.out
        have e7 := ((Ext.refl (fun c => c = w.heap.size + 1) w6).set6 (b := w.heap.size + 1) rfl (.int .u8 0) (.int .i64 0) (.int .i64 0) (.int .i64 0) (.slice qk kl.length ck) (.slice qe el.length ce)).drew
        have hsz : w.heap.size ≤ w2.heap.size := by have := HR.out.2.1.size; rw [sw_size] at this; omega
        refine ⟨_, _, kl, el, L.map (·.1), F, rfl, HR.out.2.2.2.2.1, h.kp, h.ksd, h.ep, h.esd, ?_, ?_, ?_⟩
        · exact ownsRow_low (ownsRow_ext h.own e7 (fun c hc e => row_ne h.res h.own (by decide) (by rw [hc, e]))) hsz
        · exact ownsRow_low (ownsRow_ext h.owe e7 (fun c hc e => row_ne h.res h.owe (by decide) (by rw [hc, e]))) hsz
        · have e2 := (sw_ext w 10 a b wt).trans HR.out.2.1
          exact (e2.then h.he (fun c hc e => by omega)).then e7 (fun c hc e => by omega)
      case hr =>
        have hg := set6 HZ.out.res (.int .u8 0) (.int .i64 0) (.int .i64 0) (.int .i64 0) (.slice qk kl.length ck) (.slice qe el.length ce)
        exact results_tmp_cell (fn := Tryz.f24) (g := w.heap.size + 1) (p := 5) (q := 4) (ty := 39) rfl rfl (at_drew hg) Tryz.underlying39 rfl sz39 rfl
    · try go_frame
      have HI6 := Lib.hid (And.intro hI6 he6)
      have hws : W.heap.size < W5.heap.size := HA.out.it.ltr
      have hwm : mb < W5.heap.size := HA.out.it.ltb
      clear hI6 hs6 he6 hmn hon hI hE x0 x1 x2 x3 x4 x5 f0 f1 f2 f3 f4 f5 l6 y0 y1 y2 y3 y4 y5 g0 g1 g2 g3 g4 g5 k6 z0 z1 z2 z3 z4 z5 q0 q1 q2 q3 q4 q5 m6
      go_loopg [] (F o.1).length (fun k wq => SM2 kf w2.heap.size (w.heap.size + 2) w2 mb W.heap.size W5.heap.size L F done (l1 ++ l2) o ds k wq)
      case atStart =>
        obtain ⟨hI6, he6⟩ := HI6.out
        have h := HA.out
        refine ⟨[], F o.1, none, _, es, ds, rfl, by simp, ⟨_, h.it.ext he6 id id⟩, hI6, h.M.ext he6 (fun _ _ => id), he6.obj h.row id, ownsRow_ext h.own he6 (fun _ _ => id), by simp, ownsRow_ext h.owe he6 (fun _ _ => id), h.he.trans he6.no⟩
      case round =>
        obtain ⟨dn, lf, cur2, ks2, es2, xs, hl, hperm, hO, hI2, hM, hrow, hks, hxs, hes, he⟩ := hrel
        obtain ⟨x0, x1, x2, x3, x4, x5, f0, f1, f2, f3, f4, f5⟩ := cells6 hrow
        have l6 := World.block_lt_of_cell? _ _ x0
        have hdl : xs.length < 1000000 := by rw [hxs]; exact SM2.len HN.out.perm HN.out.dsp hperm HR.out.2.2.2.1
        have HK2 := Lib.hid (And.intro hl (And.intro hperm (And.intro hO (And.intro hI2 (And.intro hM (And.intro hrow (And.intro hks (And.intro hxs (And.intro hes he)))))))))
        have HD := Lib.hid hdl
        clear hl hperm hO hM hrow hks hxs hes he hdl
        go_wp2_with (first | (at_next; (refine wpL_nextM (g := fun e : EdgeR => (kf e, e.val)) rfl rfl rfl hI2 ?_ ?_); intro h0; rotate_left; intro k1 e k2 wm h2 hIm hsm hem hEm; have HN2 := Lib.hid (Ahead2.of h2 hIm hem HK2.out (Nat.le_trans HW.out.2.2.size (Nat.le_of_lt hws)) hws hwm (Nat.le_refl _)); clear h2 hIm hsm hem; have hon := HN2.out.own; obtain ⟨y0, y1, y2, y3, y4, y5, g0, g1, g2, g3, g4, g5⟩ := cells6 HN2.out.row; have k6 := World.block_lt_of_cell? _ _ y0; rotate_left) | (at_builtin; (refine wpL_append1 rfl rfl U37 I59 rfl (by decide) (by decide) (f := triC) (fun _ => rfl) triC_one rfl hon (o.1, kf e, e.wt) rfl ⟨59, (0, 0), two_new _ _ _⟩ HD.out HN2.out.size ?_); intro v' wa2 hoa hea hba; obtain ⟨q2, cap2, hv, -⟩ := own_read (f := triC) (fun _ => rfl) hoa; simp only [List.length_append, List.length_cons, List.length_nil, Nat.zero_add] at hv; subst hv; have HA2 := Lib.hid (HN2.out.grown hoa hea (Nat.le_refl _)); clear hoa hea hba; obtain ⟨z0, z1, z2, z3, z4, z5, q0, q1, q2, q3, q4, q5⟩ := cells6 HA2.out.rowa; have m6 := World.block_lt_of_cell? _ _ z0))
        · go_roundg (l1 ++ l2).length
          case measure => have := HN.out.len; omega
          case rel =>
            obtain ⟨hl, hperm, ⟨cur, hO⟩, hI2, hM, hrow, hks, hxs, hes, he⟩ := HK2.out
            have h := HN.out
            subst h0
            refine ⟨done ++ [o], l1 ++ l2, cur, ks2, es2, xs, rfl, h.perm, hO, hM, hrow, hks, ?_, hes, he⟩
            rw [hxs]
            simp only [List.map_append, List.flatMap_append, List.map_cons, List.map_nil, List.flatMap_cons, List.flatMap_nil, List.append_nil]
            exact h.dsp.append ((by simpa using hperm : dn.Perm (F o.1)).map _)
        · go_roundg (k1 ++ k2).length
          case measure => have := HN2.out.len; omega
          case rel => exact HA2.out.rel
end Go.Proofs.YtcenebjdhbdejaaGreatDoor

namespace Go.Proofs.YtcenebjdhbdejaaGreatDoor
open Go.Shelf Go.RowKit Go.Lib Go.Sort
set_option maxHeartbeats 4000000 in
theorem less_es (blk c t size : Nat) (W : World) (G : Nat → Tri) (hs : W.cell? ⟨t, 0, none⟩ = some (.slice (some ⟨blk, 0, none⟩) size c))
    (h0 : ∀ k, k < size → W.cell? ⟨blk, 0 + k * 3, none⟩ = some (.int .i64 (G k).1)) (h1 : ∀ k, k < size → W.cell? ⟨blk, 0 + k * 3 + 1, none⟩ = some (.int .i64 (G k).2.1)) (i j : Nat) (hi : i < size) (hj : j < size) :
    Calls Tryz.prog 48 #[.int .i64 i, .int .i64 j, .pointer (some ⟨t, 0, none⟩)] W fun e w' => e = .returned (.bool (ltE (G i) (G j))) ∧ ∃ q, w' = W.drewN q := by
  have ci : W.cell? ⟨blk, i * 3, none⟩ = some (.int .i64 (G i).1) := by have := h0 i hi; simpa using this
  have cj : W.cell? ⟨blk, j * 3, none⟩ = some (.int .i64 (G j).1) := by have := h0 j hj; simpa using this
  have di : W.cell? ⟨blk, i * 3 + 1, none⟩ = some (.int .i64 (G i).2.1) := by have := h1 i hi; simpa using this
  have dj : W.cell? ⟨blk, j * 3 + 1, none⟩ = some (.int .i64 (G j).2.1) := by have := h1 j hj; simpa using this
  clear h0 h1
  go_enter Tryz.func48, Tryz.ntmps48
  go_wp2
  go_quiet (fail)
  go_wp2
  · go_quiet (fail)
    go_wp2
    go_ret
    have hne : ((G i).1 != (G j).1) = true := by assumption
    refine ⟨?_, _, World.drewN_drewN _ _ _⟩
    simp only [bne_iff_ne, ne_eq] at hne
    simp [ltE, hne]
  · go_quiet (fail)
    go_wp2
    go_ret
    have hne : ((G i).1 != (G j).1) = false := by assumption
    refine ⟨?_, _, World.drewN_drewN _ _ _⟩
    simp only [bne_eq_false_iff_eq] at hne
    simp [ltE, hne]

set_option maxRecDepth 100000 in
set_option maxHeartbeats 2000000 in
theorem sortEs {w : World} {t B : Nat} {es : Value} {kl : List Tri} (hrow : w.heap[t]? = some (.cells #[es] 37 (0, 0))) (ho : w.ownsRow B 59 3 es kl.length (kl.flatMap triC)) (hl : kl.length < 1000000) :
    Calls Tryz.prog 37 #[.iface 37 es, .func (.func 48) #[] #[.pointer (some ⟨t, 0, none⟩)]] w fun r w' => r = .returned (.tuple #[]) ∧ ∃ kl' : List Tri, kl'.Perm kl ∧ kl'.Pairwise (fun a b => ltE b a = false) ∧ w'.ownsRow B 59 3 es kl'.length (kl'.flatMap triC) ∧ Ext (fun c => some c = es.ownBlock) w w' := by
  by_cases h2 : 2 ≤ kl.length
  · rcases ho.2 with ⟨-, hn⟩ | ⟨g, cap, cur, rfl, hb, hgg, hnc, hcm, hsz, htk⟩
    · omega
    have hfl : (kl.flatMap triC).length = kl.length * 3 := ho.1
    have htk' : cur.toList.take (kl.flatMap triC).length = (kl.flatMap triC).map id := by rw [List.map_id, hfl]; exact htk
    have hH : HoldsK triC 3 w g 0 kl.toArray := by
      have := holds_blk id hgg htk'
      rw [← flatK_tri] at this
      exact this
    have hblk : g < w.heap.size := (Array.getElem?_eq_some_iff.1 hgg).1
    have htb : t < w.heap.size := (Array.getElem?_eq_some_iff.1 hrow).1
    have htg : t ≠ g := fun e => row_ne hrow ho (by decide) (by rw [e]; rfl)
    have hcell : w.cell? ⟨t, 0, none⟩ = some (.slice (some ⟨g, 0, none⟩) kl.toArray.size cap) := (by rw [cell_of_row _ _ _ _ _ _ hrow]; rfl)
    have hless : LessReadsK Tryz.prog 48 #[.pointer (some ⟨t, 0, none⟩)] triC 3 ltE g 0 kl.toArray.size w := by
      intro m os dk hs i j hi hj
      have e : sortWorldK triC 3 w g 0 m dk os = putRowK triC 3 (grow (Sort.ahead w m) os) g 0 dk := by
        unfold sortWorldK; rw [putRowK_grow _ _ (Sort.ahead w m) _ g 0 _ hblk]
      have hHg : HoldsK triC 3 (grow (Sort.ahead w m) os) g 0 kl.toArray := holdsK_grow _ _ _ _ g 0 _ hblk (holdsK_ahead _ _ _ _ _ _ _ hH)
      refine less_es g cap t kl.toArray.size _ (fun k => dk[k]!) ?_ (fun k hk => ?_) (fun k hk => ?_) i j hi hj
      · rw [e, cell?_putRowK_other _ _ _ g 0 dk _ (by exact htg), cell?_grow _ _ _ (by exact htb)]; exact hcell
      · rw [e]; exact ((holdsK_putRowK _ _ _ g 0 _ dk hHg hs).cell (i := k) (c := 0) (by omega) (by omega)).1
      · rw [e]; exact ((holdsK_putRowK _ _ _ g 0 _ dk hHg hs).cell (i := k) (c := 1) (by omega) (by omega)).1
    have hS := Any.sort_Slice_cells_sorted Tryz.sg 37 59 t37 t59 (by kernel_rfl) (by kernel_rfl) (by kernel_rfl) (by kernel_rfl) 25 (fun _ => by kernel_rfl) triC 3 (fun _ => rfl) (by kernel_rfl) (fun _ => by kernel_rfl) triC_one ltE swo_ltE 48 _
      (enters_of Tryz.func48 (by kernel_rfl) rfl) g 0 cap kl.toArray (by simpa using h2) (by simp; omega) 67 (by rw [sK59 _ (by simpa using h2)]; kernel_rfl) false
      (fun args W => run_callFunc_extern Tryz.func67 (by kernel_rfl) (by kernel_rfl) (by kernel_rfl) (e := Extern.ReflectliteSwapper.swap false) (by kernel_rfl) args W) _ hless hH hblk
    change Calls Tryz.prog 37 _ _ _ at hS
    refine hS.mono ?_
    rintro r w' ⟨rfl, d', n, os, hp, hs, rfl⟩
    have hd : d'.size = kl.length := by have := hp.1; simpa using this
    refine ⟨rfl, d'.toList, ?_, sorted_of hp hs, ?_, (ext_sortedA id (flatK triC 3 d')).mono (fun c _ hc => by rw [hc]; rfl)⟩
    · have := perm_of hp; simpa using this
    · have hlen : d'.toList.length = kl.length := by simpa using hd
      have hfl2 : (flatK triC 3 d').size = kl.length * 3 := by rw [size_flatK, hd]
      have hfl3 : (flatK triC 3 d').toList = d'.toList.flatMap triC := flatK_list (enc := triC) (k := 3) (fun _ => rfl) (by decide) d'
      have hfl4 : (d'.toList.flatMap triC).length = d'.toList.length * 3 := by rw [← hfl3, Array.length_toList, hfl2, hlen]
      refine ⟨hfl4, Or.inr ⟨g, cap, _, by rw [hlen], hb, heap_sortedA id (flatK triC 3 d') hgg, by omega, hcm, by simp [putCells, hsz], ?_⟩⟩
      have := take_putCellsA id cur (flatK triC 3 d') (by rw [hfl2, hsz]; exact Nat.mul_le_mul_right _ hnc)
      rw [List.map_id, hfl2, hfl3] at this
      rw [hlen]; exact this
  · obtain ⟨q, cap, rfl, -⟩ := own_read (f := triC) (fun _ => rfl) ho
    have hK : Lib.swapperK kl.length t59 25 = kl.length + 1 := by
      rcases Nat.eq_zero_or_pos kl.length with h | h
      · rw [h]; simp [Lib.swapperK]
      · have : kl.length = 1 := by omega
        rw [this]; simp [Lib.swapperK]
    have hS := Any.sort_Slice_tiny Tryz.sg 37 59 t37 t59 (by kernel_rfl) (by kernel_rfl) (by kernel_rfl) (by kernel_rfl) 25 (fun _ => by kernel_rfl) q kl.length cap (by omega) (59 + kl.length) (by rw [hK]; exact swapper_small _ (by omega)) (.func 48) #[] #[.pointer (some ⟨t, 0, none⟩)] w
    change Calls Tryz.prog 37 _ _ _ at hS
    refine hS.mono ?_
    rintro r w' ⟨rfl, os, rfl⟩
    have he : Ext No w (grow w os) := ⟨by simp, fun c hc _ => heap_grow_old w os hc, rfl, rfl⟩
    exact ⟨rfl, kl, List.Perm.refl _, pair_small h2, ownsRow_ext ho he (fun _ _ h => h), he.no⟩
end Go.Proofs.YtcenebjdhbdejaaGreatDoor
