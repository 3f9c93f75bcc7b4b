import Derived.Test.Qxb6616160aLeaf
namespace Go.Proofs.Qxb6616160a.Tick
set_option linter.unusedVariables false
open Go.ChangeShapes Go.WideShapes Go.ChangeAt Go.RowKit

def Cl.ptr (c : Cl) : Value := .pointer (some ⟨c.blk, 0, none⟩)
def Cl.cells (c : Cl) (k : Nat) : Array Value :=
  #[.string c.id, .int .u64 0, .int .u64 0, .int .u64 0, .int .u8 0, .int .u64 0, .int .u64 c.last, .int .i64 k]

/-- A client table in memory: its block tb, its map's block mb (entries es), its heap H, the slice s of its heap; all of it from block B on. -/
structure Tab (B tb mb : Nat) (now most : Int) (es : Array MapEntry) (clock : Nat) (H : List Cl) (s : Value) (w : World) : Prop where
  tab : w.heap[tb]? = some (.cells #[.int .u64 now, .map (some mb), s, .int .i64 most] 56 (0, 0))
  map : w.heap[mb]? = some (.map es clock)
  own : w.ownsRow B 62 1 s H.length (H.map Cl.ptr)
  cl : ∀ i (h : i < H.length), w.heap[(H[i]).blk]? = some (.cells ((H[i]).cells i) 61 (0, 0))
  btb : B ≤ tb
  bmb : B ≤ mb
  bcl : ∀ c ∈ H, B ≤ c.blk

section
variable {B tb mb : Nat} {now most : Int} {es : Array MapEntry} {clock : Nat} {H : List Cl} {s : Value} {w : World}

theorem ownsRow_of_heap {w w' : World} {base : Nat} {e : TypeId} {size : Nat} {v : Value} {n : Nat} {xs : List Value} (h : w.ownsRow base e size v n xs)
    (hh : ∀ g, v.ownBlock = some g → w'.heap[g]? = w.heap[g]?) : w'.ownsRow base e size v n xs := by
  obtain ⟨h1, h2⟩ := h
  refine ⟨h1, ?_⟩
  rcases h2 with h2 | ⟨g, cap, cur, hv, hg, hc, r⟩
  · exact .inl h2
  · exact .inr ⟨g, cap, cur, hv, hg, by rw [hh g (by rw [hv]; rfl)]; exact hc, r⟩

/-- A table stands in every world that has the same blocks below the heap's end. -/
theorem Tab.kept (h : Tab B tb mb now most es clock H s w) {w' : World} (hb : ∀ k, k < w.heap.size → w'.heap[k]? = w.heap[k]?) :
    Tab B tb mb now most es clock H s w' := by
  have lt : ∀ {k : Nat} {o : Obj}, w.heap[k]? = some o → k < w.heap.size := fun {k o} he => by
    rcases Nat.lt_or_ge k w.heap.size with h | h
    · exact h
    · rw [Array.getElem?_eq_none h] at he; cases he
  refine ⟨by rw [hb _ (lt h.tab)]; exact h.tab, by rw [hb _ (lt h.map)]; exact h.map, ownsRow_of_heap h.own fun g hg => hb g (h.own.lt g hg).2,
    fun i hi => by rw [hb _ (lt (h.cl i hi))]; exact h.cl i hi, h.btb, h.bmb, h.bcl⟩

theorem Tab.lts (h : Tab B tb mb now most es clock H s w) : tb < w.heap.size ∧ mb < w.heap.size ∧ (∀ i (hi : i < H.length), (H[i]).blk < w.heap.size) := by
  have lt : ∀ {k : Nat} {o : Obj}, w.heap[k]? = some o → k < w.heap.size := fun {k o} he => by
    rcases Nat.lt_or_ge k w.heap.size with h | h
    · exact h
    · rw [Array.getElem?_eq_none h] at he; cases he
  exact ⟨lt h.tab, lt h.map, fun i hi => lt (h.cl i hi)⟩

theorem own_block {base : Nat} {e : TypeId} {size : Nat} {v : Value} {n : Nat} {xs : List Value} (h : w.ownsRow base e size v n xs) {g : Nat} (hg : v.ownBlock = some g) :
    ∃ cur, w.heap[g]? = some (.cells cur e (0, 0)) := by
  rcases h.2 with ⟨h2, _⟩ | ⟨g', cap, cur, hv, _, hc, _⟩
  · subst h2; cases hg
  · subst hv; simp [Value.ownBlock] at hg; subst hg; exact ⟨cur, hc⟩

theorem Tab.row_tb (h : Tab B tb mb now most es clock H s w) : s.ownBlock ≠ some tb := fun e => by
  obtain ⟨cur, hc⟩ := own_block h.own e
  rw [h.tab] at hc; simp at hc
theorem Tab.row_mb (h : Tab B tb mb now most es clock H s w) : s.ownBlock ≠ some mb := fun e => by
  obtain ⟨cur, hc⟩ := own_block h.own e
  rw [h.map] at hc; simp at hc
theorem Tab.row_cl (h : Tab B tb mb now most es clock H s w) {i : Nat} (hi : i < H.length) : s.ownBlock ≠ some (H[i]).blk := fun e => by
  obtain ⟨cur, hc⟩ := own_block h.own e
  rw [h.cl i hi] at hc; simp at hc
theorem Tab.tb_mb (h : Tab B tb mb now most es clock H s w) : tb ≠ mb := fun e => by
  have := h.tab; rw [e, h.map] at this; cases this
theorem Tab.cl_tb (h : Tab B tb mb now most es clock H s w) {i : Nat} (hi : i < H.length) : (H[i]).blk ≠ tb := fun e => by
  have := h.cl i hi; rw [e, h.tab] at this; simp at this
theorem Tab.cl_mb (h : Tab B tb mb now most es clock H s w) {i : Nat} (hi : i < H.length) : (H[i]).blk ≠ mb := fun e => by
  have := h.cl i hi; rw [e, h.map] at this; simp at this
theorem Tab.cl_cl (h : Tab B tb mb now most es clock H s w) {i j : Nat} (hi : i < H.length) (hj : j < H.length) (hij : i ≠ j) : (H[i]).blk ≠ (H[j]).blk := fun e => by
  have h1 := h.cl i hi; rw [e, h.cl j hj] at h1
  simp [Cl.cells] at h1
  omega

theorem Tab.form (h : Tab B tb mb now most es clock H s w) (hn : 0 < H.length) : ∃ g cap, s = .slice (some ⟨g, 0, none⟩) H.length cap := by
  obtain ⟨g, cap, hv, _⟩ := h.own.form hn
  exact ⟨g, cap, hv⟩

theorem Tab.form' (h : Tab B tb mb now most es clock H s w) : ∃ a cap, s = .slice a H.length cap ∧ H.length ≤ cap := by
  rcases h.own.2 with ⟨h2, h0⟩ | ⟨g, cap, cur, hv, _, hc, hle, _⟩
  · exact ⟨none, 0, by rw [h0]; exact h2, by omega⟩
  · exact ⟨_, cap, hv, hle⟩

theorem Tab.cell_row {g cap : Nat} (h : Tab B tb mb now most es clock H (.slice (some ⟨g, 0, none⟩) H.length cap) w) {i : Nat} (hi : i < H.length) :
    w.cell? ⟨g, i, none⟩ = some (.pointer (some ⟨(H[i]).blk, 0, none⟩)) := by
  rw [h.own.cellAt i (by omega)]
  simp [hi, Cl.ptr]
theorem Tab.cell_last (h : Tab B tb mb now most es clock H s w) {i : Nat} (hi : i < H.length) : w.cell? ⟨(H[i]).blk, 6, none⟩ = some (.int .u64 (H[i]).last) := by
  rw [cell_of_row w _ 6 _ _ _ (h.cl i hi)]; rfl
theorem Tab.cell_at (h : Tab B tb mb now most es clock H s w) {i : Nat} (hi : i < H.length) : w.cell? ⟨(H[i]).blk, 7, none⟩ = some (.int .i64 i) := by
  rw [cell_of_row w _ 7 _ _ _ (h.cl i hi)]; rfl
theorem Tab.cell_id (h : Tab B tb mb now most es clock H s w) {i : Nat} (hi : i < H.length) : w.cell? ⟨(H[i]).blk, 0, none⟩ = some (.string (H[i]).id) := by
  rw [cell_of_row w _ 0 _ _ _ (h.cl i hi)]; rfl
theorem Tab.frozen_cl (h : Tab B tb mb now most es clock H s w) {i : Nat} (hi : i < H.length) (k : Nat) : w.frozen? ⟨(H[i]).blk, k, none⟩ = false :=
  frozen_of_row w _ k _ _ (h.cl i hi)
theorem Tab.cell_tab (h : Tab B tb mb now most es clock H s w) :
    w.cell? ⟨tb, 0, none⟩ = some (.int .u64 now) ∧ w.cell? ⟨tb, 1, none⟩ = some (.map (some mb)) ∧ w.cell? ⟨tb, 2, none⟩ = some s ∧ w.cell? ⟨tb, 3, none⟩ = some (.int .i64 most) := by
  refine ⟨?_, ?_, ?_, ?_⟩ <;> (rw [cell_of_row w _ _ _ _ _ h.tab]; rfl)
theorem Tab.frozen_tab (h : Tab B tb mb now most es clock H s w) (k : Nat) : w.frozen? ⟨tb, k, none⟩ = false := frozen_of_row w _ k _ _ h.tab

/-! ### Less, Swap over a table -/
theorem less_tab (h : Tab B tb mb now most es clock H s w) {i j : Nat} (hi : i < H.length) (hj : j < H.length) (hn : H.length ≤ 1000000) :
    Calls Try.prog 56 #[s, .int .i64 i, .int .i64 j] w fun e w' => e = .returned (.bool (decide (keyOf H i < keyOf H j))) ∧ ∃ n, w' = w.drewN n := by
  obtain ⟨g, cap, rfl⟩ := h.form (by omega)
  rw [keyOf_lt hi, keyOf_lt hj]
  exact less_raw g H.length cap i j _ _ _ _ w hi hj hn (h.cell_row hi) (h.cell_row hj) (h.cell_last hi) (h.cell_last hj)


theorem map_ptr_swap {i j : Nat} (hi : i < H.length) (hj : j < H.length) :
    ((H.map Cl.ptr).set i (H[j]).ptr).set j (H[i]).ptr = (swapL H i j).map Cl.ptr := by
  rw [swapL_eq hi hj, List.map_set, List.map_set]

theorem Tab.swapped {g cap : Nat} (h : Tab B tb mb now most es clock H (.slice (some ⟨g, 0, none⟩) H.length cap) w) {i j : Nat} (hi : i < H.length) (hj : j < H.length) :
    Tab B tb mb now most es clock (swapL H i j) (.slice (some ⟨g, 0, none⟩) H.length cap)
      ((((w.setCell ⟨g, i, none⟩ (.pointer (some ⟨(H[j]).blk, 0, none⟩))).setCell ⟨g, j, none⟩ (.pointer (some ⟨(H[i]).blk, 0, none⟩))).setCell ⟨(H[j]).blk, 7, none⟩ (.int .i64 i)).setCell ⟨(H[i]).blk, 7, none⟩ (.int .i64 j)) := by
  have e1 : tb ≠ g := fun e => h.row_tb (by rw [e]; rfl)
  have e2 : mb ≠ g := fun e => h.row_mb (by rw [e]; rfl)
  have ec : ∀ k (hk : k < H.length), (H[k]).blk ≠ g := fun k hk e => h.row_cl hk (by rw [e]; rfl)
  refine ⟨?_, ?_, ?_, ?_, h.btb, h.bmb, ?_⟩
  · rw [heap_setCell_other _ _ _ _ (h.cl_tb hi).symm, heap_setCell_other _ _ _ _ (h.cl_tb hj).symm, heap_setCell_other _ _ _ _ e1, heap_setCell_other _ _ _ _ e1]
    exact h.tab
  · rw [heap_setCell_other _ _ _ _ (h.cl_mb hi).symm, heap_setCell_other _ _ _ _ (h.cl_mb hj).symm, heap_setCell_other _ _ _ _ e2, heap_setCell_other _ _ _ _ e2]
    exact h.map
  · have o1 := (h.own.stored i (H[j]).ptr).1
    have o2 := (o1.stored j (H[i]).ptr).1
    rw [map_ptr_swap hi hj] at o2
    rw [swapL_length]
    refine ownsRow_of_heap o2 fun k hk => ?_
    have hk' : g = k := by simpa [Value.ownBlock] using hk
    subst hk'
    rw [heap_setCell_other _ _ _ _ (ec i hi).symm, heap_setCell_other _ _ _ _ (ec j hj).symm]
    rfl
  · intro k hk
    rw [swapL_length] at hk
    have hget : (swapL H i j)[k]'(by rw [swapL_length]; exact hk) = if k = j then H[i] else if k = i then H[j] else H[k] := by
      have := swapL_get hi hj k
      rw [List.getElem?_eq_getElem (by rw [swapL_length]; exact hk)] at this
      split at this
      · rename_i e; rw [if_pos e]; simpa using this
      · rename_i e; rw [if_neg e]
        split at this
        · rename_i e2; rw [if_pos e2]; simpa using this
        · rename_i e2; rw [if_neg e2]; rw [List.getElem?_eq_getElem hk] at this; simpa using this
    rw [hget]
    by_cases ej : k = j
    · rw [if_pos ej]
      subst ej
      by_cases eij : i = k
      · subst eij
        have b1 : ((((w.setCell ⟨g, i, none⟩ (.pointer (some ⟨(H[i]).blk, 0, none⟩))).setCell ⟨g, i, none⟩ (.pointer (some ⟨(H[i]).blk, 0, none⟩))))).heap[(H[i]).blk]? = some (.cells ((H[i]).cells i) 61 (0, 0)) := by
          rw [heap_setCell_other _ _ _ _ (ec i hi), heap_setCell_other _ _ _ _ (ec i hi)]; exact h.cl i hi
        have b2 := heap_setCell_same _ _ 7 _ _ (.int .i64 i) b1
        have b3 := heap_setCell_same _ _ 7 _ _ (.int .i64 i) b2
        rw [b3]; rfl
      · have b1 : (((w.setCell ⟨g, i, none⟩ (.pointer (some ⟨(H[k]).blk, 0, none⟩))).setCell ⟨g, k, none⟩ (.pointer (some ⟨(H[i]).blk, 0, none⟩))).setCell ⟨(H[k]).blk, 7, none⟩ (.int .i64 i)).heap[(H[i]).blk]? = some (.cells ((H[i]).cells i) 61 (0, 0)) := by
          rw [heap_setCell_other _ _ _ _ (h.cl_cl hi hj eij), heap_setCell_other _ _ _ _ (ec i hi), heap_setCell_other _ _ _ _ (ec i hi)]; exact h.cl i hi
        have b2 := heap_setCell_same _ _ 7 _ _ (.int .i64 k) b1
        rw [b2]; rfl
    · rw [if_neg ej]
      by_cases ei : k = i
      · rw [if_pos ei]
        subst ei
        rw [heap_setCell_other _ _ _ _ (h.cl_cl hj hi (fun e => ej e.symm))]
        have b1 : ((w.setCell ⟨g, k, none⟩ (.pointer (some ⟨(H[j]).blk, 0, none⟩))).setCell ⟨g, j, none⟩ (.pointer (some ⟨(H[k]).blk, 0, none⟩))).heap[(H[j]).blk]? = some (.cells ((H[j]).cells j) 61 (0, 0)) := by
          rw [heap_setCell_other _ _ _ _ (ec j hj), heap_setCell_other _ _ _ _ (ec j hj)]; exact h.cl j hj
        have b2 := heap_setCell_same _ _ 7 _ _ (.int .i64 k) b1
        rw [b2]; rfl
      · rw [if_neg ei]
        rw [heap_setCell_other _ _ _ _ (h.cl_cl hk hi ei), heap_setCell_other _ _ _ _ (h.cl_cl hk hj ej), heap_setCell_other _ _ _ _ (ec k hk), heap_setCell_other _ _ _ _ (ec k hk)]
        exact h.cl k hk
  · intro c hc
    exact h.bcl c ((swapL_perm hi hj).mem_iff.1 hc)

theorem below_drewN {B : Nat} {a w : World} (h : Below B a w) (n : Nat) : Below B a (w.drewN n) := ⟨h.os, h.tape, h.output, h.size, h.block⟩

theorem swap_tab (h : Tab B tb mb now most es clock H s w) {i j : Nat} (hi : i < H.length) (hj : j < H.length) (hn : H.length ≤ 1000000) :
    Calls Try.prog 57 #[s, .int .i64 i, .int .i64 j] w fun e w' => e = .returned (.tuple #[]) ∧ Tab B tb mb now most es clock (swapL H i j) s w' ∧ Below B w w' := by
  obtain ⟨g, cap, rfl⟩ := h.form (by omega)
  have ec : ∀ k (hk : k < H.length), g ≠ (H[k]).blk := fun k hk e => h.row_cl hk (by rw [e]; rfl)
  have hg : B ≤ g := (h.own.lt g rfl).1
  have hbl := fun (k : Nat) (hk : k < H.length) => h.bcl (H[k]) (List.getElem_mem hk)
  have hbel : ∀ m, Below B w ((((((w.setCell ⟨g, i, none⟩ (.pointer (some ⟨(H[j]).blk, 0, none⟩))).setCell ⟨g, j, none⟩ (.pointer (some ⟨(H[i]).blk, 0, none⟩))).setCell ⟨(H[j]).blk, 7, none⟩ (.int .i64 i)).setCell ⟨(H[i]).blk, 7, none⟩ (.int .i64 j))).drewN m) := fun m =>
    below_drewN ((((((Below.refl B w).setCell hg _).setCell hg _).setCell (hbl j hj) _).setCell (hbl i hi) _)) m
  have hs := h.swapped hi hj
  by_cases e : i = j
  · subst e
    refine (swap_same g H.length cap i (H[i]).blk _ w hi hn (ec i hi) (h.cell_row hi) (h.cell_at hi) (h.own.frozenAt i) (h.frozen_cl hi 7)).mono ?_
    rintro e w' ⟨rfl, m, rfl⟩
    exact ⟨rfl, hs.kept fun _ _ => rfl, hbel m⟩
  · refine (swap_raw g H.length cap i j (H[i]).blk (H[j]).blk _ _ w hi hj hn e (ec i hi) (ec j hj) (h.cl_cl hi hj e) (h.cell_row hi) (h.cell_row hj) (h.cell_at hi) (h.cell_at hj) (h.own.frozenAt i) (h.own.frozenAt j) (h.frozen_cl hi 7) (h.frozen_cl hj 7)).mono ?_
    rintro e w' ⟨rfl, m, rfl⟩
    exact ⟨rfl, hs.kept fun _ _ => rfl, hbel m⟩


/-! ### The heap's own Pop and Push -/
theorem own_shorter {base : Nat} {e : TypeId} {g n cap : Nat} {xs : List Value} {y : Value} (h : w.ownsRow base e 1 (.slice (some ⟨g, 0, none⟩) (n + 1) cap) (n + 1) (xs ++ [y])) (hx : xs.length = n) :
    w.ownsRow base e 1 (.slice (some ⟨g, 0, none⟩) n cap) n xs := by
  refine ⟨by omega, .inr ?_⟩
  rcases h.2 with ⟨h', _⟩ | ⟨g', cap', cur, h', hb, hg, hnc, hcm, hcs, htake⟩
  · simp at h'
  · simp only [Value.slice.injEq, Option.some.injEq, Addr.mk.injEq, and_true, true_and] at h'
    obtain ⟨rfl, rfl⟩ := h'
    refine ⟨g, cap, cur, rfl, hb, hg, by omega, hcm, hcs, ?_⟩
    have : cur.toList.take (n * 1) = (cur.toList.take ((n + 1) * 1)).take n := by rw [List.take_take]; congr 1; omega
    rw [this, htake, List.take_append_of_le_length (by omega), List.take_of_length_le (by omega)]

theorem hpop_tab {c : Cl} (h : Tab B tb mb now most es clock (H ++ [c]) s w) (hn : H.length + 1 ≤ 1000000) :
    Calls Try.prog 60 #[.pointer (some ⟨tb, 2, none⟩)] w fun e w' => e = .returned (.iface 62 c.ptr) ∧ ∃ s', Tab B tb mb now most es clock H s' w' ∧ Below B w w' ∧ ∃ k, w'.heap[c.blk]? = some (.cells (c.cells k) 61 (0, 0)) := by
  obtain ⟨g, cap, hs⟩ := h.form (by simp)
  rw [List.length_append, List.length_singleton] at hs
  subst hs
  have hl : (H ++ [c]).length = H.length + 1 := by simp
  have hnl : H.length < (H ++ [c]).length := by omega
  have hc : (H ++ [c])[H.length] = c := by simp
  have e1 : g ≠ tb := fun e => h.row_tb (by rw [← e]; rfl)
  have e2 : mb ≠ g := fun e => h.row_mb (by rw [e]; rfl)
  have hg : B ≤ g := (h.own.lt g rfl).1
  have hcap : H.length + 1 ≤ cap := by
    obtain ⟨a, cap', he, hle⟩ := h.form'
    simp at he
    rw [hl] at hle
    omega
  have hrow : w.cell? ⟨g, H.length, none⟩ = some (.pointer (some ⟨c.blk, 0, none⟩)) := by
    have h' : Tab B tb mb now most es clock (H ++ [c]) (.slice (some ⟨g, 0, none⟩) (H ++ [c]).length cap) w := by rw [hl]; exact h
    have := h'.cell_row hnl
    rw [hc] at this
    exact this
  have hfz : w.frozen? ⟨g, H.length, none⟩ = false := by
    have ho := h.own
    rw [hl] at ho
    exact ho.frozenAt _
  refine (hpop_raw tb g H.length cap c.blk w hn e1 hcap h.cell_tab.2.2.1 hrow (h.frozen_tab 2) hfz).mono ?_
  rintro e w' ⟨rfl, rfl⟩
  have hcb : ((w.setCell ⟨g, H.length, none⟩ (.pointer none)).setCell ⟨tb, 2, none⟩ (.slice (some ⟨g, 0, none⟩) H.length cap)).heap[c.blk]? = some (.cells (c.cells H.length) 61 (0, 0)) := by
    have q1 := h.cl_tb hnl
    have q2 := h.row_cl hnl
    have q3 := h.cl H.length hnl
    rw [hc] at q1 q2 q3
    rw [heap_setCell_other _ _ _ _ q1, heap_setCell_other _ _ _ _ (fun e => q2 (by rw [e]; rfl))]
    exact q3
  refine ⟨rfl, .slice (some ⟨g, 0, none⟩) H.length cap, ?_, ((Below.refl B w).setCell hg _).setCell h.btb _, H.length, hcb⟩
  have own1 : (w.setCell ⟨g, H.length, none⟩ (.pointer none)).ownsRow B 62 1 (.slice (some ⟨g, 0, none⟩) (H.length + 1) cap) (H.length + 1) (H.map Cl.ptr ++ [.pointer none]) := by
    have ho := h.own
    rw [hl] at ho
    have := (ho.stored H.length (.pointer none)).1
    have e : ((H ++ [c]).map Cl.ptr).set H.length (.pointer none) = H.map Cl.ptr ++ [.pointer none] := by
      rw [List.map_append, List.set_append_right _ _ (by simp)]; simp
    rw [e] at this
    exact this
  refine ⟨?_, ?_, ?_, ?_, h.btb, h.bmb, fun c' hc' => h.bcl c' (List.mem_append_left _ hc')⟩
  · have b1 : (w.setCell ⟨g, H.length, none⟩ (.pointer none)).heap[tb]? = some (.cells #[.int .u64 now, .map (some mb), .slice (some ⟨g, 0, none⟩) (H.length + 1) cap, .int .i64 most] 56 (0, 0)) := by rw [heap_setCell_other _ _ _ _ e1.symm]; exact h.tab
    rw [heap_setCell_same _ _ 2 _ _ _ b1]; rfl
  · rw [heap_setCell_other _ _ _ _ h.tb_mb.symm, heap_setCell_other _ _ _ _ e2]; exact h.map
  · refine ownsRow_of_heap (own_shorter own1 (by simp)) fun k hk => ?_
    have hk' : g = k := by simpa [Value.ownBlock] using hk
    subst hk'
    rw [heap_setCell_other _ _ _ _ e1]
  · intro i hi
    have hi' : i < (H ++ [c]).length := by omega
    have hgi : (H ++ [c])[i] = H[i] := List.getElem_append_left hi
    have q1 := h.cl_tb hi'
    have q2 := h.row_cl hi'
    have q3 := h.cl i hi'
    rw [hgi] at q1 q2 q3
    rw [heap_setCell_other _ _ _ _ q1, heap_setCell_other _ _ _ _ (fun e => q2 (by rw [e]; rfl))]
    exact q3

theorem hpush_tab {c : Cl} {k0 : Nat} (h : Tab B tb mb now most es clock H s w) (hn : H.length + 1 ≤ 1000000)
    (hc : w.heap[c.blk]? = some (.cells (c.cells k0) 61 (0, 0))) (hB : B ≤ c.blk) (hnew : ∀ i (hi : i < H.length), (H[i]).blk ≠ c.blk) :
    Calls Try.prog 61 #[.pointer (some ⟨tb, 2, none⟩), .iface 62 c.ptr] w fun e w' => e = .returned (.tuple #[]) ∧ ∃ s', Tab B tb mb now most es clock (H ++ [c]) s' w' ∧ Below B w w' := by
  obtain ⟨a, cap, hs, hle⟩ := h.form'
  have hct : c.blk ≠ tb := fun e => by rw [e, h.tab] at hc; simp at hc
  have hcm : c.blk ≠ mb := fun e => by rw [e, h.map] at hc; simp at hc
  have hcr : s.ownBlock ≠ some c.blk := fun e => by
    obtain ⟨cur, hc'⟩ := own_block h.own e
    rw [hc] at hc'; simp at hc'
  have hBw : B ≤ w.heap.size := Nat.le_of_lt (Nat.lt_of_le_of_lt h.btb h.lts.1)
  have own1 : (w.setCell ⟨c.blk, 7, none⟩ (.int .i64 H.length)).ownsRow B 62 1 s H.length (H.map Cl.ptr) :=
    ownsRow_of_heap h.own fun k hk => heap_setCell_other _ _ _ _ (fun e => hcr (by rw [hk, e]))
  refine (hpush_raw B tb c.blk H.length s (H.map Cl.ptr) a cap hs (.int .i64 k0) w hn hct hBw h.lts.1 h.row_tb h.cell_tab.2.2.1
    (by rw [cell_of_row w _ 7 _ _ _ hc]; rfl) (h.frozen_tab 2) (frozen_of_row w _ 7 _ _ hc) own1).mono ?_
  rintro e w' ⟨rfl, g, cap', w1, ho, hgrow, hat, rfl⟩
  have hsz : ((w.setCell ⟨c.blk, 7, none⟩ (.int .i64 H.length)).alloc (.cells #[.pointer (some ⟨c.blk, 0, none⟩)] 62)).heap.size = w.heap.size + 1 := by simp
  have blk : ∀ k, k < w.heap.size → some k ≠ s.ownBlock → k ≠ c.blk → w1.heap[k]? = w.heap[k]? := fun k hk hk2 hk3 => by
    rw [hgrow.block k (by omega) hk2, Below.heap_alloc _ _ _ (by rw [size_set]; exact hk), heap_setCell_other _ _ _ _ hk3]
  have gtb : g ≠ tb := fun e => by
    rcases hat with hat | hat
    · exact h.row_tb (by rw [hat, e])
    · have := h.lts.1; omega
  refine ⟨rfl, .slice (some ⟨g, 0, none⟩) (H.length + 1) cap', ⟨?_, ?_, ?_, ?_, h.btb, h.bmb, ?_⟩, ?_⟩
  · have b1 : w1.heap[tb]? = some (.cells #[.int .u64 now, .map (some mb), s, .int .i64 most] 56 (0, 0)) := by rw [blk tb h.lts.1 (fun e => h.row_tb e.symm) hct.symm]; exact h.tab
    rw [heap_setCell_same _ _ 2 _ _ _ b1]; rfl
  · rw [heap_setCell_other _ _ _ _ h.tb_mb.symm, blk mb h.lts.2.1 (fun e => h.row_mb e.symm) hcm.symm]; exact h.map
  · rw [List.length_append, List.length_singleton, List.map_append]
    refine ownsRow_of_heap ho fun k hk => ?_
    have hk' : g = k := by simpa [Value.ownBlock] using hk
    subst hk'
    rw [heap_setCell_other _ _ _ _ gtb]
  · intro i hi
    rw [List.length_append, List.length_singleton] at hi
    by_cases hlast : i = H.length
    · subst hlast
      have hgc : (H ++ [c])[H.length]'(by simp) = c := by simp
      rw [hgc]
      have hlt : c.blk < w.heap.size := by
        rcases Nat.lt_or_ge c.blk w.heap.size with h' | h'
        · exact h'
        · rw [Array.getElem?_eq_none h'] at hc; cases hc
      rw [heap_setCell_other _ _ _ _ hct, hgrow.block c.blk (by omega) (fun e => hcr e.symm), Below.heap_alloc _ _ _ (by rw [size_set]; exact hlt), heap_setCell_same _ _ 7 _ _ _ hc]
      rfl
    · have hi' : i < H.length := by omega
      have hgi : (H ++ [c])[i]'(by simp; omega) = H[i] := List.getElem_append_left hi'
      rw [hgi]
      rw [heap_setCell_other _ _ _ _ (h.cl_tb hi'), blk _ (h.lts.2.2 i hi') (fun e => h.row_cl hi' e.symm) (hnew i hi')]
      exact h.cl i hi'
  · intro c' hc'
    rcases List.mem_append.1 hc' with h1 | h1
    · exact h.bcl c' h1
    · rw [List.mem_singleton.1 h1]; exact hB
  · refine Below.setCell ?_ h.btb _
    refine ((((Below.refl B w).setCell hB _).alloc (by rw [size_set]; exact hBw) _).grown hgrow (by rw [hsz]; omega) fun k hk => ?_)
    exact (h.own.lt k hk).1

end
end Go.Proofs.Qxb6616160a.Tick
