import Derived.Test.Qxb6616238aDrop1
import Derived.Lib.SlKept
import Derived.Lib.SliceRun
namespace Go.Proofs.Qxb6616238a.Grow
set_option linter.unusedVariables false
set_option linter.unusedSimpArgs false
set_option maxRecDepth 100000
open Go.ChangeShapes Go.WideShapes Go.ChangeAt Go.RowKit

abbrev Msg3 := Int × Int × Int

/-- Messages laid one behind the other in block g, 23 cells each. -/
def RowD (w : World) (g cap : Nat) (d : Array Msg3) : Prop := ∃ cur : Array Value, w.heap[g]? = some (.cells cur 104 (0, 0)) ∧ cur.size = cap * 23 ∧ d.size ≤ cap ∧ ∀ j, j < d.size → ∀ i v, (pc d[j]!)[i]? = some v → cur[j * 23 + i]? = some v

theorem RowD.kept {w w' : World} {g cap : Nat} {d : Array Msg3} (h : RowD w g cap d) (hk : w'.heap[g]? = w.heap[g]?) : RowD w' g cap d := by
  obtain ⟨cur, h1, h2⟩ := h
  exact ⟨cur, by rw [hk]; exact h1, h2⟩
theorem RowD.lt {w : World} {g cap : Nat} {d : Array Msg3} (h : RowD w g cap d) : g < w.heap.size := by
  obtain ⟨cur, h1, h2⟩ := h
  exact lt_of_some h1
theorem RowD.range {w : World} {g cap : Nat} {d : Array Msg3} (h : RowD w g cap d) {j : Nat} (hj : j < d.size) : w.rangeAt g (j * 23) (pc d[j]!) := by
  obtain ⟨cur, h1, h2, h3, h4⟩ := h
  intro i v hv
  rw [cell_of_row w g _ cur _ _ h1]
  exact h4 j hj i v hv
theorem RowD.there' {w : World} {g cap : Nat} {d : Array Msg3} (h : RowD w g cap d) {o n : Nat} (hj : o + n ≤ cap * 23) : w.there g o n := by
  obtain ⟨cur, h1, h2, h3, h4⟩ := h
  intro i hi
  refine ⟨?_, frozen_of_row w g _ cur _ h1⟩
  rw [cell_of_row w g _ cur _ _ h1, Array.getElem?_eq_getElem (by omega)]
  rfl
theorem RowD.there {w : World} {g cap : Nat} {d : Array Msg3} (h : RowD w g cap d) {j : Nat} (hj : j < d.size) : w.there g (j * 23) 23 := by
  have h' := h
  obtain ⟨cur, h1, h2, h3, h4⟩ := h'
  exact h.there' (by omega)

theorem setCells_block (g : Nat) (t : TypeId) : ∀ (vs : List Value) (o : Nat) (w : World) (cur : Array Value), w.heap[g]? = some (.cells cur t (0, 0)) → ∃ cur', (w.setCells g o vs).heap[g]? = some (.cells cur' t (0, 0)) ∧ cur'.size = cur.size
  | [], _, _, cur, h => ⟨cur, h, rfl⟩
  | v :: r, o, w, cur, h => by
    obtain ⟨cur', h1, h2⟩ := setCells_block g t r (o + 1) (w.setCell ⟨g, o, none⟩ v) _ (heap_setCell_same w g o cur t v h)
    exact ⟨cur', h1, by rw [h2]; simp⟩

theorem grown_ext {w W W' : World} {row : Option Nat} (h : w.grownBy W row) (hx : Ext W W') : w.grownBy W' row :=
  ⟨hx.os.trans h.os, hx.tape.trans h.tape, hx.output.trans h.output, Nat.le_trans h.size hx.size, fun k hk hne => (Below.block hx k (Nat.lt_of_lt_of_le hk h.size)).trans (h.block k hk hne)⟩
theorem grown_setCell {w W : World} {g : Nat} (h : w.grownBy W (some g)) (o : Nat) (v : Value) : w.grownBy (W.setCell ⟨g, o, none⟩ v) (some g) :=
  ⟨h.os, h.tape, h.output, by simpa using h.size, fun k hk hne => (Below.heap_setCell W ⟨g, o, none⟩ v k (fun e => hne (by rw [e]))).trans (h.block k hk hne)⟩
theorem grown_set {w : World} {g : Nat} : ∀ (vs : List Value) (o : Nat) (W : World), w.grownBy W (some g) → w.grownBy (W.setCells g o vs) (some g)
  | [], _, _, h => h
  | v :: r, o, W, h => grown_set r (o + 1) _ (grown_setCell h o v)
theorem grown_refl (w : World) (row : Option Nat) : w.grownBy w row := ⟨rfl, rfl, rfl, Nat.le_refl _, fun _ _ _ => rfl⟩

theorem RowD.set {w : World} {g cap : Nat} {d : Array Msg3} (h : RowD w g cap d) {i : Nat} (hi : i < d.size) (u : Msg3) : RowD (w.setCells g (i * 23) (pc u)) g cap (d.setIfInBounds i u) := by
  have ht := h.there hi
  obtain ⟨cur, h1, h2, h3, h4⟩ := h
  obtain ⟨cur', h5, h6⟩ := setCells_block g 104 (pc u) (i * 23) w cur h1
  refine ⟨cur', h5, by rw [h6, h2], by simpa using h3, ?_⟩
  intro j hj k v hv
  have hk : k < 23 := by have := (List.getElem?_eq_some_iff.1 hv).1; rw [pc_length] at this; exact this
  rw [← cell_of_row _ g _ cur' _ _ h5]
  by_cases e : j = i
  · subst e
    rw [Go.Sort.getElem!_set_same d j u hi] at hv
    exact World.rangeAt_setCells_same w g (j * 23) (pc u) (by rw [pc_length]; exact ht) k v hv
  · rw [Go.Sort.getElem!_set_other d i j u e] at hv
    rw [World.cell?_setCells_out g (pc u) (i * 23) w ⟨g, j * 23 + k, none⟩ (fun _ _ => by rw [pc_length]; show j * 23 + k < i * 23 ∨ i * 23 + 23 ≤ j * 23 + k; omega), cell_of_row w g _ cur _ _ h1]
    exact h4 j (by simpa using hj) k v hv

theorem RowD.cut {w : World} {g cap : Nat} {d d' : Array Msg3} (h : RowD w g cap d) (hs : d'.size ≤ d.size) (hd : ∀ j, j < d'.size → d'[j]! = d[j]!) (o : Nat) (vs : List Value) (ho : d'.size * 23 ≤ o) : RowD (w.setCells g o vs) g cap d' := by
  obtain ⟨cur, h1, h2, h3, h4⟩ := h
  obtain ⟨cur', h5, h6⟩ := setCells_block g 104 vs o w cur h1
  refine ⟨cur', h5, by rw [h6, h2], by omega, ?_⟩
  intro j hj k v hv
  have hk : k < 23 := by have := (List.getElem?_eq_some_iff.1 hv).1; rw [pc_length] at this; exact this
  rw [hd j hj] at hv
  rw [← cell_of_row _ g _ cur' _ _ h5]
  rw [World.cell?_setCells_out g vs o w ⟨g, j * 23 + k, none⟩ (fun _ _ => by left; show j * 23 + k < o; omega), cell_of_row w g _ cur _ _ h1]
  exact h4 j (by omega) k v hv

theorem flat_get : ∀ (ps : List Msg3) (j i : Nat), j < ps.length → i < 23 → (ps.flatMap pc)[j * 23 + i]? = (pc ps[j]!)[i]?
  | [], j, i, h, _ => by simp at h
  | p :: r, 0, i, _, hi => by
    rw [List.flatMap_cons, List.getElem?_append_left (by rw [pc_length]; omega)]
    simp
  | p :: r, j + 1, i, h, hi => by
    rw [List.flatMap_cons, List.getElem?_append_right (by rw [pc_length]; omega), pc_length, show (j + 1) * 23 + i - 23 = j * 23 + i by omega, flat_get r j i (by simpa using h) hi]
    simp
theorem flat_len : ∀ (ps : List Msg3), (ps.flatMap pc).length = ps.length * 23
  | [] => rfl
  | p :: r => by rw [List.flatMap_cons, List.length_append, pc_length, flat_len r, List.length_cons]; omega

theorem RowD.owns {w : World} {g cap B : Nat} {d : Array Msg3} (h : RowD w g cap d) (hB : B ≤ g) (hm : cap ≤ maxLen) : w.ownsRow B 104 23 (.slice (some ⟨g, 0, none⟩) d.size cap) d.size (d.toList.flatMap pc) := by
  obtain ⟨cur, h1, h2, h3, h4⟩ := h
  refine ⟨by rw [flat_len]; simp, .inr ⟨g, cap, cur, rfl, hB, h1, h3, hm, h2, ?_⟩⟩
  apply List.ext_getElem?
  intro m
  by_cases hm' : m < d.size * 23
  · rw [List.getElem?_take, if_pos hm']
    have e : m = m / 23 * 23 + m % 23 := by omega
    have hj : m / 23 < d.size := by omega
    have hi : m % 23 < 23 := by omega
    generalize m / 23 = j at *
    generalize m % 23 = i at *
    subst e
    rw [flat_get d.toList j i (by simpa using hj) hi]
    have e2 : d.toList[j]! = d[j]! := by rw [getElem!_pos d j hj, getElem!_pos d.toList j (by simpa using hj)]; simp
    rw [e2, Array.getElem?_toList]
    have hp : i < (pc d[j]!).length := by rw [pc_length]; exact hi
    rw [h4 j hj i _ (List.getElem?_eq_getElem hp), List.getElem?_eq_getElem hp]
  · rw [List.getElem?_eq_none (by simp; omega), List.getElem?_eq_none (by rw [flat_len]; simp; omega)]

theorem RowD.of {w : World} {g cap B : Nat} {ps : List Msg3} (h : w.ownsRow B 104 23 (.slice (some ⟨g, 0, none⟩) ps.length cap) ps.length (ps.flatMap pc)) : RowD w g cap ps.toArray ∧ B ≤ g ∧ cap ≤ maxLen := by
  rcases h.2 with ⟨h', _⟩ | ⟨g', cap', cur, h', hb, hg, hnc, hcm, hcs, htake⟩
  · simp at h'
  · simp only [Value.slice.injEq, Option.some.injEq, Addr.mk.injEq, and_true, true_and] at h'
    obtain ⟨rfl, rfl⟩ := h'
    refine ⟨⟨cur, hg, hcs, by simpa using hnc, ?_⟩, hb, hcm⟩
    intro j hj i v hv
    have hj' : j < ps.length := by simpa using hj
    have hi : i < 23 := by have := (List.getElem?_eq_some_iff.1 hv).1; rw [pc_length] at this; exact this
    have e2 : ps.toArray[j]! = ps[j]! := by rw [getElem!_pos ps.toArray j hj, getElem!_pos ps j hj']; simp
    rw [e2, ← flat_get ps j i hj' hi, ← htake, List.getElem?_take] at hv
    split at hv
    · simpa using hv
    · cases hv
end Go.Proofs.Qxb6616238a.Grow
