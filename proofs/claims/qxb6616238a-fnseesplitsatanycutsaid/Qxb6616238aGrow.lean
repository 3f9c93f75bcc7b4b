import Derived.Test.Qxb6616238aRows
import Derived.WalkKit
import Derived.ProofKit
import Derived.OpenShut
import Derived.RegionTactic
import Derived.Orders
namespace Go.Proofs.Qxb6616238a.Grow
set_option linter.unusedVariables false
open Go.RowKit

/-- w' is w with new blocks: no block that was there has turned. -/
def Ext (w w' : World) : Prop := Below w.heap.size w w'
theorem Ext.refl (w : World) : Ext w w := Below.refl _ _
theorem Ext.trans {a b c : World} (h : Ext a b) (k : Ext b c) : Ext a c := Below.trans h (Below.mono k h.size)
theorem Ext.alloc (w : World) (o : Obj) : Ext w (w.alloc o) := (Below.refl _ w).alloc (Nat.le_refl _) o
theorem Ext.drew (w : World) : Ext w w.drew := (Below.refl _ w).drew
theorem Ext.block {w w' : World} (h : Ext w w') {k : Nat} {o : Obj} (hk : w.heap[k]? = some o) : w'.heap[k]? = some o := by
  have hlt : k < w.heap.size := by
    rcases Nat.lt_or_ge k w.heap.size with h | h
    · exact h
    · rw [Array.getElem?_eq_none h] at hk; cases hk
  rw [Below.block h k hlt]; exact hk

theorem sub_length {α : Type} : ∀ {l r : List α}, l.Nodup → (∀ x ∈ l, x ∈ r) → l.length ≤ r.length
  | [], _, _, _ => Nat.zero_le _
  | a :: l, r, h, hs => by
    rw [List.nodup_cons] at h
    obtain ⟨s, t, rfl⟩ := List.append_of_mem (hs a (List.mem_cons_self ..))
    have := sub_length (l := l) (r := s ++ t) h.2 (fun x hx => by
      have := hs x (List.mem_cons_of_mem _ hx)
      rcases List.mem_append.1 this with h1 | h1
      · exact List.mem_append_left _ h1
      · rcases List.mem_cons.1 h1 with rfl | h2
        · exact absurd hx h.1
        · exact List.mem_append_right _ h2)
    simp at this ⊢
    omega

def left (n : Nat) (listed : Array Bool) : List Nat := (List.range n).filter (fun j => !listed.getD j true)

theorem left_lt {n i : Nat} {listed : Array Bool} (hi : i < n) (hl : listed.getD i true = false) : (left n (listed.setIfInBounds i true)).length < (left n listed).length := by
  have hnd : (left n (listed.setIfInBounds i true)).Nodup := (List.filter_sublist).nodup List.nodup_range
  have hsz : i < listed.size := by
    rcases Nat.lt_or_ge i listed.size with h | h
    · exact h
    · rw [Array.getD_eq_getD_getElem?, Array.getElem?_eq_none h] at hl
      simp at hl
  have hni : i ∉ left n (listed.setIfInBounds i true) := by
    unfold left
    rw [List.mem_filter]
    rintro ⟨_, h⟩
    have : (listed.setIfInBounds i true).getD i true = true := by simp [hsz]
    rw [this] at h
    simp at h
  have := sub_length (l := i :: left n (listed.setIfInBounds i true)) (r := left n listed) (List.nodup_cons.2 ⟨hni, hnd⟩) (fun x hx => by
    rcases List.mem_cons.1 hx with rfl | hx
    · unfold left; rw [List.mem_filter]; exact ⟨List.mem_range.2 hi, by simp [hl]⟩
    · unfold left at hx ⊢
      rw [List.mem_filter] at hx ⊢
      refine ⟨hx.1, ?_⟩
      have hne : i ≠ x := fun e => by
        subst e
        exact hni (by unfold left; rw [List.mem_filter]; exact hx)
      rw [← getD_set_ne true hne]; exact hx.2)
  simp at this
  omega

/-- A REGION THAT DRAWS ITS ORDER AND ONLY MAKES MEMORY: each operation gives a value that is good (whatever the order), nothing that was there turns; then the region ends with every operation's value good. -/
structure Law (P : Program) (ops : Array Oper) (d : Nat → Nat) (good : Nat → Value → World → Prop) (a0 : Act) (w0 : World) : Prop where
  plain : ∀ i o, ops[i]? = some o → o.guard = none ∧ o.dst = some (d i)
  inj : ∀ i j, i < ops.size → j < ops.size → d i = d j → i = j
  fit : ∀ i, i < ops.size → d i < a0.tmps.size
  before : ∀ i o, ops[i]? = some o → ∀ e ∈ o.after, Region.binds .any e = true → e.on < i
  mono : ∀ i v w w', good i v w → Ext w w' → good i v w'
  step : ∀ (i : Nat) (o : Oper) (a : Act) (w : World), ops[i]? = some o → (∀ e ∈ o.after, Region.binds .any e = true → good e.on (a.tmps.getD (d e.on) undef) w) →
    (∀ s, (∀ j, j < ops.size → s ≠ d j) → a.tmps.getD s undef = a0.tmps.getD s undef) → Ext w0 w → ∃ v w', (execOp a.eval o).run P w = .ok (.value v) w' ∧ good i v w' ∧ Ext w w'

structure Inv (ops : Array Oper) (d : Nat → Nat) (good : Nat → Value → World → Prop) (a0 : Act) (w0 : World) (listed : Array Bool) (a : Act) (w : World) : Prop where
  size : listed.size = ops.size
  defers : a.defers = a0.defers
  tsize : a.tmps.size = a0.tmps.size
  other : ∀ s, (∀ j, j < ops.size → s ≠ d j) → a.tmps.getD s undef = a0.tmps.getD s undef
  goods : ∀ i, listed.getD i false = true → good i (a.tmps.getD (d i) undef) w
  ext : Ext w0 w

variable {P : Program} {ops : Array Oper} {d : Nat → Nat} {good : Nat → Value → World → Prop} {a0 : Act} {w0 : World} {Q : Exit → Act → World → Prop}

theorem Inv.next (L : Law P ops d good a0 w0) {listed : Array Bool} {a : Act} {w : World} (h : Inv ops d good a0 w0 listed a w) {i : Nat} (hi : i ∈ Region.ready .any ops listed) :
    wpOp P ops Q i (Inv ops d good a0 w0 (listed.setIfInBounds i true)) a w := by
  obtain ⟨hl, o, ho, hall⟩ := mem_ready.1 hi
  obtain ⟨hg, hd⟩ := L.plain i o ho
  have hilt : i < ops.size := (Array.getElem?_eq_some_iff.1 ho).1
  obtain ⟨v, w', hr, hgd, hx⟩ := L.step i o a w ho (fun e he hb => h.goods e.on (hall e he hb)) h.other h.ext
  refine wpOp_step ho fun K' hK => ?_
  rw [if_pos (by simp [Region.wanted, hg])]
  unfold Oper.wp
  rw [hr]
  show K' (a.put o.dst v) w'
  apply hK
  rw [hd]
  have hgs : ∀ s, s ≠ d i → (a.put (some (d i)) v).tmps.getD s undef = a.tmps.getD s undef := fun s hs => by
    simp only [Act.put, Array.getD_eq_getD_getElem?]
    rw [Array.getElem?_setIfInBounds_ne (Ne.symm hs)]
  refine ⟨by simpa using h.size, h.defers, by simpa [Act.put] using h.tsize, fun s hs => by rw [hgs s (hs i hilt)]; exact h.other s hs, fun j hj => ?_, h.ext.trans hx⟩
  by_cases e : j = i
  · subst e
    have : (a.put (some (d j)) v).tmps.getD (d j) undef = v := by
      have hfit := L.fit j hilt
      rw [← h.tsize] at hfit
      simp [Act.put, hfit]
    rw [this]; exact hgd
  · have hjl : listed.getD j false = true := by rw [getD_set_ne false (Ne.symm e)] at hj; exact hj
    have hjlt : j < ops.size := by
      rcases Nat.lt_or_ge j ops.size with h' | h'
      · exact h'
      · rw [← h.size] at h'
        rw [Array.getD_eq_getD_getElem?, Array.getElem?_eq_none h'] at hjl
        simp at hjl
    rw [hgs (d j) (fun e' => e (L.inj j i hjlt hilt e'))]
    exact L.mono j _ w w' (h.goods j hjl) hx

theorem Inv.all (L : Law P ops d good a0 w0) {listed : Array Bool} {a : Act} {w : World} (h : Inv ops d good a0 w0 listed a w) (hr : Region.ready .any ops listed = []) : ∀ i, i < ops.size → listed.getD i false = true := by
  intro i
  induction i using Nat.strongRecOn with
  | ind i ih =>
    intro hi
    apply Classical.byContradiction
    intro hn
    have hlt : i < listed.size := by rw [h.size]; exact hi
    have hf : listed.getD i true = false := by
      simp only [Array.getD_eq_getD_getElem?, Array.getElem?_eq_getElem hlt, Option.getD_some] at hn ⊢
      simpa using hn
    have : i ∈ Region.ready .any ops listed := by
      rw [mem_ready]
      refine ⟨hf, ops[i], Array.getElem?_eq_getElem hi, fun e he hb => ?_⟩
      have hlt' := L.before i ops[i] (Array.getElem?_eq_getElem hi) e he hb
      exact ih e.on hlt' (by omega)
    rw [hr] at this
    cases this

theorem wpAny_grow (L : Law P ops d good a0 w0)
    (done : ∀ (a : Act) (w : World), a.defers = a0.defers → a.tmps.size = a0.tmps.size → (∀ s, (∀ j, j < ops.size → s ≠ d j) → a.tmps.getD s undef = a0.tmps.getD s undef) → (∀ i, i < ops.size → good i (a.tmps.getD (d i) undef) w) → Ext w0 w → Q .normal a w) :
    ∀ (fuel : Nat) (listed : Array Bool) (a : Act) (w : World), (left ops.size listed).length ≤ fuel → Inv ops d good a0 w0 listed a w → wpAny P .any ops Q fuel listed a w := by
  intro fuel
  have fin : ∀ (listed : Array Bool) (a : Act) (w : World), Inv ops d good a0 w0 listed a w → Region.ready .any ops listed = [] → Q .normal a w := fun listed a w h hr =>
    done a w h.defers h.tsize h.other (fun i hi => h.goods i (h.all L hr i hi)) h.ext
  induction fuel with
  | zero =>
    intro listed a w hl h
    have hr : Region.ready .any ops listed = [] := by
      apply List.eq_nil_iff_forall_not_mem.2
      intro i hi
      obtain ⟨h1, o, ho, _⟩ := mem_ready.1 hi
      have hilt : i < ops.size := (Array.getElem?_eq_some_iff.1 ho).1
      have : i ∈ left ops.size listed := by unfold left; rw [List.mem_filter]; exact ⟨List.mem_range.2 hilt, by simp [h1]⟩
      have := List.length_pos_of_mem this
      omega
    exact ⟨hr, fin _ _ _ h hr⟩
  | succ fuel ih =>
    intro listed a w hl h
    refine ⟨fun hr => fin _ _ _ h hr, fun i hi => ?_⟩
    obtain ⟨h1, o, ho, _⟩ := mem_ready.1 hi
    have hilt : i < ops.size := (Array.getElem?_eq_some_iff.1 ho).1
    have hlt := left_lt hilt h1
    exact wpOp_mono (fun a' w' hI => ih _ a' w' (by omega) hI) (h.next L hi)

theorem wp_region_grow {id : Nat} {w : World} (hm : P.follows .mixedOrders = true) (L : Law P ops d good a0 w.drew)
    (done : ∀ (a : Act) (w' : World), a.defers = a0.defers → a.tmps.size = a0.tmps.size → (∀ s, (∀ j, j < ops.size → s ≠ d j) → a.tmps.getD s undef = a0.tmps.getD s undef) → (∀ i, i < ops.size → good i (a.tmps.getD (d i) undef) w') → Ext w.drew w' → Q .normal a w') :
    (Code.region id ops true).wp P Q a0 w := by
  refine wp_region_any hm ?_
  refine wpAny_grow (w0 := w.drew) L done ops.size _ a0 w.drew ?_ ⟨by simp, rfl, rfl, fun _ _ => rfl, fun i hi => ?_, Ext.refl _⟩
  · unfold left
    exact Nat.le_trans (List.length_filter_le _ _) (by simp)
  · rw [Array.getD_eq_getD_getElem?, Array.getElem?_replicate] at hi
    split at hi <;> simp at hi
end Go.Proofs.Qxb6616238a.Grow
