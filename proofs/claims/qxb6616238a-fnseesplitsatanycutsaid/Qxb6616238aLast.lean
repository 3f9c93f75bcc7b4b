import Derived.Test.Qxb6616238aGrow
namespace Go.Proofs.Qxb6616238a.Grow
set_option linter.unusedVariables false
open Go.RowKit

/-- A REGION THAT DRAWS ITS ORDER, whose last operation waits for all others: each of the others yields one value, whatever the order; those that turn the world ('eff i = some j': the j-th) wait for one another. -/
structure Law3 (P : Program) (ops : Array Oper) (last : Nat) (d : Nat → Nat) (val : Nat → Value) (eff : Nat → Option Nat) (m : Nat) (W : Nat → World) (a0 : Act) : Prop where
  size : ops.size = last + 1
  plain : ∀ i o, i < last → ops[i]? = some o → o.guard = none ∧ o.dst = some (d i)
  lastPlain : ∀ o, ops[last]? = some o → o.guard = none
  inj : ∀ i j, i < last → j < last → d i = d j → i = j
  fit : ∀ i, i < last → d i < a0.tmps.size
  before : ∀ i o, ops[i]? = some o → ∀ e ∈ o.after, Region.binds .any e = true → e.on < i
  cons : ∀ i, i < last → ∃ j o, i < j ∧ ops[j]? = some o ∧ ∃ e ∈ o.after, Region.binds .any e = true ∧ e.on = i
  lt : ∀ i j, eff i = some j → j < m ∧ i < last
  chain : ∀ i o j, ops[i]? = some o → eff i = some (j + 1) → ∃ e ∈ o.after, Region.binds .any e = true ∧ eff e.on = some j
  all : ∀ j, j < m → ∃ i, eff i = some j
  effInj : ∀ i i' j, eff i = some j → eff i' = some j → i = i'
  read : ∀ (i : Nat) (o : Oper) (a : Act) (k : Nat), i < last → ops[i]? = some o → eff i = none → k ≤ m → (∀ e ∈ o.after, Region.binds .any e = true → a.tmps.getD (d e.on) undef = val e.on) →
    (∀ s, (∀ j, j < last → s ≠ d j) → a.tmps.getD s undef = a0.tmps.getD s undef) → (execOp a.eval o).run P (W k) = .ok (.value (val i)) (W k)
  turn : ∀ (i : Nat) (o : Oper) (a : Act) (j : Nat), ops[i]? = some o → eff i = some j → (∀ e ∈ o.after, Region.binds .any e = true → a.tmps.getD (d e.on) undef = val e.on) →
    (∀ s, (∀ j, j < last → s ≠ d j) → a.tmps.getD s undef = a0.tmps.getD s undef) → (execOp a.eval o).run P (W j) = .ok (.value (val i)) (W (j + 1))

structure Inv3 (ops : Array Oper) (last : Nat) (d : Nat → Nat) (val : Nat → Value) (eff : Nat → Option Nat) (m : Nat) (W : Nat → World) (a0 : Act) (listed : Array Bool) (a : Act) (w : World) : Prop where
  size : listed.size = ops.size
  notLast : listed.getD last true = false
  defers : a.defers = a0.defers
  tsize : a.tmps.size = a0.tmps.size
  other : ∀ s, (∀ j, j < last → s ≠ d j) → a.tmps.getD s undef = a0.tmps.getD s undef
  goods : ∀ i, i < last → listed.getD i false = true → a.tmps.getD (d i) undef = val i
  closed : ∀ i o, listed.getD i false = true → ops[i]? = some o → ∀ e ∈ o.after, Region.binds .any e = true → listed.getD e.on false = true
  stage : ∃ k, k ≤ m ∧ w = W k ∧ ∀ i j, eff i = some j → (listed.getD i false = true ↔ j < k)

variable {P : Program} {ops : Array Oper} {last : Nat} {d : Nat → Nat} {val : Nat → Value} {eff : Nat → Option Nat} {m : Nat} {W : Nat → World} {a0 : Act} {Q : Exit → Act → World → Prop}

theorem bool_flip {listed : Array Bool} {i : Nat} (hs : i < listed.size) : listed.getD i true = false ↔ ¬ listed.getD i false = true := by
  simp [Array.getD_eq_getD_getElem?, Array.getElem?_eq_getElem hs]

theorem Inv3.next (L : Law3 P ops last d val eff m W a0) {listed : Array Bool} {a : Act} {w : World} (h : Inv3 ops last d val eff m W a0 listed a w) {i : Nat} (hi : i ∈ Region.ready .any ops listed) (hne : i ≠ last) :
    wpOp P ops Q i (Inv3 ops last d val eff m W a0 (listed.setIfInBounds i true)) a w := by
  obtain ⟨hl, o, ho, hall⟩ := mem_ready.1 hi
  have hilt' : i < ops.size := (Array.getElem?_eq_some_iff.1 ho).1
  have hilt : i < last := by have := L.size; omega
  obtain ⟨hg, hd⟩ := L.plain i o hilt ho
  obtain ⟨k, hk, rfl, hst⟩ := h.stage
  have hnl : ¬ listed.getD i false = true := (bool_flip (by rw [h.size]; exact hilt')).1 hl
  have hdep : ∀ e ∈ o.after, Region.binds .any e = true → a.tmps.getD (d e.on) undef = val e.on := fun e he hb => h.goods e.on (by have := L.before i o ho e he hb; omega) (hall e he hb)
  obtain ⟨k', hk', hr, hst'⟩ : ∃ k', k' ≤ m ∧ (execOp a.eval o).run P (W k) = .ok (.value (val i)) (W k') ∧ ∀ i' j, eff i' = some j → ((listed.setIfInBounds i true).getD i' false = true ↔ j < k') := by
    cases he : eff i with
    | none =>
      refine ⟨k, hk, L.read i o a k hilt ho he hk hdep h.other, fun i' j hj => ?_⟩
      rw [getD_set_ne false (fun e => by rw [e, hj] at he; cases he)]
      exact hst i' j hj
    | some j0 =>
      have hj0 : ¬ j0 < k := fun hlt => hnl ((hst i j0 he).2 hlt)
      have hjk : j0 = k := by
        cases j0 with
        | zero => omega
        | succ j =>
          obtain ⟨e, hea, hb, hee⟩ := L.chain i o j ho he
          have := (hst e.on j hee).1 (hall e hea hb)
          omega
      subst hjk
      have hlt := (L.lt i j0 he).1
      refine ⟨j0 + 1, by omega, L.turn i o a j0 ho he hdep h.other, fun i' j hj => ?_⟩
      by_cases e : i' = i
      · subst e
        rw [hj] at he
        simp only [Option.some.injEq] at he
        subst he
        have hs : i' < listed.size := by rw [h.size]; exact hilt'
        constructor
        · intro _; omega
        · intro _; simp [hs]
      · rw [getD_set_ne false (Ne.symm e), hst i' j hj]
        have : j ≠ j0 := fun e' => e (L.effInj i' i j hj (by rw [he, e']))
        omega
  refine wpOp_step ho fun K' hK => ?_
  rw [if_pos (by simp [Region.wanted, hg])]
  unfold Oper.wp
  rw [hr]
  show K' (a.put o.dst (val i)) (W k')
  apply hK
  rw [hd]
  have hgs : ∀ s, s ≠ d i → (a.put (some (d i)) (val i)).tmps.getD s undef = a.tmps.getD s undef := fun s hs => by
    simp only [Act.put, Array.getD_eq_getD_getElem?]
    rw [Array.getElem?_setIfInBounds_ne (Ne.symm hs)]
  refine ⟨by simpa using h.size, by rw [getD_set_ne true hne]; exact h.notLast, h.defers, by simpa [Act.put] using h.tsize, fun s hs => by rw [hgs s (hs i hilt)]; exact h.other s hs, fun j hjl hj => ?_, fun j o' hj ho' e he hb => ?_, k', hk', rfl, hst'⟩
  · by_cases e : j = i
    · subst e
      have hfit := L.fit j hilt
      rw [← h.tsize] at hfit
      simp [Act.put, hfit]
    · have hjl' : listed.getD j false = true := by rw [getD_set_ne false (Ne.symm e)] at hj; exact hj
      rw [hgs (d j) (fun e' => e (L.inj j i hjl hilt e'))]
      exact h.goods j hjl hjl'
  · have hon : listed.getD e.on false = true := by
      by_cases e1 : j = i
      · subst e1
        rw [ho] at ho'
        cases ho'
        exact hall e he hb
      · rw [getD_set_ne false (Ne.symm e1)] at hj
        exact h.closed j o' hj ho' e he hb
    by_cases e2 : e.on = i
    · rw [e2] at hon; exact absurd hon hnl
    · rw [getD_set_ne false (Ne.symm e2)]; exact hon

theorem Inv3.full (L : Law3 P ops last d val eff m W a0) {listed : Array Bool} {a : Act} {w : World} (h : Inv3 ops last d val eff m W a0 listed a w) (hl : last ∈ Region.ready .any ops listed) : ∀ i, i < last → listed.getD i false = true := by
  obtain ⟨_, o, ho, hall⟩ := mem_ready.1 hl
  have key : ∀ n i, last - i = n → i < last → listed.getD i false = true := by
    intro n
    induction n using Nat.strongRecOn with
    | ind n ih =>
      intro i hn hi
      obtain ⟨j, o', hij, ho', e, he, hb, hon⟩ := L.cons i hi
      have hjs : j < ops.size := (Array.getElem?_eq_some_iff.1 ho').1
      rw [← hon]
      by_cases hj : j = last
      · subst hj
        rw [ho] at ho'; cases ho'
        exact hall e he hb
      · have hjl : j < last := by have := L.size; omega
        exact h.closed j o' (ih (last - j) (by omega) j rfl hjl) ho' e he hb
  exact fun i hi => key _ i rfl hi

theorem Inv3.stuck (L : Law3 P ops last d val eff m W a0) {listed : Array Bool} {a : Act} {w : World} (h : Inv3 ops last d val eff m W a0 listed a w) : Region.ready .any ops listed ≠ [] := by
  intro hr
  have key : ∀ i, i < ops.size → listed.getD i false = true := by
    intro i
    induction i using Nat.strongRecOn with
    | ind i ih =>
      intro hi
      apply Classical.byContradiction
      intro hn
      have : i ∈ Region.ready .any ops listed := by
        rw [mem_ready]
        refine ⟨(bool_flip (by rw [h.size]; exact hi)).2 hn, ops[i], Array.getElem?_eq_getElem hi, fun e he hb => ?_⟩
        have hlt' := L.before i ops[i] (Array.getElem?_eq_getElem hi) e he hb
        exact ih e.on hlt' (by omega)
      rw [hr] at this
      cases this
  have hls : last < ops.size := by have := L.size; omega
  exact (bool_flip (by rw [h.size]; exact hls)).1 h.notLast (key last hls)

theorem left_nil {n : Nat} {listed : Array Bool} (hs : listed.size = n) (h : ∀ i, i < n → listed.getD i false = true) : Region.ready .any ops listed = [] ∨ ∃ i, n ≤ i ∧ i ∈ Region.ready .any ops listed := by
  by_cases e : Region.ready .any ops listed = []
  · exact .inl e
  · obtain ⟨i, hi⟩ := List.exists_mem_of_ne_nil _ e
    refine .inr ⟨i, ?_, hi⟩
    rcases Nat.lt_or_ge i n with h' | h'
    · have := (mem_ready.1 hi).1
      exact absurd (h i h') ((bool_flip (by omega)).1 this)
    · exact h'

theorem wpAny_last (L : Law3 P ops last d val eff m W a0)
    (done : ∀ (o : Oper) (a : Act), ops[last]? = some o → a.defers = a0.defers → a.tmps.size = a0.tmps.size → (∀ s, (∀ j, j < last → s ≠ d j) → a.tmps.getD s undef = a0.tmps.getD s undef) → (∀ i, i < last → a.tmps.getD (d i) undef = val i) → o.wp P a (W m) (fun a' w' => Q .normal a' w') Q) :
    ∀ (fuel : Nat) (listed : Array Bool) (a : Act) (w : World), (left ops.size listed).length ≤ fuel → Inv3 ops last d val eff m W a0 listed a w → wpAny P .any ops Q fuel listed a w := by
  intro fuel
  induction fuel with
  | zero =>
    intro listed a w hl h
    exfalso
    have hls : last < ops.size := by have := L.size; omega
    have : last ∈ left ops.size listed := by unfold left; rw [List.mem_filter]; exact ⟨List.mem_range.2 hls, by simp [h.notLast]⟩
    have := List.length_pos_of_mem this
    omega
  | succ fuel ih =>
    intro listed a w hl h
    refine ⟨fun hr => absurd hr (h.stuck L), fun i hi => ?_⟩
    obtain ⟨h1, o, ho, _⟩ := mem_ready.1 hi
    have hilt : i < ops.size := (Array.getElem?_eq_some_iff.1 ho).1
    have hlt := left_lt hilt h1
    by_cases e : i = last
    · subst e
      have hfull := h.full L hi
      obtain ⟨k, hk, rfl, hst⟩ := h.stage
      have hkm : k = m := by
        apply Classical.byContradiction
        intro hne
        obtain ⟨i', hi'⟩ := L.all k (by omega)
        have := (hst i' k hi').1 (hfull i' (L.lt i' k hi').2)
        omega
      subst hkm
      have hd := done o a ho h.defers h.tsize h.other (fun j hj => h.goods j hj (hfull j hj))
      refine wpOp_step ho fun K' hK => ?_
      rw [if_pos (by simp [Region.wanted, L.lastPlain o ho])]
      refine Oper.wp_mono (fun a' w' hQ => hK a' w' ?_) hd
      have hsz : (listed.setIfInBounds i true).size = ops.size := by simpa using h.size
      have hr : Region.ready .any ops (listed.setIfInBounds i true) = [] := by
        rcases left_nil (ops := ops) hsz (fun j hj => by
          by_cases e : j = i
          · subst e
            have : j < listed.size := by rw [h.size]; exact hilt
            simp [this]
          · rw [getD_set_ne false (Ne.symm e)]
            exact hfull j (by have := L.size; omega)) with h' | ⟨j, hj, hjr⟩
        · exact h'
        · obtain ⟨_, o', ho', _⟩ := mem_ready.1 hjr
          have := (Array.getElem?_eq_some_iff.1 ho').1
          omega
      cases fuel with
      | zero => exact ⟨hr, hQ⟩
      | succ f => exact ⟨fun _ => hQ, fun j hj => by rw [hr] at hj; cases hj⟩
    · exact wpOp_mono (fun a' w' hI => ih _ a' w' (by omega) hI) (h.next L hi e)

theorem wp_region_last {id : Nat} {w : World} (hm : P.follows .mixedOrders = true) (L : Law3 P ops last d val eff m W a0) (hW : W 0 = w.drew)
    (done : ∀ (o : Oper) (a : Act), ops[last]? = some o → a.defers = a0.defers → a.tmps.size = a0.tmps.size → (∀ s, (∀ j, j < last → s ≠ d j) → a.tmps.getD s undef = a0.tmps.getD s undef) → (∀ i, i < last → a.tmps.getD (d i) undef = val i) → o.wp P a (W m) (fun a' w' => Q .normal a' w') Q) :
    (Code.region id ops true).wp P Q a0 w := by
  refine wp_region_any hm ?_
  have hf : ∀ i, ¬ (Array.replicate ops.size false).getD i false = true := fun i hi => by
    rw [Array.getD_eq_getD_getElem?, Array.getElem?_replicate] at hi
    split at hi <;> simp at hi
  have hls : last < ops.size := by have := L.size; omega
  refine wpAny_last L done ops.size _ a0 w.drew ?_ ⟨by simp, ?_, rfl, rfl, fun _ _ => rfl, fun i _ hi => absurd hi (hf i), fun i o hi => absurd hi (hf i), 0, Nat.zero_le _, hW.symm, fun i j hj => ⟨fun h => absurd h (hf i), fun h => by omega⟩⟩
  · unfold left
    exact Nat.le_trans (List.length_filter_le _ _) (by simp)
  · exact (bool_flip (by simpa using hls)).2 (hf last)

/-- The slots as the operations leave them, in the text's order. -/
def laid (d : Nat → Nat) (val : Nat → Value) (t : Array Value) : Nat → Array Value
  | 0 => t
  | n + 1 => (laid d val t n).setIfInBounds (d n) (val n)
theorem laid_size (d : Nat → Nat) (val : Nat → Value) (t : Array Value) : ∀ n, (laid d val t n).size = t.size
  | 0 => rfl
  | n + 1 => by simp [laid, laid_size d val t n]
theorem laid_off (d : Nat → Nat) (val : Nat → Value) (t : Array Value) (s : Nat) : ∀ n, (∀ j, j < n → s ≠ d j) → (laid d val t n)[s]? = t[s]?
  | 0, _ => rfl
  | n + 1, h => by
    show ((laid d val t n).setIfInBounds (d n) (val n))[s]? = _
    rw [Array.getElem?_setIfInBounds_ne (Ne.symm (h n (by omega)))]
    exact laid_off d val t s n (fun j hj => h j (by omega))
theorem laid_on (d : Nat → Nat) (val : Nat → Value) (t : Array Value) (last : Nat) (inj : ∀ i j, i < last → j < last → d i = d j → i = j) (fit : ∀ i, i < last → d i < t.size) (i : Nat) : ∀ n, n ≤ last → i < n → (laid d val t n)[d i]? = some (val i)
  | 0, _, h => by omega
  | n + 1, hn, h => by
    show ((laid d val t n).setIfInBounds (d n) (val n))[d i]? = _
    by_cases e : i = n
    · subst e
      have := fit i (by omega)
      rw [← laid_size d val t i] at this
      simp [this]
    · have hne : d n ≠ d i := fun e' => e (inj i n (by omega) (by omega) e'.symm)
      rw [Array.getElem?_setIfInBounds_ne hne]
      exact laid_on d val t last inj fit i n (by omega) (by omega)

theorem Law3.act (L : Law3 P ops last d val eff m W a0) {a : Act} (hd : a.defers = a0.defers) (hs : a.tmps.size = a0.tmps.size) (ho : ∀ s, (∀ j, j < last → s ≠ d j) → a.tmps.getD s undef = a0.tmps.getD s undef) (hv : ∀ i, i < last → a.tmps.getD (d i) undef = val i) :
    a = { tmps := laid d val a0.tmps last, defers := a0.defers } := by
  obtain ⟨t, df⟩ := a
  simp only at hd hs ho hv
  subst hd
  congr 1
  apply Array.ext
  · rw [laid_size]; exact hs
  · intro s h1 h2
    apply Option.some.inj
    rw [← Array.getElem?_eq_getElem h1, ← Array.getElem?_eq_getElem h2]
    by_cases e : ∃ j, j < last ∧ s = d j
    · obtain ⟨j, hj, rfl⟩ := e
      rw [laid_on d val a0.tmps last L.inj L.fit j last (Nat.le_refl _) hj]
      have := hv j hj
      rw [Array.getD_eq_getD_getElem?, Array.getElem?_eq_getElem h1] at this
      rw [Array.getElem?_eq_getElem h1]
      simpa using this
    · have hn : ∀ j, j < last → s ≠ d j := fun j hj e' => e ⟨j, hj, e'⟩
      rw [laid_off d val a0.tmps s last hn]
      have := ho s hn
      have h3 : s < a0.tmps.size := by omega
      rw [Array.getD_eq_getD_getElem?, Array.getElem?_eq_getElem h1, Array.getD_eq_getD_getElem?, Array.getElem?_eq_getElem h3] at this
      rw [Array.getElem?_eq_getElem h1, Array.getElem?_eq_getElem h3]
      simpa using this

theorem wp_region_lastA {id : Nat} {w : World} (hm : P.follows .mixedOrders = true) (L : Law3 P ops last d val eff m W a0) (hW : W 0 = w.drew) (o : Oper) (ho : ops[last]? = some o)
    (done : o.wp P { tmps := laid d val a0.tmps last, defers := a0.defers } (W m) (fun a' w' => Q .normal a' w') Q) :
    (Code.region id ops true).wp P Q a0 w :=
  wp_region_last hm L hW (fun o' a ho' hd hs hot hv => by
    rw [ho] at ho'; cases ho'
    rw [L.act hd hs hot hv]
    exact done)
end Go.Proofs.Qxb6616238a.Grow
