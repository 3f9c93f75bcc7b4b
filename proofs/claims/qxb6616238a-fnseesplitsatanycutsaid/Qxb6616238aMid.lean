import Derived.Test.Qxb6616238aLast
namespace Go.Proofs.Qxb6616238a.Grow
set_option linter.unusedVariables false
open Go.RowKit

/-- A REGION THAT DRAWS ITS ORDER, FROM A POINT ON: the operations ahead of 'fm' are done; those from 'fm' on to 'last' read, or stand back for their guard's sake ('skp'); the one at 'last' waits for all of them, and what comes behind waits for it. -/
structure Law5 (P : Program) (ops : Array Oper) (fm last : Nat) (d : Nat → Nat) (val : Nat → Value) (skp : Nat → Bool) (W : World) (a0 : Act) : Prop where
  size : last < ops.size
  fml : fm ≤ last
  dst : ∀ i o, i < last → ops[i]? = some o → o.dst = some (d i)
  inj : ∀ i j, i < last → j < last → d i = d j → i = j
  fit : ∀ i, i < last → d i < a0.tmps.size
  before : ∀ i o, ops[i]? = some o → ∀ e ∈ o.after, Region.binds .any e = true → e.on < i
  cons : ∀ i, fm ≤ i → i < last → ∃ j o, i < j ∧ j ≤ last ∧ ops[j]? = some o ∧ ∃ e ∈ o.after, Region.binds .any e = true ∧ e.on = i
  hold : ∀ j o, last < j → ops[j]? = some o → ∃ e ∈ o.after, Region.binds .any e = true ∧ last ≤ e.on
  goods0 : ∀ i, i < fm → a0.tmps.getD (d i) undef = val i
  gd : ∀ i o, fm ≤ i → i ≤ last → ops[i]? = some o → (o.guard = none ∧ skp i = false) ∨ ∃ j want, o.guard = some (j, want) ∧ j < last ∧ (∃ e ∈ o.after, Region.binds .any e = true ∧ e.on = j) ∧ ((skp i = false ∧ val j = .bool want) ∨ (skp i = true ∧ (val j = .bool (!want) ∨ val j = undef)))
  lastW : skp last = false
  skipped : ∀ i, fm ≤ i → i < last → skp i = true → val i = undef
  read : ∀ (i : Nat) (o : Oper) (a : Act), fm ≤ i → i < last → ops[i]? = some o → skp i = false → (∀ e ∈ o.after, Region.binds .any e = true → a.tmps.getD (d e.on) undef = val e.on) →
    (∀ s, (∀ j, j < last → s ≠ d j) → a.tmps.getD s undef = a0.tmps.getD s undef) → (execOp a.eval o).run P W = .ok (.value (val i)) W

structure Inv5 (ops : Array Oper) (fm last : Nat) (d : Nat → Nat) (val : Nat → Value) (a0 : Act) (listed : Array Bool) (a : Act) : Prop where
  size : listed.size = ops.size
  done : ∀ i, i < fm → listed.getD i false = true
  late : ∀ i, last ≤ i → listed.getD i false = false
  defers : a.defers = a0.defers
  tsize : a.tmps.size = a0.tmps.size
  other : ∀ s, (∀ j, j < last → s ≠ d j) → a.tmps.getD s undef = a0.tmps.getD s undef
  goods : ∀ i, i < last → listed.getD i false = true → a.tmps.getD (d i) undef = val i
  closed : ∀ i o, fm ≤ i → listed.getD i false = true → ops[i]? = some o → ∀ e ∈ o.after, Region.binds .any e = true → listed.getD e.on false = true

variable {P : Program} {ops : Array Oper} {fm last : Nat} {d : Nat → Nat} {val : Nat → Value} {skp : Nat → Bool} {W : World} {a0 : Act} {Q : Exit → Act → World → Prop}

def asBool : Value → Option Bool
  | .bool b => some b
  | _ => none

theorem yielded_at {a : Act} {j : Nat} {oj : Oper} (ho : ops[j]? = some oj) {dj : Nat} (hd : oj.dst = some dj) (hf : dj < a.tmps.size) {v : Value} (hv : a.tmps.getD dj undef = v) : yielded ops a.tmps j = asBool v := by
  unfold yielded
  rw [Array.getD_eq_getD_getElem?, Array.getElem?_eq_getElem hf] at hv
  simp only [Option.getD_some] at hv
  simp only [ho, hd, Option.bind_some, Array.getElem?_eq_getElem hf, hv]
  cases v <;> rfl

theorem Law5.wants (L : Law5 P ops fm last d val skp W a0) {a : Act} (ht : a.tmps.size = a0.tmps.size) {i : Nat} {o : Oper} (hfi : fm ≤ i) (hil : i ≤ last) (ho : ops[i]? = some o) (hdep : ∀ e ∈ o.after, Region.binds .any e = true → a.tmps.getD (d e.on) undef = val e.on) :
    Region.wanted o (yielded ops a.tmps) = !skp i := by
  rcases L.gd i o hfi hil ho with ⟨hg, hs⟩ | ⟨j, want, hg, hjl, ⟨e, he, hb, hon⟩, hc⟩
  · simp [Region.wanted, hg, hs]
  · have hv := hdep e he hb
    rw [hon] at hv
    have hjs : j < ops.size := by have := L.size; omega
    have hy := yielded_at (a := a) (Array.getElem?_eq_getElem hjs) (L.dst j _ hjl (Array.getElem?_eq_getElem hjs)) (by rw [ht]; exact L.fit j hjl) hv
    simp only [Region.wanted, hg, hy]
    rcases hc with ⟨hs, hv'⟩ | ⟨hs, hv' | hv'⟩
    · simp [hs, hv', asBool]
    · cases want <;> simp [hs, hv', asBool]
    · simp [hs, hv', undef, asBool]

theorem Inv5.next (L : Law5 P ops fm last d val skp W a0) {listed : Array Bool} {a : Act} (h : Inv5 ops fm last d val a0 listed a) {i : Nat} (hi : i ∈ Region.ready .any ops listed) (hne : i ≠ last) :
    wpOp P ops Q i (fun a' w' => w' = W ∧ Inv5 ops fm last d val a0 (listed.setIfInBounds i true) a') a W := by
  obtain ⟨hl, o, ho, hall⟩ := mem_ready.1 hi
  have hilt' : i < ops.size := (Array.getElem?_eq_some_iff.1 ho).1
  have hnl : ¬ listed.getD i false = true := (bool_flip (by rw [h.size]; exact hilt')).1 hl
  have hfi : fm ≤ i := by
    rcases Nat.lt_or_ge i fm with h' | h'
    · exact absurd (h.done i h') hnl
    · exact h'
  have hilt : i < last := by
    rcases Nat.lt_or_ge last i with h' | h'
    · obtain ⟨e, he, hb, hon⟩ := L.hold i o h' ho
      have := hall e he hb
      rw [h.late e.on hon] at this
      cases this
    · omega
  have hdep : ∀ e ∈ o.after, Region.binds .any e = true → a.tmps.getD (d e.on) undef = val e.on := fun e he hb => h.goods e.on (by have := L.before i o ho e he hb; omega) (hall e he hb)
  have hw := L.wants h.tsize hfi (Nat.le_of_lt hilt) ho hdep
  have hd := L.dst i o hilt ho
  have fin : ∀ (v : Value), v = val i → Inv5 ops fm last d val a0 (listed.setIfInBounds i true) (a.put o.dst v) := by
    intro v hv
    subst hv
    rw [hd]
    have hgs : ∀ s, s ≠ d i → (a.put (some (d i)) (val i)).tmps.getD s undef = a.tmps.getD s undef := fun s hs => by
      simp only [Act.put, Array.getD_eq_getD_getElem?]
      rw [Array.getElem?_setIfInBounds_ne (Ne.symm hs)]
    refine ⟨by simpa using h.size, fun j hj => by rw [getD_set_ne false (by omega)]; exact h.done j hj, fun j hj => by rw [getD_set_ne false (by omega)]; exact h.late j hj, h.defers, by simpa [Act.put] using h.tsize, fun s hs => by rw [hgs s (hs i hilt)]; exact h.other s hs, fun j hjl hj => ?_, fun j o' hfj hj ho' e he hb => ?_⟩
    · by_cases e : j = i
      · subst e
        have hfit := L.fit j hilt
        rw [← h.tsize] at hfit
        simp [Act.put, hfit]
      · have hjl' : listed.getD j false = true := by rw [getD_set_ne false (Ne.symm e)] at hj; exact hj
        rw [hgs (d j) (fun e' => e (L.inj j i hjl hilt e'))]
        exact h.goods j hjl hjl'
    · have hon : listed.getD e.on false = true := by
        by_cases e1 : j = i
        · subst e1
          rw [ho] at ho'
          cases ho'
          exact hall e he hb
        · rw [getD_set_ne false (Ne.symm e1)] at hj
          exact h.closed j o' hfj hj ho' e he hb
      by_cases e2 : e.on = i
      · rw [e2] at hon; exact absurd hon hnl
      · rw [getD_set_ne false (Ne.symm e2)]; exact hon
  refine wpOp_step ho fun K' hK => ?_
  rw [hw]
  cases hs : skp i with
  | false =>
    simp only [Bool.not_false, if_true]
    unfold Oper.wp
    rw [L.read i o a hfi hilt ho hs hdep h.other]
    show K' (a.put o.dst (val i)) W
    exact hK _ _ ⟨rfl, fin _ rfl⟩
  | true =>
    simp only [Bool.not_true, Bool.false_eq_true, if_false]
    exact hK _ _ ⟨rfl, fin _ (L.skipped i hfi hilt hs).symm⟩

theorem Inv5.full (L : Law5 P ops fm last d val skp W a0) {listed : Array Bool} {a : Act} (h : Inv5 ops fm last d val a0 listed a) (hl : last ∈ Region.ready .any ops listed) : ∀ i, i < last → listed.getD i false = true := by
  obtain ⟨_, o, ho, hall⟩ := mem_ready.1 hl
  have key : ∀ n i, last - i = n → fm ≤ i → i < last → listed.getD i false = true := by
    intro n
    induction n using Nat.strongRecOn with
    | ind n ih =>
      intro i hn hf hi
      obtain ⟨j, o', hij, hjl, ho', e, he, hb, hon⟩ := L.cons i hf hi
      rw [← hon]
      by_cases hj : j = last
      · subst hj
        rw [ho] at ho'; cases ho'
        exact hall e he hb
      · exact h.closed j o' (by omega) (ih (last - j) (by omega) j rfl (by omega) (by omega)) ho' e he hb
  intro i hi
  rcases Nat.lt_or_ge i fm with h' | h'
  · exact h.done i h'
  · exact key _ i rfl h' hi

theorem Inv5.stuck (L : Law5 P ops fm last d val skp W a0) {listed : Array Bool} {a : Act} (h : Inv5 ops fm last d val a0 listed a) : Region.ready .any ops listed ≠ [] := by
  intro hr
  have key : ∀ i, i ≤ last → listed.getD i false = true := by
    intro i
    induction i using Nat.strongRecOn with
    | ind i ih =>
      intro hi
      have his : i < ops.size := by have := L.size; omega
      apply Classical.byContradiction
      intro hn
      have : i ∈ Region.ready .any ops listed := by
        rw [mem_ready]
        refine ⟨(bool_flip (by rw [h.size]; exact his)).2 hn, ops[i], Array.getElem?_eq_getElem his, fun e he hb => ?_⟩
        have hlt' := L.before i ops[i] (Array.getElem?_eq_getElem his) e he hb
        exact ih e.on hlt' (by omega)
      rw [hr] at this
      cases this
  have := key last (Nat.le_refl _)
  rw [h.late last (Nat.le_refl _)] at this
  cases this

/-- What is listed once 'last' is done. -/
def upTo (n last : Nat) : Array Bool := (Array.range n).map (fun i => decide (i ≤ last))
theorem upTo_get (n last i : Nat) (h : i < n) : (upTo n last)[i]? = some (decide (i ≤ last)) := by
  unfold upTo
  rw [Array.getElem?_map, Array.getElem?_range, if_pos h]; rfl

theorem Inv5.after (L : Law5 P ops fm last d val skp W a0) {listed : Array Bool} {a : Act} (h : Inv5 ops fm last d val a0 listed a) (hf : ∀ i, i < last → listed.getD i false = true) : listed.setIfInBounds last true = upTo ops.size last := by
  have hsz : (upTo ops.size last).size = ops.size := by simp [upTo]
  apply Array.ext
  · simp [h.size, hsz]
  · intro i h1 h2
    apply Option.some.inj
    rw [← Array.getElem?_eq_getElem h1, ← Array.getElem?_eq_getElem h2]
    have his : i < ops.size := by rw [hsz] at h2; exact h2
    rw [upTo_get _ _ _ his]
    have hil : i < listed.size := by rw [h.size]; exact his
    by_cases e : i = last
    · subst e; simp [hil]
    · rw [Array.getElem?_setIfInBounds_ne (Ne.symm e), Array.getElem?_eq_getElem hil]
      rcases Nat.lt_or_ge i last with h' | h'
      · have := hf i h'
        simp only [Array.getD_eq_getD_getElem?, Array.getElem?_eq_getElem hil, Option.getD_some] at this
        simp [this]; omega
      · have := h.late i h'
        simp only [Array.getD_eq_getD_getElem?, Array.getElem?_eq_getElem hil, Option.getD_some] at this
        simp [this]; omega

theorem Law5.act (L : Law5 P ops fm last d val skp W a0) {a : Act} (hd : a.defers = a0.defers) (hs : a.tmps.size = a0.tmps.size) (ho : ∀ s, (∀ j, j < last → s ≠ d j) → a.tmps.getD s undef = a0.tmps.getD s undef) (hv : ∀ i, i < last → a.tmps.getD (d i) undef = val i) :
    a = { tmps := laid d val a0.tmps last, defers := a0.defers } := by
  obtain ⟨t, df⟩ := a
  simp only at hd hs ho hv
  subst hd
  congr 1
  apply Array.ext
  · rw [laid_size]; exact hs
  · intro s h1 h2
    apply Option.some.inj
    rw [← Array.getElem?_eq_getElem h1, ← Array.getElem?_eq_getElem h2]
    by_cases e : ∃ j, j < last ∧ s = d j
    · obtain ⟨j, hj, rfl⟩ := e
      rw [laid_on d val a0.tmps last L.inj L.fit j last (Nat.le_refl _) hj]
      have := hv j hj
      rw [Array.getD_eq_getD_getElem?, Array.getElem?_eq_getElem h1] at this
      rw [Array.getElem?_eq_getElem h1]
      simpa using this
    · have hn : ∀ j, j < last → s ≠ d j := fun j hj e' => e ⟨j, hj, e'⟩
      rw [laid_off d val a0.tmps s last hn]
      have := ho s hn
      have h3 : s < a0.tmps.size := by omega
      rw [Array.getD_eq_getD_getElem?, Array.getElem?_eq_getElem h1, Array.getD_eq_getD_getElem?, Array.getElem?_eq_getElem h3] at this
      rw [Array.getElem?_eq_getElem h1, Array.getElem?_eq_getElem h3]
      simpa using this

theorem wpAny_mid (L : Law5 P ops fm last d val skp W a0) (o : Oper) (hol : ops[last]? = some o)
    (done : o.wp P { tmps := laid d val a0.tmps last, defers := a0.defers } W (fun a' w' => ∀ f, (left ops.size (upTo ops.size last)).length ≤ f → wpAny P .any ops Q f (upTo ops.size last) a' w') Q) :
    ∀ (fuel : Nat) (listed : Array Bool) (a : Act), (left ops.size listed).length ≤ fuel → Inv5 ops fm last d val a0 listed a → wpAny P .any ops Q fuel listed a W := by
  intro fuel
  have hls := L.size
  induction fuel with
  | zero =>
    intro listed a hl h
    exfalso
    have : last ∈ left ops.size listed := by
      unfold left; rw [List.mem_filter]
      exact ⟨List.mem_range.2 hls, by
        have := (bool_flip (i := last) (by rw [h.size]; exact hls)).2 (by rw [h.late last (Nat.le_refl _)]; decide)
        simp [this]⟩
    have := List.length_pos_of_mem this
    omega
  | succ fuel ih =>
    intro listed a hl h
    refine ⟨fun hr => absurd hr (h.stuck L), fun i hi => ?_⟩
    obtain ⟨h1, o', ho', hall⟩ := mem_ready.1 hi
    have hilt : i < ops.size := (Array.getElem?_eq_some_iff.1 ho').1
    have hlt := left_lt hilt h1
    by_cases e : i = last
    · subst e
      rw [hol] at ho'; cases ho'
      have hfull := h.full L hi
      have hv : ∀ j, j < i → a.tmps.getD (d j) undef = val j := fun j hj => h.goods j hj (hfull j hj)
      have hw := L.wants h.tsize L.fml (Nat.le_refl _) hol (fun e he hb => hv e.on (L.before i o hol e he hb))
      have ha := L.act h.defers h.tsize h.other hv
      refine wpOp_step hol fun K' hK => ?_
      rw [hw, L.lastW]
      simp only [Bool.not_false, if_true]
      rw [← ha] at done
      refine Oper.wp_mono (fun a' w' hQ => hK a' w' ?_) done
      rw [h.after L hfull]
      exact hQ fuel (by rw [h.after L hfull] at hlt; omega)
    · exact wpOp_mono (fun a' w' hI => by obtain ⟨rfl, hI⟩ := hI; exact ih _ a' (by omega) hI) (h.next L hi e)

theorem wp_region_mid {id : Nat} {w : World} (hm : P.follows .mixedOrders = true) (L : Law5 P ops 0 last d val skp w.drew a0) (o : Oper) (hol : ops[last]? = some o)
    (done : o.wp P { tmps := laid d val a0.tmps last, defers := a0.defers } w.drew (fun a' w' => ∀ f, (left ops.size (upTo ops.size last)).length ≤ f → wpAny P .any ops Q f (upTo ops.size last) a' w') Q) :
    (Code.region id ops true).wp P Q a0 w := by
  refine wp_region_any hm ?_
  have hf : ∀ i, (Array.replicate ops.size false).getD i false = false := fun i => by
    rw [Array.getD_eq_getD_getElem?, Array.getElem?_replicate]
    split <;> rfl
  refine wpAny_mid L o hol done ops.size _ a0 ?_ ⟨by simp, fun i hi => by omega, fun i _ => hf i, rfl, rfl, fun _ _ => rfl, fun i _ hi => absurd hi (by rw [hf i]; decide), fun i o _ hi => absurd hi (by rw [hf i]; decide)⟩
  unfold left
  exact Nat.le_trans (List.length_filter_le _ _) (by simp)

theorem upTo_false (n last i : Nat) : (upTo n last).getD i false = decide (i ≤ last ∧ i < n) := by
  rw [Array.getD_eq_getD_getElem?]
  by_cases h : i < n
  · rw [upTo_get _ _ _ h]; simp [h]
  · rw [Array.getElem?_eq_none (by simp [upTo]; omega)]; simp [h]

/-- From one such point to the next. -/
theorem wpAny_on {p : Nat} (L : Law5 P ops (p + 1) last d val skp W a0) (o : Oper) (hol : ops[last]? = some o)
    (done : o.wp P { tmps := laid d val a0.tmps last, defers := a0.defers } W (fun a' w' => ∀ f, (left ops.size (upTo ops.size last)).length ≤ f → wpAny P .any ops Q f (upTo ops.size last) a' w') Q) :
    ∀ f, (left ops.size (upTo ops.size p)).length ≤ f → wpAny P .any ops Q f (upTo ops.size p) a0 W := by
  intro f hf
  have hls := L.size
  have hfl := L.fml
  refine wpAny_mid L o hol done f _ a0 hf ⟨by simp [upTo], fun i hi => by rw [upTo_false]; simp; omega, fun i hi => by rw [upTo_false]; simp; omega, rfl, rfl, fun _ _ => rfl, fun i hi hl => L.goods0 i (by rw [upTo_false] at hl; simp at hl; omega), fun i o hi hl => by rw [upTo_false] at hl; simp at hl; omega⟩

/-- All is done. -/
theorem wpAny_over {n : Nat} (hn : ops.size = n + 1) {a : Act} {w : World} (h : Q .normal a w) : ∀ f, (left ops.size (upTo ops.size n)).length ≤ f → wpAny P .any ops Q f (upTo ops.size n) a w := by
  intro f _
  have hr : Region.ready .any ops (upTo ops.size n) = [] := by
    apply List.eq_nil_iff_forall_not_mem.2
    intro i hi
    obtain ⟨h1, o, ho, _⟩ := mem_ready.1 hi
    have hilt : i < ops.size := (Array.getElem?_eq_some_iff.1 ho).1
    rw [Array.getD_eq_getD_getElem?, upTo_get _ _ _ hilt] at h1
    simp at h1
    omega
  cases f with
  | zero => exact ⟨hr, h⟩
  | succ f => exact ⟨fun _ => h, fun i hi => by rw [hr] at hi; cases hi⟩

/-- What may be seen of a region by looking. -/
def okM (ops : Array Oper) (fm last : Nat) (ds : List Nat) (gs : List (Option (Nat × Bool))) (size : Nat) : Bool :=
  decide (last < ops.size) && (decide (fm ≤ last) && (((List.range last).all fun i => match ops[i]? with
    | some o => o.dst == some (ds.getD i 0)
    | none => false) && (((List.range last).all fun i => (List.range last).all fun j => ds.getD i 0 != ds.getD j 0 || i == j) && (((List.range last).all fun i => decide (ds.getD i 0 < size)) &&
  (((List.range ops.size).all fun i => match ops[i]? with
    | some o => o.after.toList.all (fun e => !Region.binds .any e || decide (e.on < i))
    | none => true) &&
  (((List.range last).all fun i => decide (i < fm) || (List.range (last + 1)).any fun j => decide (i < j) && match ops[j]? with
    | some o => o.after.toList.any (fun e => Region.binds .any e && e.on == i)
    | none => false) &&
  (((List.range ops.size).all fun j => decide (j ≤ last) || match ops[j]? with
    | some o => o.after.toList.any (fun e => Region.binds .any e && decide (last ≤ e.on))
    | none => false) &&
  ((List.range (last + 1)).all fun i => decide (i < fm) || match ops[i]? with
    | some o => o.guard == gs.getD i none && (match gs.getD i none with
      | none => true
      | some g => decide (g.1 < last) && o.after.toList.any (fun e => Region.binds .any e && e.on == g.1))
    | none => false))))))))

theorem law5_of {P : Program} {ops : Array Oper} {fm last : Nat} {ds : List Nat} {gs : List (Option (Nat × Bool))} {val : Nat → Value} {skp : Nat → Bool} {W : World} {a0 : Act} (ok : okM ops fm last ds gs a0.tmps.size = true)
    (goods0 : ∀ i, i < fm → a0.tmps.getD (ds.getD i 0) undef = val i)
    (gv : ∀ i, fm ≤ i → i ≤ last → (gs.getD i none = none ∧ skp i = false) ∨ ∃ g, gs.getD i none = some g ∧ ((skp i = false ∧ val g.1 = .bool g.2) ∨ (skp i = true ∧ (val g.1 = .bool (!g.2) ∨ val g.1 = undef))))
    (lastW : skp last = false)
    (skipped : ∀ i, fm ≤ i → i < last → skp i = true → val i = undef)
    (read : ∀ (i : Nat) (o : Oper) (a : Act), fm ≤ i → i < last → ops[i]? = some o → skp i = false → (∀ e ∈ o.after, Region.binds .any e = true → a.tmps.getD (ds.getD e.on 0) undef = val e.on) →
      (∀ s, (∀ j, j < last → s ≠ ds.getD j 0) → a.tmps.getD s undef = a0.tmps.getD s undef) → (execOp a.eval o).run P W = .ok (.value (val i)) W) :
    Law5 P ops fm last (fun k => ds.getD k 0) val skp W a0 := by
  unfold okM at ok
  simp only [Bool.and_eq_true, List.all_eq_true, List.mem_range, decide_eq_true_eq, Bool.or_eq_true] at ok
  obtain ⟨k1, k2, k3, k4, k5, k6, k7, k8, k9⟩ := ok
  refine ⟨k1, k2, ?_, ?_, k5, ?_, ?_, ?_, goods0, ?_, lastW, skipped, read⟩
  · intro i o hi ho
    have := k3 i hi
    rw [ho] at this
    simpa using this
  · intro i j hi hj e
    have := k4 i hi j hj
    simp only [bne_iff_ne, beq_iff_eq] at this
    exact this.resolve_left (fun q => q e)
  · intro i o ho e he hb
    have hi : i < ops.size := (Array.getElem?_eq_some_iff.1 ho).1
    have := k6 i hi
    rw [ho] at this
    simp only [List.all_eq_true, Bool.or_eq_true, Bool.not_eq_true', decide_eq_true_eq] at this
    rcases this e (by simpa using he) with h1 | h1
    · rw [hb] at h1; cases h1
    · exact h1
  · intro i hf hi
    rcases k7 i hi with h | h
    · omega
    · simp only [List.any_eq_true, List.mem_range, Bool.and_eq_true, decide_eq_true_eq] at h
      obtain ⟨j, hj, hij, hm⟩ := h
      cases ho : ops[j]? with
      | none => rw [ho] at hm; simp at hm
      | some o =>
        rw [ho] at hm
        simp only [List.any_eq_true, Bool.and_eq_true, beq_iff_eq] at hm
        obtain ⟨e, he, hb, hon⟩ := hm
        exact ⟨j, o, hij, by omega, ho, e, by simpa using he, hb, hon⟩
  · intro j o hj ho
    have hjs : j < ops.size := (Array.getElem?_eq_some_iff.1 ho).1
    rcases k8 j hjs with h | h
    · omega
    · rw [ho] at h
      simp only [List.any_eq_true, Bool.and_eq_true, decide_eq_true_eq] at h
      obtain ⟨e, he, hb, hon⟩ := h
      exact ⟨e, by simpa using he, hb, hon⟩
  · intro i o hf hi ho
    rcases k9 i (by omega) with h | h
    · omega
    · rw [ho] at h
      simp only [Bool.and_eq_true, beq_iff_eq] at h
      obtain ⟨hg, hm⟩ := h
      rcases gv i hf hi with ⟨hn, hs⟩ | ⟨g, hn, hs⟩
      · exact .inl ⟨by rw [hg, hn], hs⟩
      · rw [hn] at hm hg
        simp only [Bool.and_eq_true, decide_eq_true_eq, List.any_eq_true, beq_iff_eq] at hm
        obtain ⟨h1, e, he, hb, hon⟩ := hm
        exact .inr ⟨g.1, g.2, hg, h1, ⟨e, by simpa using he, hb, hon⟩, hs⟩
end Go.Proofs.Qxb6616238a.Grow
