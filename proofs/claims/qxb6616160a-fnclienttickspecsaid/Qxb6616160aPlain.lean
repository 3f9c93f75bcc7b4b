/-
  Plain laws of a binary heap of keys kept in a list: no Go here.
-/
namespace Go.Proofs.Qxb6616160a.Tick

/-- Every key is at least its parent's. -/
def HeapOK (key : Nat → Int) (n : Nat) : Prop := ∀ k, 0 < k → k < n → key ((k - 1) / 2) ≤ key k

/-- The heap's order but for the key at j, which may be too small. -/
def UpInv (key : Nat → Int) (n j : Nat) : Prop :=
  (∀ k, 0 < k → k < n → k ≠ j → key ((k - 1) / 2) ≤ key k) ∧
  (∀ k, 0 < k → k < n → (k - 1) / 2 = j → 0 < j → key ((j - 1) / 2) ≤ key k)

/-- The heap's order but for the key at i, which may be too great. -/
def DownInv (key : Nat → Int) (n i : Nat) : Prop :=
  (∀ k, 0 < k → k < n → (k - 1) / 2 ≠ i → key ((k - 1) / 2) ≤ key k) ∧
  (∀ k, 0 < k → k < n → (k - 1) / 2 = i → 0 < i → key ((i - 1) / 2) ≤ key k)

def swapf (key : Nat → Int) (i j k : Nat) : Int := if k = i then key j else if k = j then key i else key k

theorem up_stop0 {key : Nat → Int} {n : Nat} (h : UpInv key n 0) : HeapOK key n :=
  fun k h0 hn => h.1 k h0 hn (by omega)

theorem up_stop {key : Nat → Int} {n j : Nat} (h : UpInv key n j) (hk : key ((j - 1) / 2) ≤ key j) : HeapOK key n := by
  intro k h0 hn
  by_cases e : k = j
  · rw [e]; exact hk
  · exact h.1 k h0 hn e

theorem up_step {key : Nat → Int} {n j : Nat} (h : UpInv key n j) (h0 : 0 < j) (hj : j < n) (hk : key j < key ((j - 1) / 2)) :
    UpInv (swapf key ((j - 1) / 2) j) n ((j - 1) / 2) := by
  have hpj : (j - 1) / 2 < j := by omega
  generalize hp : (j - 1) / 2 = p at *
  refine ⟨?_, ?_⟩
  · intro k k0 kn kp
    unfold swapf
    by_cases e : k = j
    · subst e
      rw [hp, if_pos rfl, if_neg (by omega), if_pos rfl]
      omega
    · rw [if_neg kp, if_neg e]
      by_cases e1 : (k - 1) / 2 = p
      · rw [if_pos e1]
        have := h.1 k k0 kn e
        rw [e1] at this
        omega
      · rw [if_neg e1]
        by_cases e2 : (k - 1) / 2 = j
        · rw [if_pos e2]
          have := h.2 k k0 kn e2 h0
          rw [hp] at this
          exact this
        · rw [if_neg e2]
          exact h.1 k k0 kn e
  · intro k k0 kn kp p0
    unfold swapf
    have hpp : (p - 1) / 2 < p := by omega
    rw [if_neg (by omega), if_neg (by omega)]
    by_cases e : k = j
    · subst e
      rw [if_neg (by omega), if_pos rfl]
      exact h.1 p p0 (by omega) (by omega)
    · rw [if_neg (by omega), if_neg e]
      have a := h.1 p p0 (by omega) (by omega)
      have b := h.1 k k0 kn e
      rw [kp] at b
      omega

theorem down_stop {key : Nat → Int} {n i : Nat} (h : DownInv key n i)
    (hc : ∀ k, 0 < k → k < n → (k - 1) / 2 = i → key i ≤ key k) : HeapOK key n := by
  intro k h0 hn
  by_cases e : (k - 1) / 2 = i
  · rw [e]; exact hc k h0 hn e
  · exact h.1 k h0 hn e

theorem down_step {key : Nat → Int} {n i j : Nat} (h : DownInv key n i) (hj : j < n) (j0 : 0 < j) (hp : (j - 1) / 2 = i)
    (hk : key j < key i) (hb : ∀ k, 0 < k → k < n → (k - 1) / 2 = i → key j ≤ key k) :
    DownInv (swapf key i j) n j := by
  refine ⟨?_, ?_⟩
  · intro k k0 kn kp
    unfold swapf
    by_cases e : k = i
    · subst e
      rw [if_pos rfl, if_neg (by omega), if_neg kp]
      exact h.2 j j0 hj hp k0
    · rw [if_neg e]
      by_cases e1 : (k - 1) / 2 = i
      · rw [if_pos e1]
        by_cases e2 : k = j
        · rw [if_pos e2]; omega
        · rw [if_neg e2]; exact hb k k0 kn e1
      · rw [if_neg e1, if_neg kp]
        by_cases e2 : k = j
        · subst e2; exact absurd hp e1
        · rw [if_neg e2]; exact h.1 k k0 kn e1
  · intro k k0 kn kp _
    unfold swapf
    rw [hp, if_pos rfl]
    have hji : j ≠ i := by omega
    have hki : k ≠ i := by omega
    have hkj : k ≠ j := by omega
    rw [if_neg hki, if_neg hkj]
    have := h.1 k k0 kn (by omega)
    rw [kp] at this
    exact this

theorem heap_min {key : Nat → Int} {n : Nat} (h : HeapOK key n) : ∀ m k, k ≤ m → k < n → key 0 ≤ key k := by
  intro m
  induction m with
  | zero => intro k hk hn; have : k = 0 := by omega
            rw [this]; exact Int.le_refl _
  | succ m ih =>
    intro k hk hn
    by_cases e : k = 0
    · rw [e]; exact Int.le_refl _
    · have a := h k (by omega) hn
      have b := ih ((k - 1) / 2) (by omega) (by omega)
      omega

theorem up_start {key : Nat → Int} {n : Nat} (h : HeapOK key n) : UpInv key (n + 1) n :=
  ⟨fun k k0 kn kj => h k k0 (by omega), fun k k0 kn kp h0 => by omega⟩

theorem down_start {key : Nat → Int} {n : Nat} (h : HeapOK key (n + 1)) : DownInv (swapf key 0 n) n 0 := by
  refine ⟨?_, fun k k0 kn kp h0 => by omega⟩
  intro k k0 kn kp
  unfold swapf
  rw [if_neg kp, if_neg (by omega), if_neg (by omega), if_neg (by omega)]
  exact h k k0 (by omega)

theorem HeapOK.congr {key key' : Nat → Int} {n : Nat} (h : HeapOK key n) (e : ∀ k, k < n → key' k = key k) : HeapOK key' n := by
  intro k k0 kn
  rw [e k kn, e _ (by omega)]
  exact h k k0 kn
theorem UpInv.congr {key key' : Nat → Int} {n j : Nat} (h : UpInv key n j) (hj : j < n) (e : ∀ k, k < n → key' k = key k) : UpInv key' n j := by
  refine ⟨fun k k0 kn kj => ?_, fun k k0 kn kp j0 => ?_⟩
  · rw [e k kn, e _ (by omega)]; exact h.1 k k0 kn kj
  · rw [e k kn, e _ (by omega)]; exact h.2 k k0 kn kp j0
theorem DownInv.congr {key key' : Nat → Int} {n i : Nat} (h : DownInv key n i) (hi : i < n) (e : ∀ k, k < n → key' k = key k) : DownInv key' n i := by
  refine ⟨fun k k0 kn kj => ?_, fun k k0 kn kp j0 => ?_⟩
  · rw [e k kn, e _ (by omega)]; exact h.1 k k0 kn kj
  · rw [e k kn, e _ (by omega)]; exact h.2 k k0 kn kp j0

/-! ### A client, and lists of them -/
structure Cl where
  blk : Nat
  id : ByteArray
  last : Int

def keyOf (H : List Cl) (k : Nat) : Int := ((H[k]?).map Cl.last).getD 0

theorem keyOf_lt {H : List Cl} {k : Nat} (h : k < H.length) : keyOf H k = H[k].last := by simp [keyOf, h]

def swapL (H : List Cl) (i j : Nat) : List Cl :=
  match H[i]?, H[j]? with
  | some a, some b => (H.set i b).set j a
  | _, _ => H

theorem swapL_eq {H : List Cl} {i j : Nat} (hi : i < H.length) (hj : j < H.length) : swapL H i j = (H.set i H[j]).set j H[i] := by
  simp [swapL, hi, hj]

theorem swapL_length (H : List Cl) (i j : Nat) : (swapL H i j).length = H.length := by
  unfold swapL
  split <;> simp

theorem swapL_perm {H : List Cl} {i j : Nat} (hi : i < H.length) (hj : j < H.length) : (swapL H i j).Perm H := by
  rw [swapL_eq hi hj]; exact List.set_set_perm hi hj

theorem swapL_get {H : List Cl} {i j : Nat} (hi : i < H.length) (hj : j < H.length) (k : Nat) :
    (swapL H i j)[k]? = if k = j then some H[i] else if k = i then some H[j] else H[k]? := by
  rw [swapL_eq hi hj, List.getElem?_set, List.getElem?_set]
  simp only [List.length_set]
  by_cases e : j = k
  · subst e; simp [hj]
  · have e' : ¬ k = j := fun h => e h.symm
    by_cases e2 : i = k
    · subst e2; simp [hi, e, e']
    · have e2' : ¬ k = i := fun h => e2 h.symm
      simp [e, e', e2, e2']

theorem swapL_key {H : List Cl} {i j : Nat} (hi : i < H.length) (hj : j < H.length) (k : Nat) : keyOf (swapL H i j) k = swapf (keyOf H) i j k := by
  unfold keyOf swapf
  rw [swapL_get hi hj]
  by_cases e : k = j
  · by_cases e2 : k = i
    · have : i = j := by omega
      subst this; subst e; simp [hi]
    · have e3 : ¬ j = i := by omega
      simp [e, e3, hi]
  · by_cases e2 : k = i
    · subst e2; simp [e, hj]
    · simp [e, e2]

end Go.Proofs.Qxb6616160a.Tick
