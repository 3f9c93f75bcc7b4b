import Derived.Test.Qxb6616238aInst2
import Derived.Test.Qxb6616238aLast
namespace Go.Proofs.Qxb6616238a.Grow
set_option linter.unusedVariables false
set_option linter.unusedSimpArgs false
set_option maxRecDepth 100000
open Go.ChangeShapes Go.WideShapes Go.ChangeAt Go.RowKit

theorem ex_nil {P : Program} (ρ : Operand → Value) (o : Oper) (x : Operand) (a : Addr) (w : World) (h : o.op = .nilCheck x) (hx : ρ x = .pointer (some a)) : (execOp ρ o).run P w = .ok (.value (.pointer (some a))) w := by
  simp [execOp, h, hx]
theorem ex_field88_0 (ρ : Operand → Value) (o : Oper) (x : Operand) (b : Nat) (w : World) (h : o.op = .fieldAddr 88 x 0) (hx : ρ x = .pointer (some ⟨b, 0, none⟩)) : (execOp ρ o).run Try.prog w = .ok (.value (.pointer (some ⟨b, 0, none⟩))) w := by
  simp [execOp, h, hx]
  go_simp
theorem ex_field69_14 (ρ : Operand → Value) (o : Oper) (x : Operand) (b : Nat) (w : World) (h : o.op = .fieldAddr 69 x 14) (hx : ρ x = .pointer (some ⟨b, 0, none⟩)) : (execOp ρ o).run Try.prog w = .ok (.value (.pointer (some ⟨b, 14, none⟩))) w := by
  simp [execOp, h, hx]
  go_simp
theorem ex_load26 (ρ : Operand → Value) (o : Oper) (x : Operand) (a : Addr) (w : World) (v : Value) (h : o.op = .load 26 x) (hx : ρ x = .pointer (some a)) (hc : w.cell? a = some v) : (execOp ρ o).run Try.prog w = .ok (.value v) w := by
  simp [execOp, h, hx]
  go_simp
theorem ex_load60 (ρ : Operand → Value) (o : Oper) (x : Operand) (a : Addr) (w : World) (v : Value) (h : o.op = .load 60 x) (hx : ρ x = .pointer (some a)) (hc : w.cell? a = some v) : (execOp ρ o).run Try.prog w = .ok (.value v) w := by
  simp [execOp, h, hx]
  go_simp
theorem ex_store60 (ρ : Operand → Value) (o : Oper) (x y : Operand) (a : Addr) (w : World) (v0 : Value) (b : Option Addr) (n c : Nat) (h : o.op = .store 60 x y) (hx : ρ x = .pointer (some a)) (hy : ρ y = .slice b n c) (hc : w.cell? a = some v0) (hf : w.frozen? a = false) : (execOp ρ o).run Try.prog w = .ok .skip (w.setCell a (.slice b n c)) := by
  simp [execOp, h, hx, hy]
  go_simp
theorem built95p (t i r : Int) : Try.prog.built 95 [(0, .int .u8 t), (4, .int .i64 i), (7, .int .i64 r)] = some ((pc (t, i, r)).take 21).toArray := by kernel_rfl
theorem built104p (t i r : Int) : Try.prog.built 104 [(0, .agg ((pc (t, i, r)).take 21).toArray)] = some (pc (t, i, r)).toArray := by kernel_rfl
theorem run_slice60 (p : Int × Int × Int) (w : World) : (Instr.buildSlice 60 1 #[(0, .agg (pc p).toArray)]).run Try.prog w = .ok (.slice (some ⟨w.heap.size, 0, none⟩) 1 1) (w.alloc (.cells (pc p).toArray 104)) := by
  obtain ⟨t, i, r⟩ := p
  kernel_rfl
theorem ex_slice60 (ρ : Operand → Value) (o : Oper) (x : Operand) (p : Int × Int × Int) (w : World) (h : o.op = .buildSlice 60 1 #[(0, x)]) (hx : ρ x = .agg (pc p).toArray) : (execOp ρ o).run Try.prog w = .ok (.value (.slice (some ⟨w.heap.size, 0, none⟩) 1 1)) (w.alloc (.cells (pc p).toArray 104)) := by
  simp [execOp, h, hx, run_slice60]
theorem ex_append {P : Program} (ρ : Operand → Value) (o : Oper) (s x : Operand) (t u : TypeId) (vs vx v' : Value) (w w' : World) (h : o.op = .call { callee := .builtin .append, args := #[s, x], argTypes := #[t, u] }) (hs : ρ s = vs) (hx : ρ x = vx) (hr : (Builtin.append_ #[t, u] o.type #[vs, vx]).run P w = .ok v' w') : (execOp ρ o).run P w = .ok (.value v') w' := by
  unfold execOp
  simp only [h, resolve, invoke, builtin, Sem.run_bind, Sem.run_pure, Result.andThen_ok, List.map_toArray, List.map_cons, List.map_nil, hs, hx, hr]

/-- What may be seen of a region by looking. -/
def okL (ops : Array Oper) (last : Nat) (ds : List Nat) (size : Nat) : Bool :=
  (ops.size == last + 1) && ((List.range last).all fun i => match ops[i]? with
    | some o => o.guard.isNone && o.dst == some (ds.getD i 0)
    | none => false) && (match ops[last]? with
    | some o => o.guard.isNone
    | none => false) && ((List.range last).all fun i => (List.range last).all fun j => ds.getD i 0 != ds.getD j 0 || i == j) && ((List.range last).all fun i => decide (ds.getD i 0 < size)) &&
  ((List.range (last + 1)).all fun i => match ops[i]? with
    | some o => o.after.all (fun e => !Region.binds .any e || decide (e.on < i))
    | none => true) &&
  ((List.range last).all fun i => (List.range (last + 1)).any fun j => decide (i < j) && match ops[j]? with
    | some o => o.after.toList.any (fun e => Region.binds .any e && e.on == i)
    | none => false)

theorem okL_size {ops : Array Oper} {last : Nat} {ds : List Nat} {size : Nat} (h : okL ops last ds size = true) : ops.size = last + 1 := by
  unfold okL at h
  simp only [Bool.and_eq_true, beq_iff_eq] at h
  exact h.1.1.1.1.1.1
theorem okL_plain {ops : Array Oper} {last : Nat} {ds : List Nat} {size : Nat} (h : okL ops last ds size = true) : ∀ i o, i < last → ops[i]? = some o → o.guard = none ∧ o.dst = some (ds.getD i 0) := by
  unfold okL at h
  simp only [Bool.and_eq_true, List.all_eq_true, List.mem_range] at h
  intro i o hi ho
  have := h.1.1.1.1.1.2 i hi
  rw [ho] at this
  simp only [Bool.and_eq_true, Option.isNone_iff_eq_none, beq_iff_eq] at this
  exact this
theorem okL_last {ops : Array Oper} {last : Nat} {ds : List Nat} {size : Nat} (h : okL ops last ds size = true) : ∀ o, ops[last]? = some o → o.guard = none := by
  unfold okL at h
  simp only [Bool.and_eq_true] at h
  intro o ho
  have := h.1.1.1.1.2
  rw [ho] at this
  simpa using this
theorem okL_inj {ops : Array Oper} {last : Nat} {ds : List Nat} {size : Nat} (h : okL ops last ds size = true) : ∀ i j, i < last → j < last → ds.getD i 0 = ds.getD j 0 → i = j := by
  unfold okL at h
  simp only [Bool.and_eq_true, List.all_eq_true, List.mem_range] at h
  intro i j hi hj e
  have := h.1.1.1.2 i hi j hj
  simp only [Bool.or_eq_true, bne_iff_ne, beq_iff_eq] at this
  exact this.resolve_left (fun q => q e)
theorem okL_fit {ops : Array Oper} {last : Nat} {ds : List Nat} {size : Nat} (h : okL ops last ds size = true) : ∀ i, i < last → ds.getD i 0 < size := by
  unfold okL at h
  simp only [Bool.and_eq_true, List.all_eq_true, List.mem_range] at h
  intro i hi
  simpa using h.1.1.2 i hi
theorem okL_before {ops : Array Oper} {last : Nat} {ds : List Nat} {size : Nat} (h : okL ops last ds size = true) : ∀ i o, ops[i]? = some o → ∀ e ∈ o.after, Region.binds .any e = true → e.on < i := by
  have hs := okL_size h
  unfold okL at h
  simp only [Bool.and_eq_true, List.all_eq_true, List.mem_range] at h
  intro i o ho e he hb
  have hi : i < ops.size := (Array.getElem?_eq_some_iff.1 ho).1
  have := h.1.2 i (by omega)
  rw [ho] at this
  simp only [Array.all_eq_true_iff_forall_mem, Bool.or_eq_true, Bool.not_eq_true', decide_eq_true_eq] at this
  rcases this e he with h1 | h1
  · rw [hb] at h1; cases h1
  · exact h1
theorem okL_cons {ops : Array Oper} {last : Nat} {ds : List Nat} {size : Nat} (h : okL ops last ds size = true) : ∀ i, i < last → ∃ j o, i < j ∧ ops[j]? = some o ∧ ∃ e ∈ o.after, Region.binds .any e = true ∧ e.on = i := by
  unfold okL at h
  simp only [Bool.and_eq_true, List.all_eq_true, List.mem_range, List.any_eq_true, decide_eq_true_eq] at h
  intro i hi
  obtain ⟨j, hj, hij, hm⟩ := h.2 i hi
  cases ho : ops[j]? with
  | none => rw [ho] at hm; simp at hm
  | some o =>
    rw [ho] at hm
    simp only [List.any_eq_true, Bool.and_eq_true, beq_iff_eq] at hm
    obtain ⟨e, he, hb, hon⟩ := hm
    exact ⟨j, o, hij, ho, e, by simpa using he, hb, hon⟩

theorem law3_of {P : Program} {ops : Array Oper} {last : Nat} {ds : List Nat} {val : Nat → Value} {eff : Nat → Option Nat} {m : Nat} {W : Nat → World} {a0 : Act} (ok : okL ops last ds a0.tmps.size = true)
    (lt : ∀ i j, eff i = some j → j < m ∧ i < last)
    (chain : ∀ i o j, ops[i]? = some o → eff i = some (j + 1) → ∃ e ∈ o.after, Region.binds .any e = true ∧ eff e.on = some j)
    (all : ∀ j, j < m → ∃ i, eff i = some j)
    (effInj : ∀ i i' j, eff i = some j → eff i' = some j → i = i')
    (read : ∀ (i : Nat) (o : Oper) (a : Act) (k : Nat), i < last → ops[i]? = some o → eff i = none → k ≤ m → (∀ e ∈ o.after, Region.binds .any e = true → a.tmps.getD (ds.getD e.on 0) undef = val e.on) →
      (∀ s, (∀ j, j < last → s ≠ ds.getD j 0) → a.tmps.getD s undef = a0.tmps.getD s undef) → (execOp a.eval o).run P (W k) = .ok (.value (val i)) (W k))
    (turn : ∀ (i : Nat) (o : Oper) (a : Act) (j : Nat), ops[i]? = some o → eff i = some j → (∀ e ∈ o.after, Region.binds .any e = true → a.tmps.getD (ds.getD e.on 0) undef = val e.on) →
      (∀ s, (∀ j, j < last → s ≠ ds.getD j 0) → a.tmps.getD s undef = a0.tmps.getD s undef) → (execOp a.eval o).run P (W j) = .ok (.value (val i)) (W (j + 1))) :
    Law3 P ops last (fun k => ds.getD k 0) val eff m W a0 :=
  ⟨okL_size ok, okL_plain ok, okL_last ok, okL_inj ok, okL_fit ok, okL_before ok, okL_cons ok, lt, chain, all, effInj, read, turn⟩

/-- The waiting messages' row grown by one and laid into the state. -/
theorem InstP.pushP {B ib nb : Nat} {ci cn : Array Value} {ev pv : Value} {num seen lift : Int} {ts : List Pl} {ps : List (Int × Int × Int)} {w w1 w2 : World} (h : InstP B ib nb ci cn ev pv num seen lift ts ps w) (hx : Ext w w1) {g cap : Nat} {p : Int × Int × Int}
    (hown : w2.ownsRow B 104 23 (.slice (some ⟨g, 0, none⟩) (ps.length + 1) cap) (ps.length + 1) (ps.flatMap pc ++ pc p)) (hgrow : w1.grownBy w2 pv.ownBlock) (hat : pv.ownBlock = some g ∨ g = w1.heap.size) :
    InstP B ib nb ci (cn.setIfInBounds 14 (.slice (some ⟨g, 0, none⟩) (ps.length + 1) cap)) ev (.slice (some ⟨g, 0, none⟩) (ps.length + 1) cap) num seen lift ts (ps ++ [p]) (w2.setCell ⟨nb, 14, none⟩ (.slice (some ⟨g, 0, none⟩) (ps.length + 1) cap)) := by
  have hxs := hx.size
  have hgs := hgrow.size
  have i1 := h.iSz
  have n1 := h.nSz
  have k2 : ∀ k, k < w.heap.size → some k ≠ pv.ownBlock → w2.heap[k]? = w.heap[k]? := fun k hk hne => by
    rw [hgrow.block k (by omega) hne]; exact Below.block hx k hk
  have hn2 : w2.heap[nb]? = some (.cells cn 69 (0, 0)) := by rw [k2 nb n1 (fun e => h.pn e.symm)]; exact h.hn
  have hgn : g ≠ nb := by
    rcases hat with hat | hat
    · exact fun e => h.pn (by rw [← e]; exact hat)
    · omega
  have hob : ∀ (x : Nat), Value.ownBlock (.slice (some ⟨g, 0, none⟩) (ps.length + 1) cap) = some x ↔ g = x := by simp [Value.ownBlock]
  have hoth : ∀ k, k ≠ nb → (w2.setCell ⟨nb, 14, none⟩ (.slice (some ⟨g, 0, none⟩) (ps.length + 1) cap)).heap[k]? = w2.heap[k]? := fun k hk => heap_setCell_other w2 ⟨nb, 14, none⟩ k _ hk
  refine h.upd (by simp; omega) (by rw [hoth ib h.ne, k2 ib i1 (fun e => h.pi e.symm)]; exact h.hi) h.cz rfl rfl h.c5 h.c8 h.c12 (heap_setCell_same w2 nb 14 cn 69 _ hn2) (by simp [h.nz]) (set_get_eq _ (by rw [h.nz]; decide)) ?_ ?_ ?_ (.inl rfl) ?_ ?_ ?_
  · intro k hk h1 h2 h3 h4
    rw [hoth k h2]; exact k2 k hk h4
  · refine own_kept h.he (fun x hx => ?_)
    have hxi : x ≠ nb := fun e => h.en (by rw [← e]; exact hx)
    rw [hoth x hxi]
    exact k2 x (h.he.lt x hx).2 (fun e => h.ep x hx e.symm)
  · have e1 : (ps ++ [p]).length = ps.length + 1 := by simp
    have e2 : (ps ++ [p]).flatMap pc = ps.flatMap pc ++ pc p := by simp
    rw [e1, e2]
    exact own_kept hown (fun x hx => by rw [hob] at hx; subst hx; exact hoth g hgn)
  · rcases hat with hat | hat
    · exact .inl (by rw [hat]; rfl)
    · exact .inr (fun x hx => by rw [hob] at hx; omega)
  · intro x hx e
    rw [hob] at e; subst e
    rcases hat with hat | hat
    · exact h.ep g hx hat
    · have := (h.he.lt g hx).2; omega
  · exact fun b r hb => .inl hb

def ds35 : List Nat := [8, 9, 10, 11, 12, 13, 14, 15, 16, 17, 18, 19, 20, 21, 22, 23, 24, 25, 26, 27]
def val35 (ib nb hs g n cap : Nat) (pv : Value) (t i r : Int) (k : Nat) : Value :=
  match k with
  | 0 | 1 | 2 | 4 | 5 | 6 => .pointer (some ⟨ib, 0, none⟩)
  | 3 | 7 | 8 | 18 => .pointer (some ⟨nb, 0, none⟩)
  | 9 | 19 => .pointer (some ⟨nb, 14, none⟩)
  | 10 => pv
  | 11 => .int .u8 t
  | 12 => .int .i64 i
  | 13 => .int .i64 r
  | 14 => .agg ((pc (t, i, r)).take 21).toArray
  | 15 => .agg (pc (t, i, r)).toArray
  | 16 => .slice (some ⟨hs, 0, none⟩) 1 1
  | 17 => .slice (some ⟨g, 0, none⟩) n cap
  | _ => undef
def eff35 (k : Nat) : Option Nat := if k = 16 then some 0 else if k = 17 then some 1 else none
theorem eff35_cases {i j : Nat} (h : eff35 i = some j) : (i = 16 ∧ j = 0) ∨ (i = 17 ∧ j = 1) := by
  unfold eff35 at h
  split at h
  · simp at h; omega
  · split at h
    · simp at h; omega
    · cases h
def W35 (w w2 : World) (p : Int × Int × Int) (k : Nat) : World :=
  match k with
  | 0 => w.drew
  | 1 => w.drew.alloc (.cells (pc p).toArray 104)
  | _ => w2

set_option maxHeartbeats 2000000 in
theorem addPending_any (B ib nb : Nat) (ci cn : Array Value) (ev pv : Value) (num seen lift : Int) (ts : List Pl) (ps : List (Int × Int × Int)) (w : World) (h : InstP B ib nb ci cn ev pv num seen lift ts ps w) (hl : ps.length ≤ 65536) (t i r : Int) :
    Calls Try.prog 35 #[.pointer (some ⟨ib, 0, none⟩), .int .u8 t, .int .i64 i, .int .i64 r] w fun e w' => e = .returned (.tuple #[]) ∧ ∃ cn' pv', InstP B ib nb ci cn' ev pv' num seen lift ts (ps ++ [(t, i, r)]) w' ∧ Below B w w' := by
  obtain ⟨i0, hi, hz0, hz1, hz2⟩ := info_parts info104
  have hBs : B ≤ w.heap.size := Nat.le_trans h.iB (Nat.le_of_lt h.iSz)
  have hd := h.kept (w' := w.drew) (Nat.le_refl _) (fun _ _ => rfl)
  have hxa : Ext w.drew (w.drew.alloc (.cells (pc (t, i, r)).toArray 104)) := Ext.alloc _ _
  obtain ⟨g, cap, w2, hr, hown, hgrow, hat, hlt⟩ := run_append_lies (P := Try.prog) (w.drew.alloc (.cells (pc (t, i, r)).toArray 104)) 60 60 B 104 i0 (.agg (pc (0, 0, 0)).toArray) 23 248 Try.underlying60 hi hz0 hz1 hz2 rfl (by decide) pv ps.length (ps.flatMap pc) (hd.hp.alloc _) ⟨w.heap.size, 0, none⟩ 1 1 (pc (t, i, r)) rfl (fun j u hj => World.news_of_block (heap_alloc_new w.drew _) j u (by simpa using hj)) (pc_one _) (by decide) (by unfold maxLen; omega) (by omega) (by simp; omega) (w.heap.size + 1) (by simp)
  have HI := hd.pushP hxa hown hgrow (by simpa using hat)
  have hx2 : Below B w w2 := (((Below.refl B w).drew).alloc (by simpa using hBs) _).grown hgrow (by simp; omega) (fun k hk => (h.hp.lt k hk).1)
  have HB : Below B w (w2.setCell ⟨nb, 14, none⟩ (.slice (some ⟨g, 0, none⟩) (ps.length + 1) cap)) := Below.setCell hx2 h.nB _
  have i1 := h.iSz
  have n1 := h.nSz
  have hi1 : (w.drew.alloc (.cells (pc (t, i, r)).toArray 104)).heap[ib]? = some (.cells ci 88 (0, 0)) := by rw [heap_alloc_old _ _ (by simpa using i1)]; exact hd.hi
  have hn1 : (w.drew.alloc (.cells (pc (t, i, r)).toArray 104)).heap[nb]? = some (.cells cn 69 (0, 0)) := by rw [heap_alloc_old _ _ (by simpa using n1)]; exact hd.hn
  have hi2 : w2.heap[ib]? = some (.cells ci 88 (0, 0)) := by rw [hgrow.block ib (by simp; omega) (fun e => h.pi e.symm)]; exact hi1
  have hn2 : w2.heap[nb]? = some (.cells cn 69 (0, 0)) := by rw [hgrow.block nb (by simp; omega) (fun e => h.pn e.symm)]; exact hn1
  have h0 : ∀ k, k ≤ 2 → (W35 w w2 (t, i, r) k).cell? ⟨ib, 0, none⟩ = some (.pointer (some ⟨nb, 0, none⟩)) := by
    intro k hk
    match k with
    | 0 => rw [← h.c0]; exact hd.icell 0
    | 1 => rw [← h.c0]; exact cell_of_row _ ib 0 ci _ _ hi1
    | 2 => rw [← h.c0]; exact cell_of_row _ ib 0 ci _ _ hi2
  have h14 : ∀ k, k ≤ 2 → (W35 w w2 (t, i, r) k).cell? ⟨nb, 14, none⟩ = some pv := by
    intro k hk
    match k with
    | 0 => rw [← h.n14]; exact hd.ncell 14
    | 1 => rw [← h.n14]; exact cell_of_row _ nb 14 cn _ _ hn1
    | 2 => rw [← h.n14]; exact cell_of_row _ nb 14 cn _ _ hn2
  have hc2 : w2.cell? ⟨nb, 14, none⟩ = some pv := h14 2 (by decide)
  have hf2 : w2.frozen? ⟨nb, 14, none⟩ = false := frozen_of_row w2 nb 14 cn _ hn2
  clear hi1 hn1 hi2 hn2 hgrow hown hat
  go_enter Try.func35, Try.ntmps35
  refine wp_region_last (last := 20) (d := fun k => ds35.getD k 0) (val := val35 ib nb w.heap.size g (ps.length + 1) cap pv t i r) (eff := eff35) (m := 2) (W := W35 w w2 (t, i, r)) (by kernel_rfl) ?_ rfl ?_
  · refine law3_of (ds := ds35) (by kernel_rfl) ?_ ?_ ?_ ?_ ?_ ?_
    · intro i j hj
      rcases eff35_cases hj with ⟨rfl, rfl⟩ | ⟨rfl, rfl⟩ <;> decide
    · intro i o j ho hj
      rcases eff35_cases hj with ⟨rfl, hj'⟩ | ⟨rfl, hj'⟩
      · omega
      · obtain rfl : j = 0 := by omega
        simp at ho; subst ho
        exact ⟨{ on := 16, ground := .data }, by simp, rfl, rfl⟩
    · intro j hj
      match j, hj with
      | 0, _ => exact ⟨16, rfl⟩
      | 1, _ => exact ⟨17, rfl⟩
    · intro i i' j hj hj'
      rcases eff35_cases hj with ⟨rfl, rfl⟩ | ⟨rfl, rfl⟩ <;> rcases eff35_cases hj' with ⟨rfl, h2⟩ | ⟨rfl, h2⟩ <;> omega
    · intro i' o a k hlt ho he hk hpre hoth
      match i', ho, hlt with
      | 0, ho, hlt =>
        simp at ho; subst ho
        exact (ex_move _ _ (.tmp 0) _ (.inl rfl)).trans (by rw [show Act.eval a (.tmp 0) = _ from hoth 0 (by decide)]; rfl)
      | 1, ho, hlt =>
        simp at ho; subst ho
        exact ex_nil _ _ (.tmp 8) _ _ rfl (hpre { on := 0, ground := .data } (by simp) rfl)
      | 2, ho, hlt =>
        simp at ho; subst ho
        exact ex_field88_0 _ _ (.tmp 9) _ _ rfl (hpre { on := 1, ground := .data } (by simp) rfl)
      | 3, ho, hlt =>
        simp at ho; subst ho
        exact ex_load26 _ _ (.tmp 10) _ _ _ rfl (hpre { on := 2, ground := .data } (by simp) rfl) (h0 k hk)
      | 4, ho, hlt =>
        simp at ho; subst ho
        exact (ex_move _ _ (.tmp 0) _ (.inl rfl)).trans (by rw [show Act.eval a (.tmp 0) = _ from hoth 0 (by decide)]; rfl)
      | 5, ho, hlt =>
        simp at ho; subst ho
        exact ex_nil _ _ (.tmp 12) _ _ rfl (hpre { on := 4, ground := .data } (by simp) rfl)
      | 6, ho, hlt =>
        simp at ho; subst ho
        exact ex_field88_0 _ _ (.tmp 13) _ _ rfl (hpre { on := 5, ground := .data } (by simp) rfl)
      | 7, ho, hlt =>
        simp at ho; subst ho
        exact ex_load26 _ _ (.tmp 14) _ _ _ rfl (hpre { on := 6, ground := .data } (by simp) rfl) (h0 k hk)
      | 8, ho, hlt =>
        simp at ho; subst ho
        exact ex_nil _ _ (.tmp 15) _ _ rfl (hpre { on := 7, ground := .data } (by simp) rfl)
      | 9, ho, hlt =>
        simp at ho; subst ho
        exact ex_field69_14 _ _ (.tmp 16) _ _ rfl (hpre { on := 8, ground := .data } (by simp) rfl)
      | 10, ho, hlt =>
        simp at ho; subst ho
        exact ex_load60 _ _ (.tmp 17) _ _ _ rfl (hpre { on := 9, ground := .data } (by simp) rfl) (h14 k hk)
      | 11, ho, hlt =>
        simp at ho; subst ho
        exact (ex_move _ _ (.tmp 1) _ (.inl rfl)).trans (by rw [show Act.eval a (.tmp 1) = _ from hoth 1 (by decide)]; rfl)
      | 12, ho, hlt =>
        simp at ho; subst ho
        exact (ex_move _ _ (.tmp 2) _ (.inl rfl)).trans (by rw [show Act.eval a (.tmp 2) = _ from hoth 2 (by decide)]; rfl)
      | 13, ho, hlt =>
        simp at ho; subst ho
        exact (ex_move _ _ (.tmp 3) _ (.inl rfl)).trans (by rw [show Act.eval a (.tmp 3) = _ from hoth 3 (by decide)]; rfl)
      | 14, ho, hlt =>
        simp at ho; subst ho
        have q1 : a.tmps.getD 19 undef = .int .u8 t := hpre { on := 11, ground := .data } (by simp) rfl
        have q2 : a.tmps.getD 20 undef = .int .i64 i := hpre { on := 12, ground := .data } (by simp) rfl
        have q3 : a.tmps.getD 21 undef = .int .i64 r := hpre { on := 13, ground := .data } (by simp) rfl
        exact ex_build a.eval _ 95 _ _ _ rfl (by
          show Try.prog.built 95 [(0, a.tmps.getD 19 undef), (4, a.tmps.getD 20 undef), (7, a.tmps.getD 21 undef)] = _
          rw [q1, q2, q3]; exact built95p t i r)
      | 15, ho, hlt =>
        simp at ho; subst ho
        have q1 : a.tmps.getD 22 undef = .agg ((pc (t, i, r)).take 21).toArray := hpre { on := 14, ground := .data } (by simp) rfl
        exact ex_build a.eval _ 104 _ _ _ rfl (by
          show Try.prog.built 104 [(0, a.tmps.getD 22 undef)] = _
          rw [q1]; exact built104p t i r)
      | 16, ho, hlt =>
        simp at ho; subst ho
        cases he
      | 17, ho, hlt =>
        simp at ho; subst ho
        cases he
      | 18, ho, hlt =>
        simp at ho; subst ho
        exact ex_nil _ _ (.tmp 11) _ _ rfl (hpre { on := 3, ground := .data } (by simp) rfl)
      | 19, ho, hlt =>
        simp at ho; subst ho
        exact ex_field69_14 _ _ (.tmp 26) _ _ rfl (hpre { on := 18, ground := .data } (by simp) rfl)
      | n + 20, ho, hlt => omega
    · intro i' o a j ho hj hpre hoth
      rcases eff35_cases hj with ⟨rfl, rfl⟩ | ⟨rfl, rfl⟩
      · simp at ho; subst ho
        exact ex_slice60 _ _ (.tmp 23) (t, i, r) _ rfl (hpre { on := 15, ground := .data } (by simp) rfl)
      · simp at ho; subst ho
        exact ex_append _ _ (.tmp 18) (.tmp 24) 60 60 _ _ _ _ _ rfl (hpre { on := 10, ground := .data } (by simp) rfl) (hpre { on := 16, ground := .data } (by simp) rfl) hr
  · intro o a ho hdf hsz hoth hval
    simp at ho; subst ho
    have q27 : a.tmps.getD 27 undef = .pointer (some ⟨nb, 14, none⟩) := hval 19 (by decide)
    have q25 : a.tmps.getD 25 undef = .slice (some ⟨g, 0, none⟩) (ps.length + 1) cap := hval 17 (by decide)
    show Oper.wp Try.prog _ a w2 _ _
    unfold Oper.wp
    rw [ex_store60 a.eval _ (.tmp 27) (.tmp 25) ⟨nb, 14, none⟩ w2 pv (some ⟨g, 0, none⟩) (ps.length + 1) cap rfl q27 q25 hc2 hf2]
    have hdf' : a.defers = [] := hdf
    obtain ⟨tm, df⟩ := a
    simp only at hdf'
    subst hdf'
    rw [Oper.upon_skip]
    show bodyPost _ _ _ _ _ _
    go_end0
    exact ⟨rfl, _, _, HI, HB⟩
end Go.Proofs.Qxb6616238a.Grow
