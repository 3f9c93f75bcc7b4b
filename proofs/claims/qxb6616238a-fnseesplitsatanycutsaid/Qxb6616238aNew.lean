import Derived.Test.Qxb6616238aGrow
import Derived.Deep.DeepCutAuto
import Derived.Laws.EntriesVeiled
namespace Go.Proofs.Qxb6616238a.Grow
set_option linter.unusedVariables false
set_option linter.unusedSimpArgs false
open Go.ChangeShapes Go.WideShapes Go.ChangeAt Go.RowKit

/-- What a closed check on a region's operations gives. -/
def okB (ops : Array Oper) (ds : List Nat) (size : Nat) : Bool :=
  ((List.range ops.size).all fun i => match ops[i]? with
    | some o => o.guard.isNone && o.dst == some (ds.getD i 0) && o.after.all (fun e => !Region.binds .any e || decide (e.on < i))
    | none => true) && ((List.range ops.size).all fun i => (List.range ops.size).all fun j => ds.getD i 0 != ds.getD j 0 || i == j) && ((List.range ops.size).all fun i => decide (ds.getD i 0 < size))

theorem okB_plain {ops : Array Oper} {ds : List Nat} {size : Nat} (h : okB ops ds size = true) :
    (∀ i o, ops[i]? = some o → o.guard = none ∧ o.dst = some (ds.getD i 0)) ∧ (∀ i j, i < ops.size → j < ops.size → ds.getD i 0 = ds.getD j 0 → i = j) ∧ (∀ i, i < ops.size → ds.getD i 0 < size) ∧
    (∀ i o, ops[i]? = some o → ∀ e ∈ o.after, Region.binds .any e = true → e.on < i) := by
  unfold okB at h
  simp only [Bool.and_eq_true, List.all_eq_true, List.mem_range] at h
  obtain ⟨⟨h1, h2⟩, h3⟩ := h
  refine ⟨fun i o ho => ?_, fun i j hi hj e => ?_, fun i hi => by simpa using h3 i hi, fun i o ho e he hb => ?_⟩
  · have hi : i < ops.size := (Array.getElem?_eq_some_iff.1 ho).1
    have := h1 i hi
    rw [ho] at this
    simp only [Bool.and_eq_true, Option.isNone_iff_eq_none, beq_iff_eq] at this
    exact ⟨this.1.1, this.1.2⟩
  · have := h2 i hi j hj
    simp only [Bool.or_eq_true, bne_iff_ne, beq_iff_eq] at this
    exact this.resolve_left (fun q => q e)
  · have hi : i < ops.size := (Array.getElem?_eq_some_iff.1 ho).1
    have := h1 i hi
    rw [ho] at this
    simp only [Bool.and_eq_true, Array.all_eq_true_iff_forall_mem] at this
    have := this.2 e he
    rw [hb] at this
    simpa using this

def dsNew : List Nat := [16, 17, 18, 19, 20, 21, 22, 23, 24, 25, 26, 27, 28, 29, 30, 31, 32, 33, 34, 35, 13]

/-- The node's cells, as New makes them. -/
structure NodeAt (B nb : Nat) (w : World) : Prop where
  ge : B ≤ nb
  cells : ∃ cs mb, w.heap[nb]? = some (.cells cs 69 (0, 0)) ∧ cs.size = 30 ∧ cs[14]? = some (.slice none 0 0) ∧ cs[17]? = some (.map (some mb)) ∧ B ≤ mb ∧ w.heap[mb]? = some (.map #[] 0)

def goodNew (B : Nat) (n : Nat) (i : Nat) (v : Value) (w : World) : Prop :=
  match i with
  | 0 => v = .int .i64 0
  | 1 | 5 | 7 | 9 | 11 | 15 => v = .int .i64 n
  | 2 => v = .int .u32 0
  | 3 => v = .slice none 0 0
  | 4 => v = .nilFunc
  | 6 | 8 | 10 | 12 | 16 => ∃ g, v = .slice (some g) n n
  | 13 => ∃ mb, v = .map (some mb) ∧ B ≤ mb ∧ w.heap[mb]? = some (.map #[] 0)
  | 17 => ∃ mb, v = .map (some mb)
  | 14 => v = .bool false
  | 18 => ∃ cs mb, v = .agg cs ∧ cs.size = 30 ∧ cs[14]? = some (.slice none 0 0) ∧ cs[17]? = some (.map (some mb)) ∧ B ≤ mb ∧ w.heap[mb]? = some (.map #[] 0)
  | 19 | 20 => ∃ nb, v = .pointer (some ⟨nb, 0, none⟩) ∧ NodeAt B nb w
  | _ => True

theorem NodeAt.mono {B nb : Nat} {w w' : World} (h : NodeAt B nb w) (hx : Ext w w') : NodeAt B nb w' := by
  obtain ⟨h1, cs, mb, h2, h3, h4, h5, h6, h7⟩ := h
  exact ⟨h1, cs, mb, hx.block h2, h3, h4, h5, h6, hx.block h7⟩

theorem goodNew_mono (B n : Nat) : ∀ i v w w', goodNew B n i v w → Ext w w' → goodNew B n i v w' := by
  intro i v w w' h hx
  unfold goodNew at *
  split at h <;> try exact h
  · obtain ⟨mb, h1, h2, h3⟩ := h; exact ⟨mb, h1, h2, hx.block h3⟩
  · obtain ⟨cs, mb, h1, h2, h3, h4, h5, h6⟩ := h; exact ⟨cs, mb, h1, h2, h3, h4, h5, hx.block h6⟩
  · obtain ⟨nb, h1, h2⟩ := h; exact ⟨nb, h1, h2.mono hx⟩
  · obtain ⟨nb, h1, h2⟩ := h; exact ⟨nb, h1, h2.mono hx⟩

theorem ex_move {P : Program} (ρ : Operand → Value) (o : Oper) (x : Operand) (w : World) (h : o.op = .move x ∨ o.op = .assign x) : (execOp ρ o).run P w = .ok (.value (ρ x)) w := by
  rcases h with h | h <;> simp [execOp, h]
theorem ex_makeSlice {P : Program} (ρ : Operand → Value) (o : Oper) (t : TypeId) (l c : Operand) (w w' : World) (v : Value) (h : o.op = .makeSlice t l c) (hr : (Instr.makeSlice t (ρ l) (ρ c)).run P w = .ok v w') : (execOp ρ o).run P w = .ok (.value v) w' := by
  simp [execOp, h, hr]
theorem ex_makeMap {P : Program} (ρ : Operand → Value) (o : Oper) (t : TypeId) (w : World) (h : o.op = .makeMap t none) : (execOp ρ o).run P w = .ok (.value (.map (some w.heap.size))) (w.alloc (.map #[] 0)) := by
  have : (Instr.makeMap t none).run P w = .ok (.map (some w.heap.size)) (w.alloc (.map #[] 0)) := rfl
  simp [execOp, h, this]
theorem ex_build {P : Program} (ρ : Operand → Value) (o : Oper) (t : TypeId) (parts : Array (Nat × Operand)) (cells : Array Value) (w : World) (h : o.op = .build t parts) (hb : P.built t (parts.toList.map fun p => (p.1, ρ p.2)) = some cells) : (execOp ρ o).run P w = .ok (.value (.agg cells)) w := by
  have e : (parts.map fun (i, x) => (i, ρ x)).toList = parts.toList.map fun p => (p.1, ρ p.2) := by rw [Array.toList_map]
  have := run_build w t (parts.map fun (i, x) => (i, ρ x)) cells (by rw [e]; exact hb)
  simp [execOp, h, this]
theorem ex_box {P : Program} (ρ : Operand → Value) (o : Oper) (t : TypeId) (x : Operand) (cs : Array Value) (w : World) (h : o.op = .box t x) (hx : ρ x = .agg cs) : (execOp ρ o).run P w = .ok (.value (.pointer (some ⟨w.heap.size, 0, none⟩))) (w.alloc (.cells cs t)) := by
  have : (Instr.box t (.agg cs)).run P w = .ok (.pointer (some ⟨w.heap.size, 0, none⟩)) (w.alloc (.cells cs t)) := rfl
  simp [execOp, h, hx, this]

theorem info4 : (Try.prog.info? 4).map (fun i => (i.zero, i.size, i.bytes)) = some (some (.bool false), 1, 1) := by kernel_rfl
theorem info3 : (Try.prog.info? 3).map (fun i => (i.zero, i.size, i.bytes)) = some (some (.int .i64 0), 1, 8) := by kernel_rfl
theorem info98 : (Try.prog.info? 98).map (fun i => (i.zero.isSome, i.size, i.bytes)) = some (true, 5, 40) := by kernel_rfl

theorem mk58 (n : Nat) (hn : n ≤ 1000000) (w : World) : ∃ o, (Instr.makeSlice 58 (.int .i64 n) (.int .i64 n)).run Try.prog w = .ok (.slice (some ⟨w.heap.size, 0, none⟩) n n) (w.alloc o) := by
  obtain ⟨i0, hi, hz0, hz1, hz2⟩ := info_parts info4
  have := run_make w 58 4 i0 _ Try.underlying58 hi hz0 .i64 .i64 n n (by omega) (by omega) (by rw [hz2]; omega) (by omega)
  simp only [Int.toNat_natCast] at this
  exact ⟨_, this⟩
theorem mk24 (n : Nat) (hn : n ≤ 1000000) (w : World) : ∃ o, (Instr.makeSlice 24 (.int .i64 n) (.int .i64 n)).run Try.prog w = .ok (.slice (some ⟨w.heap.size, 0, none⟩) n n) (w.alloc o) := by
  obtain ⟨i0, hi, hz0, hz1, hz2⟩ := info_parts info3
  have := run_make w 24 3 i0 _ Try.underlying24 hi hz0 .i64 .i64 n n (by omega) (by omega) (by rw [hz2]; omega) (by omega)
  simp only [Int.toNat_natCast] at this
  exact ⟨_, this⟩
theorem mk59 (n : Nat) (hn : n ≤ 1000000) (w : World) : ∃ o, (Instr.makeSlice 59 (.int .i64 n) (.int .i64 n)).run Try.prog w = .ok (.slice (some ⟨w.heap.size, 0, none⟩) n n) (w.alloc o) := by
  obtain ⟨i0, hi, h⟩ := Option.map_eq_some_iff.1 info98
  simp only [Prod.mk.injEq] at h
  obtain ⟨z, hz⟩ := Option.isSome_iff_exists.1 h.1
  have := run_make w 59 98 i0 z Try.underlying59 hi hz .i64 .i64 n n (by omega) (by omega) (by rw [h.2.2]; omega) (by omega)
  simp only [Int.toNat_natCast] at this
  exact ⟨_, this⟩

theorem built69 (n : Nat) (g6 g7 g10 g12 g21 : Addr) (m17 m22 : Nat) : Try.prog.built 69 [(0, .int .i64 0), (1, .int .i64 n), (2, .int .u32 0), (3, .int .u8 6), (4, .slice none 0 0), (5, .nilFunc), (6, .slice (some g6) n n), (7, .slice (some g7) n n), (8, .int .i64 1), (10, .slice (some g10) n n), (12, .slice (some g12) n n), (17, .map (some m17)), (18, .int .i64 1), (19, .bool false), (21, .slice (some g21) n n), (22, .map (some m22)), (26, .int .i64 (-1))] =
    some #[.int .i64 0, .int .i64 n, .int .u32 0, .int .u8 6, .slice none 0 0, .nilFunc, .slice (some g6) n n, .slice (some g7) n n, .int .i64 1, .int .i64 0, .slice (some g10) n n, .bool false, .slice (some g12) n n, .int .i64 0, .slice none 0 0, .slice none 0 0, .slice none 0 0, .map (some m17), .int .i64 1, .bool false, .int .i64 0, .slice (some g21) n n, .map (some m22), .slice none 0 0, .int .i64 0, .int .i64 0, .int .i64 (-1), .int .i64 0, .nilFunc, .pointer none] := by kernel_rfl

theorem getD_put55 (a : Act) (h : a.tmps.size = 55) : a.tmps = #[a.tmps.getD 0 undef, a.tmps.getD 1 undef, a.tmps.getD 2 undef, a.tmps.getD 3 undef, a.tmps.getD 4 undef, a.tmps.getD 5 undef, a.tmps.getD 6 undef, a.tmps.getD 7 undef, a.tmps.getD 8 undef, a.tmps.getD 9 undef, a.tmps.getD 10 undef, a.tmps.getD 11 undef, a.tmps.getD 12 undef, a.tmps.getD 13 undef, a.tmps.getD 14 undef, a.tmps.getD 15 undef, a.tmps.getD 16 undef, a.tmps.getD 17 undef, a.tmps.getD 18 undef, a.tmps.getD 19 undef, a.tmps.getD 20 undef, a.tmps.getD 21 undef, a.tmps.getD 22 undef, a.tmps.getD 23 undef, a.tmps.getD 24 undef, a.tmps.getD 25 undef, a.tmps.getD 26 undef, a.tmps.getD 27 undef, a.tmps.getD 28 undef, a.tmps.getD 29 undef, a.tmps.getD 30 undef, a.tmps.getD 31 undef, a.tmps.getD 32 undef, a.tmps.getD 33 undef, a.tmps.getD 34 undef, a.tmps.getD 35 undef, a.tmps.getD 36 undef, a.tmps.getD 37 undef, a.tmps.getD 38 undef, a.tmps.getD 39 undef, a.tmps.getD 40 undef, a.tmps.getD 41 undef, a.tmps.getD 42 undef, a.tmps.getD 43 undef, a.tmps.getD 44 undef, a.tmps.getD 45 undef, a.tmps.getD 46 undef, a.tmps.getD 47 undef, a.tmps.getD 48 undef, a.tmps.getD 49 undef, a.tmps.getD 50 undef, a.tmps.getD 51 undef, a.tmps.getD 52 undef, a.tmps.getD 53 undef, a.tmps.getD 54 undef] := by
  apply Array.ext
  · simpa using h
  · intro i h1 h2
    have this : i < 55 := by omega
    have e : ∀ j (hj : j < a.tmps.size), a.tmps[j] = a.tmps.getD j undef := fun j hj => by rw [Array.getD_eq_getD_getElem?, Array.getElem?_eq_getElem hj]; rfl
    rw [e i h1]
    match i, this with
    | 0, _ => rfl
    | 1, _ => rfl
    | 2, _ => rfl
    | 3, _ => rfl
    | 4, _ => rfl
    | 5, _ => rfl
    | 6, _ => rfl
    | 7, _ => rfl
    | 8, _ => rfl
    | 9, _ => rfl
    | 10, _ => rfl
    | 11, _ => rfl
    | 12, _ => rfl
    | 13, _ => rfl
    | 14, _ => rfl
    | 15, _ => rfl
    | 16, _ => rfl
    | 17, _ => rfl
    | 18, _ => rfl
    | 19, _ => rfl
    | 20, _ => rfl
    | 21, _ => rfl
    | 22, _ => rfl
    | 23, _ => rfl
    | 24, _ => rfl
    | 25, _ => rfl
    | 26, _ => rfl
    | 27, _ => rfl
    | 28, _ => rfl
    | 29, _ => rfl
    | 30, _ => rfl
    | 31, _ => rfl
    | 32, _ => rfl
    | 33, _ => rfl
    | 34, _ => rfl
    | 35, _ => rfl
    | 36, _ => rfl
    | 37, _ => rfl
    | 38, _ => rfl
    | 39, _ => rfl
    | 40, _ => rfl
    | 41, _ => rfl
    | 42, _ => rfl
    | 43, _ => rfl
    | 44, _ => rfl
    | 45, _ => rfl
    | 46, _ => rfl
    | 47, _ => rfl
    | 48, _ => rfl
    | 49, _ => rfl
    | 50, _ => rfl
    | 51, _ => rfl
    | 52, _ => rfl
    | 53, _ => rfl
    | 54, _ => rfl
    | k + 55, h => exact absurd h (by omega)

set_option maxHeartbeats 1000000 in
set_option maxRecDepth 100000 in
theorem new_any (n : Nat) (hn : n ≤ 1000000) (w : World) :
    Calls Try.prog 31 #[.int .i64 0, .int .i64 n, .int .u32 0, .slice none 0 0, .nilFunc, .bool false] w fun e w' => ∃ nb, e = .returned (.pointer (some ⟨nb, 0, none⟩)) ∧ NodeAt w.heap.size nb w' ∧ Ext w w' := by
  go_enter Try.func31, Try.ntmps31
  go_upto_region 1 with fail
  go_cut [13] (fun p wx => ∃ nb, p = .pointer (some ⟨nb, 0, none⟩) ∧ NodeAt w.heap.size nb wx ∧ Ext w wx)
  case first =>
    refine wp_region_grow (d := fun i => dsNew.getD i 0) (good := goodNew w.heap.size n) (by kernel_rfl) ?_ ?_
    · refine ⟨(okB_plain (ds := dsNew) (size := 55) (by kernel_rfl)).1, (okB_plain (ds := dsNew) (size := 55) (by kernel_rfl)).2.1, (okB_plain (ds := dsNew) (size := 55) (by kernel_rfl)).2.2.1, (okB_plain (ds := dsNew) (size := 55) (by kernel_rfl)).2.2.2, goodNew_mono _ _, ?_⟩
      intro i o a w1 ho hpre hoth hx
      have hsz : w.heap.size ≤ w1.heap.size := hx.size
      match i, ho with
      | 0, ho =>
        simp at ho; subst ho
        exact ⟨_, w1, ex_move _ _ (.tmp 0) w1 (.inl rfl), (hoth 0 (by decide)), Ext.refl _⟩
      | 1, ho =>
        simp at ho; subst ho
        exact ⟨_, w1, ex_move _ _ (.tmp 1) w1 (.inl rfl), (hoth 1 (by decide)), Ext.refl _⟩
      | 2, ho =>
        simp at ho; subst ho
        exact ⟨_, w1, ex_move _ _ (.tmp 2) w1 (.inl rfl), (hoth 2 (by decide)), Ext.refl _⟩
      | 3, ho =>
        simp at ho; subst ho
        exact ⟨_, w1, ex_move _ _ (.tmp 3) w1 (.inl rfl), (hoth 3 (by decide)), Ext.refl _⟩
      | 4, ho =>
        simp at ho; subst ho
        exact ⟨_, w1, ex_move _ _ (.tmp 4) w1 (.inl rfl), (hoth 4 (by decide)), Ext.refl _⟩
      | 5, ho =>
        simp at ho; subst ho
        exact ⟨_, w1, ex_move _ _ (.tmp 1) w1 (.inl rfl), (hoth 1 (by decide)), Ext.refl _⟩
      | 6, ho =>
        simp at ho; subst ho
        have hp := hpre { on := 5, ground := .data } (by simp) rfl
        obtain ⟨ob, hr⟩ := mk58 n hn w1
        have hr' : (Instr.makeSlice 58 (a.eval (.tmp 21)) (a.eval (.tmp 21))).run Try.prog w1 = .ok (.slice (some ⟨w1.heap.size, 0, none⟩) n n) (w1.alloc ob) := by
          show (Instr.makeSlice 58 (a.tmps.getD 21 undef) (a.tmps.getD 21 undef)).run Try.prog w1 = _
          rw [show a.tmps.getD 21 undef = .int .i64 n from hp]
          exact hr
        exact ⟨_, _, ex_makeSlice _ _ 58 (.tmp 21) (.tmp 21) w1 _ _ rfl hr', ⟨_, rfl⟩, Ext.alloc _ _⟩
      | 7, ho =>
        simp at ho; subst ho
        exact ⟨_, w1, ex_move _ _ (.tmp 1) w1 (.inl rfl), (hoth 1 (by decide)), Ext.refl _⟩
      | 8, ho =>
        simp at ho; subst ho
        have hp := hpre { on := 7, ground := .data } (by simp) rfl
        obtain ⟨ob, hr⟩ := mk58 n hn w1
        have hr' : (Instr.makeSlice 58 (a.eval (.tmp 23)) (a.eval (.tmp 23))).run Try.prog w1 = .ok (.slice (some ⟨w1.heap.size, 0, none⟩) n n) (w1.alloc ob) := by
          show (Instr.makeSlice 58 (a.tmps.getD 23 undef) (a.tmps.getD 23 undef)).run Try.prog w1 = _
          rw [show a.tmps.getD 23 undef = .int .i64 n from hp]
          exact hr
        exact ⟨_, _, ex_makeSlice _ _ 58 (.tmp 23) (.tmp 23) w1 _ _ rfl hr', ⟨_, rfl⟩, Ext.alloc _ _⟩
      | 9, ho =>
        simp at ho; subst ho
        exact ⟨_, w1, ex_move _ _ (.tmp 1) w1 (.inl rfl), (hoth 1 (by decide)), Ext.refl _⟩
      | 10, ho =>
        simp at ho; subst ho
        have hp := hpre { on := 9, ground := .data } (by simp) rfl
        obtain ⟨ob, hr⟩ := mk59 n hn w1
        have hr' : (Instr.makeSlice 59 (a.eval (.tmp 25)) (a.eval (.tmp 25))).run Try.prog w1 = .ok (.slice (some ⟨w1.heap.size, 0, none⟩) n n) (w1.alloc ob) := by
          show (Instr.makeSlice 59 (a.tmps.getD 25 undef) (a.tmps.getD 25 undef)).run Try.prog w1 = _
          rw [show a.tmps.getD 25 undef = .int .i64 n from hp]
          exact hr
        exact ⟨_, _, ex_makeSlice _ _ 59 (.tmp 25) (.tmp 25) w1 _ _ rfl hr', ⟨_, rfl⟩, Ext.alloc _ _⟩
      | 11, ho =>
        simp at ho; subst ho
        exact ⟨_, w1, ex_move _ _ (.tmp 1) w1 (.inl rfl), (hoth 1 (by decide)), Ext.refl _⟩
      | 12, ho =>
        simp at ho; subst ho
        have hp := hpre { on := 11, ground := .data } (by simp) rfl
        obtain ⟨ob, hr⟩ := mk58 n hn w1
        have hr' : (Instr.makeSlice 58 (a.eval (.tmp 27)) (a.eval (.tmp 27))).run Try.prog w1 = .ok (.slice (some ⟨w1.heap.size, 0, none⟩) n n) (w1.alloc ob) := by
          show (Instr.makeSlice 58 (a.tmps.getD 27 undef) (a.tmps.getD 27 undef)).run Try.prog w1 = _
          rw [show a.tmps.getD 27 undef = .int .i64 n from hp]
          exact hr
        exact ⟨_, _, ex_makeSlice _ _ 58 (.tmp 27) (.tmp 27) w1 _ _ rfl hr', ⟨_, rfl⟩, Ext.alloc _ _⟩
      | 13, ho =>
        simp at ho; subst ho
        exact ⟨_, _, ex_makeMap _ _ 63 w1 rfl, ⟨_, rfl, hsz, heap_alloc_new _ _⟩, Ext.alloc _ _⟩
      | 14, ho =>
        simp at ho; subst ho
        exact ⟨_, w1, ex_move _ _ (.tmp 5) w1 (.inl rfl), (hoth 5 (by decide)), Ext.refl _⟩
      | 15, ho =>
        simp at ho; subst ho
        exact ⟨_, w1, ex_move _ _ (.tmp 1) w1 (.inl rfl), (hoth 1 (by decide)), Ext.refl _⟩
      | 16, ho =>
        simp at ho; subst ho
        have hp := hpre { on := 15, ground := .data } (by simp) rfl
        obtain ⟨ob, hr⟩ := mk24 n hn w1
        have hr' : (Instr.makeSlice 24 (a.eval (.tmp 31)) (a.eval (.tmp 31))).run Try.prog w1 = .ok (.slice (some ⟨w1.heap.size, 0, none⟩) n n) (w1.alloc ob) := by
          show (Instr.makeSlice 24 (a.tmps.getD 31 undef) (a.tmps.getD 31 undef)).run Try.prog w1 = _
          rw [show a.tmps.getD 31 undef = .int .i64 n from hp]
          exact hr
        exact ⟨_, _, ex_makeSlice _ _ 24 (.tmp 31) (.tmp 31) w1 _ _ rfl hr', ⟨_, rfl⟩, Ext.alloc _ _⟩
      | 17, ho =>
        simp at ho; subst ho
        exact ⟨_, _, ex_makeMap _ _ 64 w1 rfl, ⟨_, rfl⟩, Ext.alloc _ _⟩
      | 18, ho =>
        simp at ho; subst ho
        have p0 := hpre { on := 0, ground := .data } (by simp) rfl
        have p1 := hpre { on := 1, ground := .data } (by simp) rfl
        have p2 := hpre { on := 2, ground := .data } (by simp) rfl
        have p3 := hpre { on := 3, ground := .data } (by simp) rfl
        have p4 := hpre { on := 4, ground := .data } (by simp) rfl
        obtain ⟨g6, p6⟩ := hpre { on := 6, ground := .data } (by simp) rfl
        obtain ⟨g8, p8⟩ := hpre { on := 8, ground := .data } (by simp) rfl
        obtain ⟨g10, p10⟩ := hpre { on := 10, ground := .data } (by simp) rfl
        obtain ⟨g12, p12⟩ := hpre { on := 12, ground := .data } (by simp) rfl
        obtain ⟨mb, p13, hmb, hmh⟩ := hpre { on := 13, ground := .data } (by simp) rfl
        have p14 := hpre { on := 14, ground := .data } (by simp) rfl
        obtain ⟨g16, p16⟩ := hpre { on := 16, ground := .data } (by simp) rfl
        obtain ⟨m2, p17⟩ := hpre { on := 17, ground := .data } (by simp) rfl
        have q0 : a.tmps.getD 16 undef = .int .i64 0 := p0
        have q1 : a.tmps.getD 17 undef = .int .i64 n := p1
        have q2 : a.tmps.getD 18 undef = .int .u32 0 := p2
        have q3 : a.tmps.getD 19 undef = .slice none 0 0 := p3
        have q4 : a.tmps.getD 20 undef = .nilFunc := p4
        have q6 : a.tmps.getD 22 undef = .slice (some g6) n n := p6
        have q8 : a.tmps.getD 24 undef = .slice (some g8) n n := p8
        have q10 : a.tmps.getD 26 undef = .slice (some g10) n n := p10
        have q12 : a.tmps.getD 28 undef = .slice (some g12) n n := p12
        have q13 : a.tmps.getD 29 undef = .map (some mb) := p13
        have q14 : a.tmps.getD 30 undef = .bool false := p14
        have q16 : a.tmps.getD 32 undef = .slice (some g16) n n := p16
        have q17 : a.tmps.getD 33 undef = .map (some m2) := p17
        have hb : Try.prog.built 69 [(0, a.tmps.getD 16 undef), (1, a.tmps.getD 17 undef), (2, a.tmps.getD 18 undef), (3, .int .u8 6), (4, a.tmps.getD 19 undef), (5, a.tmps.getD 20 undef), (6, a.tmps.getD 22 undef), (7, a.tmps.getD 24 undef), (8, .int .i64 1), (10, a.tmps.getD 26 undef), (12, a.tmps.getD 28 undef), (17, a.tmps.getD 29 undef), (18, .int .i64 1), (19, a.tmps.getD 30 undef), (21, a.tmps.getD 32 undef), (22, a.tmps.getD 33 undef), (26, .int .i64 (-1))] = some #[.int .i64 0, .int .i64 n, .int .u32 0, .int .u8 6, .slice none 0 0, .nilFunc, .slice (some g6) n n, .slice (some g8) n n, .int .i64 1, .int .i64 0, .slice (some g10) n n, .bool false, .slice (some g12) n n, .int .i64 0, .slice none 0 0, .slice none 0 0, .slice none 0 0, .map (some mb), .int .i64 1, .bool false, .int .i64 0, .slice (some g16) n n, .map (some m2), .slice none 0 0, .int .i64 0, .int .i64 0, .int .i64 (-1), .int .i64 0, .nilFunc, .pointer none] := by
          rw [q0, q1, q2, q3, q4, q6, q8, q10, q12, q13, q14, q16, q17]
          exact built69 n g6 g8 g10 g12 g16 mb m2
        exact ⟨_, w1, ex_build a.eval _ 69 _ _ w1 rfl hb, ⟨_, mb, rfl, rfl, rfl, rfl, hmb, hmh⟩, Ext.refl _⟩
      | 19, ho =>
        simp at ho; subst ho
        obtain ⟨cs, mb, p18, hcs, h14, h17, hmb, hmh⟩ := hpre { on := 18, ground := .data } (by simp) rfl
        have q18 : a.eval (.tmp 34) = .agg cs := p18
        exact ⟨_, _, ex_box _ _ 69 (.tmp 34) cs w1 rfl q18, ⟨_, rfl, hsz, cs, mb, heap_alloc_new _ _, hcs, h14, h17, hmb, (Ext.alloc _ _).block hmh⟩, Ext.alloc _ _⟩
      | 20, ho =>
        simp at ho; subst ho
        have p19 := hpre { on := 19, ground := .data } (by simp) rfl
        exact ⟨_, w1, ex_move _ _ (.tmp 35) w1 (.inr rfl), p19, Ext.refl _⟩
      | i + 21, ho => simp at ho
    · intro a w' hd hs ho hg hx
      obtain ⟨nb, h13, hnode⟩ := hg 20 (by decide)
      have h13' : a.tmps.getD 13 undef = .pointer (some ⟨nb, 0, none⟩) := h13
      have ha : ∃ u16 u17 u18 u19 u20 u21 u22 u23 u24 u25 u26 u27 u28 u29 u30 u31 u32 u33 u34 u35 : Value, a = { tmps := #[.int .i64 0, .int .i64 n, .int .u32 0, .slice none 0 0, .nilFunc, .bool false, undef, undef, undef, undef, undef, undef, .pointer none, .pointer (some ⟨nb, 0, none⟩), undef, undef, u16, u17, u18, u19, u20, u21, u22, u23, u24, u25, u26, u27, u28, u29, u30, u31, u32, u33, u34, u35, undef, undef, undef, undef, undef, undef, undef, undef, undef, undef, undef, undef, undef, undef, undef, undef, undef, undef, undef], defers := [] } := by
        refine ⟨a.tmps.getD 16 undef, a.tmps.getD 17 undef, a.tmps.getD 18 undef, a.tmps.getD 19 undef, a.tmps.getD 20 undef, a.tmps.getD 21 undef, a.tmps.getD 22 undef, a.tmps.getD 23 undef, a.tmps.getD 24 undef, a.tmps.getD 25 undef, a.tmps.getD 26 undef, a.tmps.getD 27 undef, a.tmps.getD 28 undef, a.tmps.getD 29 undef, a.tmps.getD 30 undef, a.tmps.getD 31 undef, a.tmps.getD 32 undef, a.tmps.getD 33 undef, a.tmps.getD 34 undef, a.tmps.getD 35 undef, ?_⟩
        have e := getD_put55 a hs
        rw [show a.tmps.getD 0 undef = .int .i64 0 from ho 0 (by decide)] at e
        rw [show a.tmps.getD 1 undef = .int .i64 n from ho 1 (by decide)] at e
        rw [show a.tmps.getD 2 undef = .int .u32 0 from ho 2 (by decide)] at e
        rw [show a.tmps.getD 3 undef = .slice none 0 0 from ho 3 (by decide)] at e
        rw [show a.tmps.getD 4 undef = .nilFunc from ho 4 (by decide)] at e
        rw [show a.tmps.getD 5 undef = .bool false from ho 5 (by decide)] at e
        rw [show a.tmps.getD 6 undef = undef from ho 6 (by decide)] at e
        rw [show a.tmps.getD 7 undef = undef from ho 7 (by decide)] at e
        rw [show a.tmps.getD 8 undef = undef from ho 8 (by decide)] at e
        rw [show a.tmps.getD 9 undef = undef from ho 9 (by decide)] at e
        rw [show a.tmps.getD 10 undef = undef from ho 10 (by decide)] at e
        rw [show a.tmps.getD 11 undef = undef from ho 11 (by decide)] at e
        rw [show a.tmps.getD 12 undef = .pointer none from ho 12 (by decide)] at e
        rw [show a.tmps.getD 14 undef = undef from ho 14 (by decide)] at e
        rw [show a.tmps.getD 15 undef = undef from ho 15 (by decide)] at e
        rw [show a.tmps.getD 36 undef = undef from ho 36 (by decide)] at e
        rw [show a.tmps.getD 37 undef = undef from ho 37 (by decide)] at e
        rw [show a.tmps.getD 38 undef = undef from ho 38 (by decide)] at e
        rw [show a.tmps.getD 39 undef = undef from ho 39 (by decide)] at e
        rw [show a.tmps.getD 40 undef = undef from ho 40 (by decide)] at e
        rw [show a.tmps.getD 41 undef = undef from ho 41 (by decide)] at e
        rw [show a.tmps.getD 42 undef = undef from ho 42 (by decide)] at e
        rw [show a.tmps.getD 43 undef = undef from ho 43 (by decide)] at e
        rw [show a.tmps.getD 44 undef = undef from ho 44 (by decide)] at e
        rw [show a.tmps.getD 45 undef = undef from ho 45 (by decide)] at e
        rw [show a.tmps.getD 46 undef = undef from ho 46 (by decide)] at e
        rw [show a.tmps.getD 47 undef = undef from ho 47 (by decide)] at e
        rw [show a.tmps.getD 48 undef = undef from ho 48 (by decide)] at e
        rw [show a.tmps.getD 49 undef = undef from ho 49 (by decide)] at e
        rw [show a.tmps.getD 50 undef = undef from ho 50 (by decide)] at e
        rw [show a.tmps.getD 51 undef = undef from ho 51 (by decide)] at e
        rw [show a.tmps.getD 52 undef = undef from ho 52 (by decide)] at e
        rw [show a.tmps.getD 53 undef = undef from ho 53 (by decide)] at e
        rw [show a.tmps.getD 54 undef = undef from ho 54 (by decide)] at e
        rw [h13'] at e
        obtain ⟨tm, df⟩ := a
        have hd' : df = [] := hd
        subst hd'
        exact congrArg (fun q => (⟨q, []⟩ : Act)) e
      obtain ⟨u16, u17, u18, u19, u20, u21, u22, u23, u24, u25, u26, u27, u28, u29, u30, u31, u32, u33, u34, u35, ha⟩ := ha
      rw [ha]
      clear ha hg ho hs hd h13 h13'
      go_wp2_with fail
      go_meet
      case rel => exact ⟨nb, rfl, hnode, (Ext.drew w).trans hx⟩
  case rest =>
    obtain ⟨nb, rfl, hnode, hx⟩ := hcut
    go_wp2_with fail
    go_loopw [38] (fun iv wr => iv = .int .i64 0 ∧ wr = wc) (fun _ _ => 0)
    case atStart => exact ⟨rfl, rfl⟩
    case round =>
      obtain ⟨rfl, rfl⟩ := hrel
      go_wp2_with fail
      go_ret
      exact ⟨nb, rfl, hnode, hx⟩
end Go.Proofs.Qxb6616238a.Grow
