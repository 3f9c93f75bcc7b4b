import Derived.Test.Qxb6616238aSee1
namespace Go.Proofs.Qxb6616238a.Grow
set_option linter.unusedVariables false
set_option linter.unusedSimpArgs false
set_option maxRecDepth 100000
open Go.ChangeShapes Go.WideShapes Go.ChangeAt Go.RowKit

theorem mid_assign {P : Program} {ops : Array Oper} {o : Oper} {n : Nat} {a : Act} {w : World} {Q : Exit → Act → World → Prop} (hn : ops.size = n + 1) (x : Operand) (ho : o.op = .move x ∨ o.op = .assign x) (h : Q .normal (a.put o.dst (a.eval x)) w) :
    o.wp P a w (fun a' w' => ∀ f, (left ops.size (upTo ops.size n)).length ≤ f → wpAny P .any ops Q f (upTo ops.size n) a' w') Q := by
  unfold Oper.wp
  rw [ex_move _ _ x _ ho, Oper.upon_value]
  exact wpAny_over hn h

theorem put_defers (a : Act) (d : Option Tmp) (v : Value) : (a.put d v).defers = a.defers := by cases d <;> rfl

theorem phase56 {P : Program} {ops : Array Oper} {Q : Exit → Act → World → Prop} {a0 : Act} {w2 : World} (hs c2 ib rb : Nat) (t i r num : Int) (res : Bool) (ok : okM ops 18 19 ds56 gs56 24 = true) (hsz : ops.size = 20) (hts : a0.tmps.size = 24)
    (goods : ∀ k, k < 18 → a0.tmps.getD (ds56.getD k 0) undef = val56 true true hs c2 ib rb t i r num res k) (o18 o19 : Oper) (h18 : ops[18]? = some o18) (p18 : o18.op = .pick (.tmp 19) (.tmp 22) (.const (.bool false)))
    (e14 : ({ on := 14, ground := .data } : Edge) ∈ o18.after) (e17 : ({ on := 17, ground := .data } : Edge) ∈ o18.after) (h19 : ops[19]? = some o19) (p19 : o19.op = .assign (.tmp 23)) (d19 : o19.dst = some 4)
    (done : ∀ a : Act, a.defers = a0.defers → a.tmps.size = 24 → a.tmps.getD 4 undef = .bool res → Q .normal a w2) :
    ∀ f, (left ops.size (upTo ops.size 17)).length ≤ f → wpAny P .any ops Q f (upTo ops.size 17) a0 w2 := by
  refine wpAny_on (p := 17) (last := 19) (d := fun k => ds56.getD k 0) (val := val56 true true hs c2 ib rb t i r num res) (skp := skp56 true true) (W := w2) ?_ o19 h19 ?_
  · refine law5_of (ds := ds56) (gs := gs56) (by rw [hts]; exact ok) goods (fun k _ hk => gv56 true true hs c2 ib rb t i r num res k hk) rfl (fun k _ _ hk => by unfold val56; rw [if_pos hk]) ?_
    intro i' o' a hfm hlt ho hsk hpre hoth
    obtain rfl : i' = 18 := by omega
    rw [h18] at ho; cases ho
    have q14 : a.tmps.getD 19 undef = .bool true := hpre _ e14 rfl
    have q17 : a.tmps.getD 22 undef = .bool res := hpre _ e17 rfl
    refine (ex_pick _ _ (.tmp 19) (.tmp 22) (.const (.bool false)) true _ p18 q14).trans ?_
    show Result.ok (Next.value (a.tmps.getD 22 undef)) _ = _
    rw [q17]
    rfl
  · refine mid_assign (by omega) (.tmp 23) (.inr p19) ?_
    rw [d19]
    have hl : (laid (fun k => ds56.getD k 0) (val56 true true hs c2 ib rb t i r num res) a0.tmps 19).size = 24 := by rw [laid_size]; exact hts
    have h23 : (laid (fun k => ds56.getD k 0) (val56 true true hs c2 ib rb t i r num res) a0.tmps 19).getD 23 undef = .bool res := by
      show (Array.setIfInBounds _ 23 _).getD 23 undef = _
      rw [Array.getD_eq_getD_getElem?, Array.getElem?_setIfInBounds_self_of_lt (by rw [laid_size, hts]; decide)]
      cases res <;> rfl
    generalize laid (fun k => ds56.getD k 0) (val56 true true hs c2 ib rb t i r num res) a0.tmps 19 = T at hl h23 ⊢
    refine done _ (put_defers _ _ _) (by simp [Act.put, hl]) ?_
    show (Array.setIfInBounds T 4 (T.getD 23 undef)).getD 4 undef = _
    rw [h23, Array.getD_eq_getD_getElem?, Array.getElem?_setIfInBounds_self_of_lt (by rw [hl]; decide)]
    rfl

theorem ds56_get : ∀ k, k < 19 → ds56.getD k 0 = k + 5 := by decide
theorem laid56 {T : Array Value} (hT : T.size = 24) (val : Nat → Value) (k : Nat) (hk : k < 17) : (laid (fun k => ds56.getD k 0) val T 17).getD (k + 5) undef = val k := by
  have := laid_on (fun k => ds56.getD k 0) val T 17 (fun i j hi hj e => by
    have e' : ds56.getD i 0 = ds56.getD j 0 := e
    rw [ds56_get i (by omega), ds56_get j (by omega)] at e'
    omega) (fun i hi => by show ds56.getD i 0 < _; rw [ds56_get i (by omega), hT]; omega) k 17 (Nat.le_refl _) hk
  simp only [ds56_get k (show k < 19 by omega)] at this
  rw [Array.getD_eq_getD_getElem?, this]
  rfl
theorem goods56 {T : Array Value} (hT : T.size = 24) (val : Nat → Value) (k : Nat) (hk : k < 18) : ((laid (fun k => ds56.getD k 0) val T 17).setIfInBounds 22 (val 17)).getD (ds56.getD k 0) undef = val k := by
  rw [ds56_get k (by omega)]
  by_cases h : k = 17
  · subst h
    rw [Array.getD_eq_getD_getElem?, Array.getElem?_setIfInBounds_self_of_lt (by rw [laid_size, hT]; decide)]
    rfl
  · rw [Array.getD_eq_getD_getElem?, Array.getElem?_setIfInBounds_ne (by omega), ← Array.getD_eq_getD_getElem?]
    exact laid56 hT val k (by omega)
theorem cf45 (v : Array Value) (w : World) : (callFunc 45 v).run Try.prog w = .ok (.enter 45 v) w := by kernel_rfl
theorem wp_callf {P : Program} {o : Oper} {a : Act} {w : World} {K : Act → World → Prop} {Q : Exit → Act → World → Prop} (x y : Operand) (f : FuncId) (cap : Array Value) (vy : Value) (ho : o.op = .call { callee := .value x, args := #[y], argTypes := #[104] })
    (hx : a.eval x = .func (.func f) #[] cap) (hy : a.eval y = vy) (hcf : ∀ (v : Array Value) (w : World), (callFunc f v).run P w = .ok (.enter f v) w)
    (h : Calls P f (#[vy] ++ cap) w fun
      | .returned v, w'' => K (a.put o.dst v) w''
      | .panicked chain, w'' => Q (.panic chain) a w''
      | .outgrown, _ => LetsOut Q) : o.wp P a w K Q := by
  unfold Oper.wp
  have : (execOp a.eval o).run P w = .ok (.enter f (#[vy] ++ cap)) w := by
    simp [execOp, ho, resolve, hx, hy, invoke, Deferred.ofValue, hcf]
  rw [this]
  exact h


theorem eval_tmp {T : Array Value} {df : List Deferred} {n : Nat} {v v' : Value} (h : T.getD n undef = v) (h' : v = v') : Act.eval { tmps := T, defers := df } (.tmp n) = v' := by subst h'; exact h
theorem after56 {ops : Array Oper} {Q Q' : Exit → Act → World → Prop} {K' : Act → World → Prop} {T L : Array Value} {df : List Deferred} {w : World} {hs c2 ib rb : Nat} {t i r num q : Int} {res : Bool} (hL : laid (fun k => ds56.getD k 0) (val56 true true hs c2 ib rb t i r num res) T 17 = L) (hK : ∀ (a' : Act) (w' : World), (∀ f, (left ops.size (upTo ops.size 17)).length ≤ f → wpAny Try.prog .any ops Q f (upTo ops.size 17) a' w') → K' a' w') (ht : t = 2) (hres : res = decide (r < q)) (hT : T.size = 24) (ok : okM ops 18 19 ds56 gs56 24 = true) (hsz : ops.size = 20)
    {o17 o18 o19 : Oper} (p17 : o17.op = .call { callee := .value (.tmp 20), args := #[.tmp 21], argTypes := #[104] }) (d17 : o17.dst = some 22) (h18 : ops[18]? = some o18) (p18 : o18.op = .pick (.tmp 19) (.tmp 22) (.const (.bool false)))
    (e14 : ({ on := 14, ground := .data } : Edge) ∈ o18.after) (e17 : ({ on := 17, ground := .data } : Edge) ∈ o18.after) (h19 : ops[19]? = some o19) (p19 : o19.op = .assign (.tmp 23)) (d19 : o19.dst = some 4)
    (k4 : w.cell? ⟨rb, 0, none⟩ = some (.int .i64 q)) (l4 : rb < w.heap.size)
    (done : ∀ (a : Act) (w2 : World), Ext w w2 → a.defers = df → a.tmps.size = 24 → a.tmps.getD 4 undef = .bool res → Q .normal a w2) :
    o17.wp Try.prog { tmps := L, defers := df } w K' Q' := by
  subst hL
  refine wp_callf (.tmp 20) (.tmp 21) 45 #[.pointer (some ⟨rb, 0, none⟩)] (.agg (pc (t, i, r)).toArray) p17 ?_ ?_ cf45 ?_
  · exact eval_tmp (laid56 hT (val56 true true hs c2 ib rb t i r num res) 15 (by decide)) (by simp [val56, skp56])
  · exact eval_tmp (laid56 hT (val56 true true hs c2 ib rb t i r num res) 16 (by decide)) (by simp [val56, skp56])
  · refine (see1_any t i r rb q _ k4 l4).mono ?_
    rintro e w2 ⟨rfl, hx2⟩
    have hres' : decide (t = 2 ∧ r < q) = res := by rw [hres]; simp [ht]
    rw [hres', d17]
    apply hK
    have hg : ∀ k, k < 18 → ((laid (fun k => ds56.getD k 0) (val56 true true hs c2 ib rb t i r num res) T 17).setIfInBounds 22 (.bool res)).getD (ds56.getD k 0) undef = val56 true true hs c2 ib rb t i r num res k := by
      intro k hk
      have := goods56 hT (val56 true true hs c2 ib rb t i r num res) k hk
      rw [show val56 true true hs c2 ib rb t i r num res 17 = .bool res by simp [val56, skp56]] at this
      exact this
    have hz : (laid (fun k => ds56.getD k 0) (val56 true true hs c2 ib rb t i r num res) T 17).size = 24 := by rw [laid_size, hT]
    generalize laid (fun k => ds56.getD k 0) (val56 true true hs c2 ib rb t i r num res) T 17 = L at hg hz ⊢
    refine phase56 (a0 := { tmps := L.setIfInBounds 22 (.bool res), defers := df }) hs c2 ib rb t i r num res ok hsz (by simp [hz]) hg o18 o19 h18 p18 e14 e17 h19 p19 d19 ?_
    intro a hd hs' h4
    exact done a w2 hx2 hd hs' h4
theorem after56' {o17 : Oper} {L : Array Value} {K : Act → World → Prop} {Q : Exit → Act → World → Prop} {df : List Deferred} {w : World} (H : ∀ (K' : Act → World → Prop) (Q' : Exit → Act → World → Prop), (∀ a w, K a w → K' a w) → (∀ e a w, Q e a w → Q' e a w) → o17.wp Try.prog { tmps := L, defers := df } w K' Q') : o17.wp Try.prog { tmps := L, defers := df } w K Q := H K Q (fun _ _ h => h) (fun _ _ _ h => h)
theorem range_new (w : World) (p : Int × Int × Int) : (w.alloc (.cells (pc p).toArray 104)).rangeAt w.heap.size 0 (pc p) := by
  intro j v hv
  rw [Nat.zero_add, cell_of_row _ _ j _ _ _ (heap_alloc_new w _)]
  simpa using hv

set_option maxHeartbeats 4000000 in
theorem drop1_any (t i r : Int) (c1 c2 ib rb : Nat) (num q : Int) (w0 : World) (h1 : w0.cell? ⟨c1, 0, none⟩ = some (.pointer (some ⟨ib, 0, none⟩))) (h2 : w0.cell? ⟨c2, 0, none⟩ = some (.func (.func 45) #[] #[.pointer (some ⟨rb, 0, none⟩)])) (h3 : w0.cell? ⟨ib, 1, none⟩ = some (.int .i64 num)) (h4 : w0.cell? ⟨rb, 0, none⟩ = some (.int .i64 q))
    (l1 : c1 < w0.heap.size) (l2 : c2 < w0.heap.size) (l3 : ib < w0.heap.size) (l4 : rb < w0.heap.size) :
    Calls Try.prog 56 #[.agg (pc (t, i, r)).toArray, .pointer (some ⟨c1, 0, none⟩), .pointer (some ⟨c2, 0, none⟩)] w0 fun e w' => e = .returned (.bool (decide (t = 2) && decide (i = num) && decide (r < q))) ∧ Ext w0 w' := by
  obtain ⟨w, hw⟩ : ∃ w, w = w0 := ⟨_, rfl⟩
  subst hw
  have k1 : (w.alloc (.cells (pc (t, i, r)).toArray 104)).drew.cell? ⟨c1, 0, none⟩ = some (.pointer (some ⟨ib, 0, none⟩)) := by rw [Below.cell (Below.drew (Ext.alloc w _)) l1]; exact h1
  have k2 : (w.alloc (.cells (pc (t, i, r)).toArray 104)).drew.cell? ⟨c2, 0, none⟩ = some (.func (.func 45) #[] #[.pointer (some ⟨rb, 0, none⟩)]) := by rw [Below.cell (Below.drew (Ext.alloc w _)) l2]; exact h2
  have k3 : (w.alloc (.cells (pc (t, i, r)).toArray 104)).drew.cell? ⟨ib, 1, none⟩ = some (.int .i64 num) := by rw [Below.cell (Below.drew (Ext.alloc w _)) l3]; exact h3
  have k4 : (w.alloc (.cells (pc (t, i, r)).toArray 104)).drew.cell? ⟨rb, 0, none⟩ = some (.int .i64 q) := by rw [Below.cell (Below.drew (Ext.alloc w _)) l4]; exact h4
  have e0 : (w.alloc (.cells (pc (t, i, r)).toArray 104)).drew.cell? ⟨w.heap.size, 0, none⟩ = some (.int .u8 t) := range_new w (t, i, r) 0 _ rfl
  have e4 : (w.alloc (.cells (pc (t, i, r)).toArray 104)).drew.cell? ⟨w.heap.size, 4, none⟩ = some (.int .i64 i) := by simpa using range_new w (t, i, r) 4 _ rfl
  have hrg : (w.alloc (.cells (pc (t, i, r)).toArray 104)).drew.rangeAt w.heap.size 0 (pc (t, i, r)) := range_new w (t, i, r)
  have HX : Hid (Ext w (w.alloc (.cells (pc (t, i, r)).toArray 104))) := Ext.alloc w _
  clear h1 h2 h3 h4
  obtain ⟨e1, he1⟩ : ∃ b, b = decide (t = 2) := ⟨_, rfl⟩
  obtain ⟨e2, he2⟩ : ∃ b, b = decide (i = num) := ⟨_, rfl⟩
  rw [← he1, ← he2]
  obtain ⟨res, hres⟩ : ∃ b, b = decide (r < q) := ⟨_, rfl⟩
  rw [← hres]
  have sv : ∀ (j : Nat) (v : Value), skp56 e1 e2 j = false → (match j with | 0 | 1 | 5 => Value.pointer (some ⟨w.heap.size, 0, none⟩) | 2 => .int .u8 t | 3 | 4 => .bool e1 | 6 => .pointer (some ⟨w.heap.size, 4, none⟩) | 7 => .int .i64 i | 8 | 9 => .pointer (some ⟨ib, 0, none⟩) | 10 => .pointer (some ⟨ib, 1, none⟩) | 11 => .int .i64 num | 12 => .bool e2 | 13 | 14 => .bool (e1 && e2) | 15 => .func (.func 45) #[] #[.pointer (some ⟨rb, 0, none⟩)] | 16 => .agg (pc (t, i, r)).toArray | 17 => .bool res | 18 => .bool (e1 && e2 && res) | _ => undef) = v → val56 e1 e2 w.heap.size c2 ib rb t i r num res j = v := by
    intro j v hj hv
    unfold val56
    rw [if_neg (by rw [hj]; decide)]
    exact hv
  go_enter Try.func56, Try.ntmps56
  go_wp2_with fail
  by_cases hc : (e1 && e2) = true
  · have h17 : skp56 e1 e2 17 = false := by revert hc; cases e1 <;> cases e2 <;> simp [skp56]
    refine wp_region_mid (last := 17) (d := fun k => ds56.getD k 0) (val := val56 e1 e2 w.heap.size c2 ib rb t i r num res) (skp := skp56 e1 e2) (by kernel_rfl) ?_ _ rfl ?_
    · refine law5_of (ds := ds56) (gs := gs56) (by kernel_rfl) (fun i hi => by omega) (fun k _ hk => gv56 e1 e2 w.heap.size c2 ib rb t i r num res k (by omega)) h17 (fun k _ _ hk => by unfold val56; rw [if_pos hk]) ?_
      intro i' o' a hfm hlt ho hsk hpre hoth
      match i', ho, hlt with
    | 0, ho, hlt =>
      simp at ho; subst ho
      refine (ex_field104_0 _ _ (.tmp 3) _ _ _ rfl (hoth 3 (by decide))).trans ?_
      rw [sv 0 (.pointer (some ⟨w.heap.size, 0, none⟩)) hsk rfl]
    | 1, ho, hlt =>
      simp at ho; subst ho
      have q0 : a.tmps.getD 5 undef = .pointer (some ⟨w.heap.size, 0, none⟩) := (hpre { on := 0, ground := .data } (by simp) rfl).trans (sv 0 (.pointer (some ⟨w.heap.size, 0, none⟩)) (by simp [skp56] at hsk ⊢ <;> simp [hsk]) rfl)
      refine (ex_field95_0 _ _ (.tmp 5) _ _ _ rfl q0).trans ?_
      rw [sv 1 (.pointer (some ⟨w.heap.size, 0, none⟩)) hsk rfl]
    | 2, ho, hlt =>
      simp at ho; subst ho
      have q1 : a.tmps.getD 6 undef = .pointer (some ⟨w.heap.size, 0, none⟩) := (hpre { on := 1, ground := .data } (by simp) rfl).trans (sv 1 (.pointer (some ⟨w.heap.size, 0, none⟩)) (by simp [skp56] at hsk ⊢ <;> simp [hsk]) rfl)
      refine (ex_load90 _ _ (.tmp 6) _ _ _ rfl q1 e0).trans ?_
      rw [sv 2 (.int .u8 t) hsk rfl]
    | 3, ho, hlt =>
      simp at ho; subst ho
      have q2 : a.tmps.getD 7 undef = .int .u8 t := (hpre { on := 2, ground := .data } (by simp) rfl).trans (sv 2 (.int .u8 t) (by simp [skp56] at hsk ⊢ <;> simp [hsk]) rfl)
      refine (ex_eql90 _ _ (.tmp 7) (.const (.int .u8 2)) _ _ _ rfl q2 rfl).trans ?_
      rw [sv 3 (.bool e1) hsk rfl, he1]
    | 4, ho, hlt =>
      simp at ho; subst ho
      have q3 : a.tmps.getD 8 undef = .bool e1 := (hpre { on := 3, ground := .data } (by simp) rfl).trans (sv 3 (.bool e1) (by simp [skp56] at hsk ⊢ <;> simp [hsk]) rfl)
      refine ((ex_move _ _ (.tmp 8) _ (.inl rfl)).trans (by rw [show Act.eval a (.tmp 8) = _ from q3])).trans ?_
      rw [sv 4 (.bool e1) hsk rfl]
    | 5, ho, hlt =>
      simp at ho; subst ho
      refine (ex_field104_0 _ _ (.tmp 3) _ _ _ rfl (hoth 3 (by decide))).trans ?_
      rw [sv 5 (.pointer (some ⟨w.heap.size, 0, none⟩)) hsk rfl]
    | 6, ho, hlt =>
      simp at ho; subst ho
      have q5 : a.tmps.getD 10 undef = .pointer (some ⟨w.heap.size, 0, none⟩) := (hpre { on := 5, ground := .data } (by simp) rfl).trans (sv 5 (.pointer (some ⟨w.heap.size, 0, none⟩)) (by simp [skp56] at hsk ⊢ <;> simp [hsk]) rfl)
      refine (ex_field95_4 _ _ (.tmp 10) _ _ _ rfl q5).trans ?_
      rw [sv 6 (.pointer (some ⟨w.heap.size, 4, none⟩)) hsk rfl]
    | 7, ho, hlt =>
      simp at ho; subst ho
      have q6 : a.tmps.getD 11 undef = .pointer (some ⟨w.heap.size, 4, none⟩) := (hpre { on := 6, ground := .data } (by simp) rfl).trans (sv 6 (.pointer (some ⟨w.heap.size, 4, none⟩)) (by simp [skp56] at hsk ⊢ <;> simp [hsk]) rfl)
      refine (ex_load3 _ _ (.tmp 11) _ _ _ rfl q6 e4).trans ?_
      rw [sv 7 (.int .i64 i) hsk rfl]
    | 8, ho, hlt =>
      simp at ho; subst ho
      refine (ex_load32 _ _ (.tmp 1) _ _ _ rfl (hoth 1 (by decide)) k1).trans ?_
      rw [sv 8 (.pointer (some ⟨ib, 0, none⟩)) hsk rfl]
    | 9, ho, hlt =>
      simp at ho; subst ho
      have q8 : a.tmps.getD 13 undef = .pointer (some ⟨ib, 0, none⟩) := (hpre { on := 8, ground := .data } (by simp) rfl).trans (sv 8 (.pointer (some ⟨ib, 0, none⟩)) (by simp [skp56] at hsk ⊢ <;> simp [hsk]) rfl)
      refine (ex_nil _ _ (.tmp 13) _ _ rfl q8).trans ?_
      rw [sv 9 (.pointer (some ⟨ib, 0, none⟩)) hsk rfl]
    | 10, ho, hlt =>
      simp at ho; subst ho
      have q9 : a.tmps.getD 14 undef = .pointer (some ⟨ib, 0, none⟩) := (hpre { on := 9, ground := .data } (by simp) rfl).trans (sv 9 (.pointer (some ⟨ib, 0, none⟩)) (by simp [skp56] at hsk ⊢ <;> simp [hsk]) rfl)
      refine (ex_field88_1 _ _ (.tmp 14) _ _ rfl q9).trans ?_
      rw [sv 10 (.pointer (some ⟨ib, 1, none⟩)) hsk rfl]
    | 11, ho, hlt =>
      simp at ho; subst ho
      have q10 : a.tmps.getD 15 undef = .pointer (some ⟨ib, 1, none⟩) := (hpre { on := 10, ground := .data } (by simp) rfl).trans (sv 10 (.pointer (some ⟨ib, 1, none⟩)) (by simp [skp56] at hsk ⊢ <;> simp [hsk]) rfl)
      refine (ex_load3 _ _ (.tmp 15) _ _ _ rfl q10 k3).trans ?_
      rw [sv 11 (.int .i64 num) hsk rfl]
    | 12, ho, hlt =>
      simp at ho; subst ho
      have q7 : a.tmps.getD 12 undef = .int .i64 i := (hpre { on := 7, ground := .data } (by simp) rfl).trans (sv 7 (.int .i64 i) (by simp [skp56] at hsk ⊢ <;> simp [hsk]) rfl)
      have q11 : a.tmps.getD 16 undef = .int .i64 num := (hpre { on := 11, ground := .data } (by simp) rfl).trans (sv 11 (.int .i64 num) (by simp [skp56] at hsk ⊢ <;> simp [hsk]) rfl)
      refine (ex_eql3 _ _ (.tmp 12) (.tmp 16) _ _ _ rfl q7 q11).trans ?_
      rw [sv 12 (.bool e2) hsk rfl, he2]
    | 13, ho, hlt =>
      simp at ho; subst ho
      have q4 : a.tmps.getD 9 undef = .bool e1 := (hpre { on := 4, ground := .data } (by simp) rfl).trans (sv 4 (.bool e1) (by simp [skp56]) rfl)
      have q12 : a.tmps.getD 17 undef = val56 e1 e2 w.heap.size c2 ib rb t i r num res 12 := hpre { on := 12, ground := .data } (by simp) rfl
      refine (ex_pick _ _ (.tmp 9) (.tmp 17) (.const (.bool false)) e1 _ rfl q4).trans ?_
      show Result.ok (Next.value (if e1 = true then a.tmps.getD 17 undef else .bool false)) _ = _
      rw [q12]
      cases e1 <;> cases e2 <;> simp [val56, skp56]
    | 14, ho, hlt =>
      simp at ho; subst ho
      have q13 : a.tmps.getD 18 undef = .bool (e1 && e2) := (hpre { on := 13, ground := .data } (by simp) rfl).trans (sv 13 (.bool (e1 && e2)) (by simp [skp56] at hsk ⊢ <;> simp [hsk]) rfl)
      refine ((ex_move _ _ (.tmp 18) _ (.inl rfl)).trans (by rw [show Act.eval a (.tmp 18) = _ from q13])).trans ?_
      rw [sv 14 (.bool (e1 && e2)) hsk rfl]
    | 15, ho, hlt =>
      simp at ho; subst ho
      refine (ex_load106 _ _ (.tmp 2) _ _ _ rfl (hoth 2 (by decide)) k2).trans ?_
      rw [sv 15 (.func (.func 45) #[] #[.pointer (some ⟨rb, 0, none⟩)]) hsk rfl]
    | 16, ho, hlt =>
      simp at ho; subst ho
      refine (ex_load104 _ _ (.tmp 3) _ _ (t, i, r) _ rfl (hoth 3 (by decide)) hrg).trans ?_
      rw [sv 16 (.agg (pc (t, i, r)).toArray) hsk rfl]
    | n + 17, ho, hlt => omega
    · have h1 : e1 = true := by revert hc; cases e1 <;> simp
      have h2 : e2 = true := by revert hc; cases e2 <;> simp
      subst h1; subst h2
      have ht2 : t = 2 := by simpa using he1.symm
      clear sv k1 k2 k3 e0 e4 hrg
      have hx0 := HX
      refine after56' ?_
      intro K' Q' hK hQ
      generalize hL : laid _ _ _ 17 = L
      refine after56 (q := q) hL hK ?ht ?hres ?hT ?ok ?hsz ?p17 ?d17 rfl ?p18 ?e14 ?e17 rfl ?p19 ?d19 ?k4 ?l4 ?done
      case ht => exact ht2
      case hres => exact hres
      case hT => exact rfl
      case ok => kernel_rfl
      case hsz => exact rfl
      case p17 => exact rfl
      case d17 => exact rfl
      case p18 => exact rfl
      case e14 => simp
      case e17 => simp
      case p19 => exact rfl
      case d19 => exact rfl
      case k4 => exact k4
      case l4 => simp; omega
      clear hL hK hQ
      intro a w2 hx2 hd hs h4
      have HX2 : Hid (Ext w w2) := Ext.trans (Below.drew HX.out) hx2
      clear hx2
      obtain ⟨tm, df⟩ := a
      have hd' : df = [] := hd
      subst hd'
      simp only at h4
      clear k4 he1 he2 hres hx0 hs
      go_wp2_with fail
      go_ret
      rw [h4]
      exact ⟨rfl, HX2.out⟩
  · have h17 : skp56 e1 e2 17 = true := by revert hc; cases e1 <;> cases e2 <;> simp [skp56]
    refine wp_region_mid (last := 19) (d := fun k => ds56.getD k 0) (val := val56 e1 e2 w.heap.size c2 ib rb t i r num res) (skp := skp56 e1 e2) (by kernel_rfl) ?_ _ rfl ?_
    · refine law5_of (ds := ds56) (gs := gs56) (by kernel_rfl) (fun i hi => by omega) (fun k _ hk => gv56 e1 e2 w.heap.size c2 ib rb t i r num res k hk) (by cases e1 <;> cases e2 <;> simp [skp56]) (fun k _ _ hk => by unfold val56; rw [if_pos hk]) ?_
      intro i' o' a hfm hlt ho hsk hpre hoth
      match i', ho, hlt with
    | 0, ho, hlt =>
      simp at ho; subst ho
      refine (ex_field104_0 _ _ (.tmp 3) _ _ _ rfl (hoth 3 (by decide))).trans ?_
      rw [sv 0 (.pointer (some ⟨w.heap.size, 0, none⟩)) hsk rfl]
    | 1, ho, hlt =>
      simp at ho; subst ho
      have q0 : a.tmps.getD 5 undef = .pointer (some ⟨w.heap.size, 0, none⟩) := (hpre { on := 0, ground := .data } (by simp) rfl).trans (sv 0 (.pointer (some ⟨w.heap.size, 0, none⟩)) (by simp [skp56] at hsk ⊢ <;> simp [hsk]) rfl)
      refine (ex_field95_0 _ _ (.tmp 5) _ _ _ rfl q0).trans ?_
      rw [sv 1 (.pointer (some ⟨w.heap.size, 0, none⟩)) hsk rfl]
    | 2, ho, hlt =>
      simp at ho; subst ho
      have q1 : a.tmps.getD 6 undef = .pointer (some ⟨w.heap.size, 0, none⟩) := (hpre { on := 1, ground := .data } (by simp) rfl).trans (sv 1 (.pointer (some ⟨w.heap.size, 0, none⟩)) (by simp [skp56] at hsk ⊢ <;> simp [hsk]) rfl)
      refine (ex_load90 _ _ (.tmp 6) _ _ _ rfl q1 e0).trans ?_
      rw [sv 2 (.int .u8 t) hsk rfl]
    | 3, ho, hlt =>
      simp at ho; subst ho
      have q2 : a.tmps.getD 7 undef = .int .u8 t := (hpre { on := 2, ground := .data } (by simp) rfl).trans (sv 2 (.int .u8 t) (by simp [skp56] at hsk ⊢ <;> simp [hsk]) rfl)
      refine (ex_eql90 _ _ (.tmp 7) (.const (.int .u8 2)) _ _ _ rfl q2 rfl).trans ?_
      rw [sv 3 (.bool e1) hsk rfl, he1]
    | 4, ho, hlt =>
      simp at ho; subst ho
      have q3 : a.tmps.getD 8 undef = .bool e1 := (hpre { on := 3, ground := .data } (by simp) rfl).trans (sv 3 (.bool e1) (by simp [skp56] at hsk ⊢ <;> simp [hsk]) rfl)
      refine ((ex_move _ _ (.tmp 8) _ (.inl rfl)).trans (by rw [show Act.eval a (.tmp 8) = _ from q3])).trans ?_
      rw [sv 4 (.bool e1) hsk rfl]
    | 5, ho, hlt =>
      simp at ho; subst ho
      refine (ex_field104_0 _ _ (.tmp 3) _ _ _ rfl (hoth 3 (by decide))).trans ?_
      rw [sv 5 (.pointer (some ⟨w.heap.size, 0, none⟩)) hsk rfl]
    | 6, ho, hlt =>
      simp at ho; subst ho
      have q5 : a.tmps.getD 10 undef = .pointer (some ⟨w.heap.size, 0, none⟩) := (hpre { on := 5, ground := .data } (by simp) rfl).trans (sv 5 (.pointer (some ⟨w.heap.size, 0, none⟩)) (by simp [skp56] at hsk ⊢ <;> simp [hsk]) rfl)
      refine (ex_field95_4 _ _ (.tmp 10) _ _ _ rfl q5).trans ?_
      rw [sv 6 (.pointer (some ⟨w.heap.size, 4, none⟩)) hsk rfl]
    | 7, ho, hlt =>
      simp at ho; subst ho
      have q6 : a.tmps.getD 11 undef = .pointer (some ⟨w.heap.size, 4, none⟩) := (hpre { on := 6, ground := .data } (by simp) rfl).trans (sv 6 (.pointer (some ⟨w.heap.size, 4, none⟩)) (by simp [skp56] at hsk ⊢ <;> simp [hsk]) rfl)
      refine (ex_load3 _ _ (.tmp 11) _ _ _ rfl q6 e4).trans ?_
      rw [sv 7 (.int .i64 i) hsk rfl]
    | 8, ho, hlt =>
      simp at ho; subst ho
      refine (ex_load32 _ _ (.tmp 1) _ _ _ rfl (hoth 1 (by decide)) k1).trans ?_
      rw [sv 8 (.pointer (some ⟨ib, 0, none⟩)) hsk rfl]
    | 9, ho, hlt =>
      simp at ho; subst ho
      have q8 : a.tmps.getD 13 undef = .pointer (some ⟨ib, 0, none⟩) := (hpre { on := 8, ground := .data } (by simp) rfl).trans (sv 8 (.pointer (some ⟨ib, 0, none⟩)) (by simp [skp56] at hsk ⊢ <;> simp [hsk]) rfl)
      refine (ex_nil _ _ (.tmp 13) _ _ rfl q8).trans ?_
      rw [sv 9 (.pointer (some ⟨ib, 0, none⟩)) hsk rfl]
    | 10, ho, hlt =>
      simp at ho; subst ho
      have q9 : a.tmps.getD 14 undef = .pointer (some ⟨ib, 0, none⟩) := (hpre { on := 9, ground := .data } (by simp) rfl).trans (sv 9 (.pointer (some ⟨ib, 0, none⟩)) (by simp [skp56] at hsk ⊢ <;> simp [hsk]) rfl)
      refine (ex_field88_1 _ _ (.tmp 14) _ _ rfl q9).trans ?_
      rw [sv 10 (.pointer (some ⟨ib, 1, none⟩)) hsk rfl]
    | 11, ho, hlt =>
      simp at ho; subst ho
      have q10 : a.tmps.getD 15 undef = .pointer (some ⟨ib, 1, none⟩) := (hpre { on := 10, ground := .data } (by simp) rfl).trans (sv 10 (.pointer (some ⟨ib, 1, none⟩)) (by simp [skp56] at hsk ⊢ <;> simp [hsk]) rfl)
      refine (ex_load3 _ _ (.tmp 15) _ _ _ rfl q10 k3).trans ?_
      rw [sv 11 (.int .i64 num) hsk rfl]
    | 12, ho, hlt =>
      simp at ho; subst ho
      have q7 : a.tmps.getD 12 undef = .int .i64 i := (hpre { on := 7, ground := .data } (by simp) rfl).trans (sv 7 (.int .i64 i) (by simp [skp56] at hsk ⊢ <;> simp [hsk]) rfl)
      have q11 : a.tmps.getD 16 undef = .int .i64 num := (hpre { on := 11, ground := .data } (by simp) rfl).trans (sv 11 (.int .i64 num) (by simp [skp56] at hsk ⊢ <;> simp [hsk]) rfl)
      refine (ex_eql3 _ _ (.tmp 12) (.tmp 16) _ _ _ rfl q7 q11).trans ?_
      rw [sv 12 (.bool e2) hsk rfl, he2]
    | 13, ho, hlt =>
      simp at ho; subst ho
      have q4 : a.tmps.getD 9 undef = .bool e1 := (hpre { on := 4, ground := .data } (by simp) rfl).trans (sv 4 (.bool e1) (by simp [skp56]) rfl)
      have q12 : a.tmps.getD 17 undef = val56 e1 e2 w.heap.size c2 ib rb t i r num res 12 := hpre { on := 12, ground := .data } (by simp) rfl
      refine (ex_pick _ _ (.tmp 9) (.tmp 17) (.const (.bool false)) e1 _ rfl q4).trans ?_
      show Result.ok (Next.value (if e1 = true then a.tmps.getD 17 undef else .bool false)) _ = _
      rw [q12]
      cases e1 <;> cases e2 <;> simp [val56, skp56]
    | 14, ho, hlt =>
      simp at ho; subst ho
      have q13 : a.tmps.getD 18 undef = .bool (e1 && e2) := (hpre { on := 13, ground := .data } (by simp) rfl).trans (sv 13 (.bool (e1 && e2)) (by simp [skp56] at hsk ⊢ <;> simp [hsk]) rfl)
      refine ((ex_move _ _ (.tmp 18) _ (.inl rfl)).trans (by rw [show Act.eval a (.tmp 18) = _ from q13])).trans ?_
      rw [sv 14 (.bool (e1 && e2)) hsk rfl]
    | 15, ho, hlt =>
      simp at ho; subst ho
      refine (ex_load106 _ _ (.tmp 2) _ _ _ rfl (hoth 2 (by decide)) k2).trans ?_
      rw [sv 15 (.func (.func 45) #[] #[.pointer (some ⟨rb, 0, none⟩)]) hsk rfl]
    | 16, ho, hlt =>
      simp at ho; subst ho
      refine (ex_load104 _ _ (.tmp 3) _ _ (t, i, r) _ rfl (hoth 3 (by decide)) hrg).trans ?_
      rw [sv 16 (.agg (pc (t, i, r)).toArray) hsk rfl]
    | 17, ho, hlt => rw [h17] at hsk; cases hsk
    | 18, ho, hlt =>
      simp at ho; subst ho
      have q14 : a.tmps.getD 19 undef = .bool (e1 && e2) := (hpre { on := 14, ground := .data } (by simp) rfl).trans (sv 14 (.bool (e1 && e2)) (by simp [skp56]) rfl)
      have q17 : a.tmps.getD 22 undef = val56 e1 e2 w.heap.size c2 ib rb t i r num res 17 := hpre { on := 17, ground := .data } (by simp) rfl
      refine (ex_pick _ _ (.tmp 19) (.tmp 22) (.const (.bool false)) (e1 && e2) _ rfl q14).trans ?_
      show Result.ok (Next.value (if (e1 && e2) = true then a.tmps.getD 22 undef else .bool false)) _ = _
      rw [q17]
      cases e1 <;> cases e2 <;> simp [val56, skp56]
    | n + 19, ho, hlt => omega
    · have hE : (e1 && e2 && res) = false := by revert hc; cases e1 <;> cases e2 <;> simp
      have HX2 : Hid (Ext w (w.alloc (.cells (pc (t, i, r)).toArray 104)).drew) := Below.drew HX.out
      clear sv k1 k2 k3 k4 e0 e4 hrg
      cases e1 <;> cases e2
      · refine mid_assign (by rfl) (.tmp 23) (.inr rfl) ?_
        simp [laid, ds56, val56, skp56]
        go_wp2_with fail
        go_ret
        exact ⟨by first | rfl | simp, HX2.out⟩
      · refine mid_assign (by rfl) (.tmp 23) (.inr rfl) ?_
        simp [laid, ds56, val56, skp56]
        go_wp2_with fail
        go_ret
        exact ⟨by first | rfl | simp, HX2.out⟩
      · refine mid_assign (by rfl) (.tmp 23) (.inr rfl) ?_
        simp [laid, ds56, val56, skp56]
        go_wp2_with fail
        go_ret
        exact ⟨by first | rfl | simp, HX2.out⟩
      · exact absurd rfl hc
end Go.Proofs.Qxb6616238a.Grow
