import Derived.Test.Qxb6616238aRowD
namespace Go.Proofs.Qxb6616238a.Grow
set_option linter.unusedVariables false
set_option linter.unusedSimpArgs false
set_option maxRecDepth 100000
open Go.ChangeShapes Go.WideShapes Go.ChangeAt Go.RowKit Go.Lib

theorem cf56 (v : Array Value) (w : World) : (callFunc 56 v).run Try.prog w = .ok (.enter 56 v) w := by kernel_rfl
theorem size104 : (Try.prog.info? 104).map (·.size) = some 23 := by kernel_rfl
theorem pc_info (p : Msg3) : (Try.prog.info? 104).map (·.size) = some (pc p).length := by rw [pc_length]; exact size104

theorem store_new {P : Program} (w : World) {ops : Array Oper} {rest : List Oper} {op : Oper} {a : Act} {Q : Exit → Act → World → Prop} (hgd : op.guard = none) (ty : TypeId) (x y : Operand) (ho : op.op = .store ty x y)
    (c c' : Array Value) (hx : a.eval x = .pointer (some ⟨w.heap.size, 0, none⟩)) (hy : a.eval y = .agg c') (hi : (P.info? ty).map (·.size) = some c'.size) (hs : c.size = c'.size) (h1 : c'.all (·.oneCell') = true)
    (h : wpList P ops Q rest (a.put op.dst undef) (w.alloc (.cells c' ty))) : wpList P ops Q (op :: rest) a (w.alloc (.cells c ty)) := by
  refine wpList_plain hgd fun K hK => ?_
  have hk := hK _ _ h
  unfold Oper.wp execOp
  simp only [ho, hx, hy, Sem.run_bind, run_storeAt_new w ty c c' hi hs h1, Result.andThen_ok]
  exact hk
theorem load_new {P : Program} (w : World) {ops : Array Oper} {rest : List Oper} {op : Oper} {a : Act} {Q : Exit → Act → World → Prop} (hgd : op.guard = none) (ty : TypeId) (x : Operand) (ho : op.op = .load ty x)
    (c : Array Value) (hx : a.eval x = .pointer (some ⟨w.heap.size, 0, none⟩)) (d : TypeDesc) (hu : P.underlying ty = some d) (hd : d.isRow = true) (hi : (P.info? ty).map (·.size) = some c.size)
    (h : wpList P ops Q rest (a.put op.dst (.agg c)) (w.alloc (.cells c ty))) : wpList P ops Q (op :: rest) a (w.alloc (.cells c ty)) := by
  refine wpList_load_mid hgd ty x ho w.heap.size 0 hx c.toList d (fun j v hv => ?_) hu hd (by simpa using hi) (by simpa using h)
  rw [Nat.zero_add, cell_of_row _ _ j c ty (0, 0) (heap_alloc_last w _)]
  simpa using hv

theorem store_mid_eq {P : Program} {ops : Array Oper} {rest : List Oper} {op : Oper} {a : Act} {w w' : World} {Q : Exit → Act → World → Prop} (hgd : op.guard = none) (ty : TypeId) (x y : Operand) (ho : op.op = .store ty x y)
    (b o : Nat) (cells : Array Value) (hx : a.eval x = .pointer (some ⟨b, o, none⟩)) (hy : a.eval y = .agg cells)
    (ht : w.there b o cells.size) (hi : (P.info? ty).map (·.size) = some cells.size) (h1 : cells.all (·.oneCell') = true) (hw : Hid (w' = w.setCells b o cells.toList))
    (h : wpList P ops Q rest (a.put op.dst undef) w') : wpList P ops Q (op :: rest) a w :=
  wpList_store_mid hgd ty x y ho b o cells hx hy ht hi h1 (by rw [← hw.out]; exact h)

/-- 'clear' over a row of 23-cell messages: zero cells from its head on. -/
theorem run_clear23 (w : World) (ty : TypeId) (g o n c : Nat) (hn : 0 < n) (ht : w.there g o (n * 23)) : ∃ vs, (Builtin.clear_ #[60] ty #[.slice (some ⟨g, o, none⟩) n c]).run Try.prog w = .ok (.tuple #[]) (w.setCells g o vs) := by
  have hv : ∀ w, (zeroValue 104).run Try.prog w = .ok (.agg (pc (0, 0, 0)).toArray) w := fun w => by
    obtain ⟨i0, hi, hz0, hz1, hz2⟩ := info_parts info104
    simp [zeroValue, typeInfo, hi, hz0]
  obtain ⟨zc, hzc⟩ : ∃ zc, zc = (Builtin.zeroCells (Value.agg (pc (0, 0, 0)).toArray).cells n).toList := ⟨_, rfl⟩
  have hl : zc.length = n * 23 := by rw [hzc]; simp [Builtin.zeroCells, Value.cells, pc_length]
  have h1 : ∀ v ∈ zc, v.oneCell' = true := by
    intro v hv
    rw [hzc] at hv
    simp only [Builtin.zeroCells, Value.cells, Array.toList_map, List.mem_map] at hv
    obtain ⟨i, hi, rfl⟩ := hv
    have hlt : i % (pc (0, 0, 0)).toArray.size < (pc (0, 0, 0)).toArray.size := Nat.mod_lt _ (by rw [List.size_toArray, pc_length]; decide)
    rw [getElem!_pos (pc (0, 0, 0)).toArray _ hlt]
    exact pc_one (0, 0, 0) _ (by simp)
  have hst := run_storeCells_cells (P := Try.prog) g o zc 0 w (fun j hj => by simpa using (ht j (by omega)).1) (fun j hj => by simpa using (ht j (by omega)).2) h1
  simp only [Nat.add_zero] at hst
  obtain ⟨m, rfl⟩ : ∃ m, n = m + 1 := ⟨n - 1, by omega⟩
  refine ⟨zc, ?_⟩
  simp [Builtin.clear_, run_underlying Try.underlying60, hv, ← hzc, hst]

set_option maxHeartbeats 2000000 in
theorem index_any (g cap : Nat) (c1 c2 : Nat) (d : Array Msg3) (p : Msg3 → Bool) (w : World) (hR : RowD w g cap d) (hsz : d.size ≤ 65536)
    (hcall : ∀ (W : World) (x : Msg3), Ext w W → Calls Try.prog 56 #[.agg (pc x).toArray, .pointer (some ⟨c1, 0, none⟩), .pointer (some ⟨c2, 0, none⟩)] W fun e w' => e = .returned (.bool (p x)) ∧ Ext W w') :
    Calls Try.prog 59 #[.slice (some ⟨g, 0, none⟩) d.size cap, .func (.func 56) #[] #[.pointer (some ⟨c1, 0, none⟩), .pointer (some ⟨c2, 0, none⟩)]] w fun e w' => Ext w w' ∧ ((e = .returned (.int .i64 (-1)) ∧ ∀ j, j < d.size → p d[j]! = false) ∨ ∃ k : Nat, k < d.size ∧ e = .returned (.int .i64 k) ∧ p d[k]! = true ∧ ∀ j, j < k → p d[j]! = false) := by
  have HR : Hid (RowD w g cap d) := hR
  have HC : Hid (∀ (W : World) (x : Msg3), Ext w W → Calls Try.prog 56 #[.agg (pc x).toArray, .pointer (some ⟨c1, 0, none⟩), .pointer (some ⟨c2, 0, none⟩)] W fun e w' => e = .returned (.bool (p x)) ∧ Ext W w') := hcall
  clear hR hcall
  have eg := cf56
  go_enter Try.func59, Try.ntmps59
  go_wp2_with fail
  go_loopw [5, 8] (fun _ iv wr => ∃ k : Nat, k ≤ d.size ∧ iv = .int .i64 k ∧ Hid (Ext w wr) ∧ Hid (∀ j, j < k → p d[j]! = false)) (fun _ iv _ => d.size - (intOf iv).toNat)
  case atStart => exact ⟨0, Nat.zero_le _, rfl, Ext.refl w, fun j hj => absurd hj (Nat.not_lt_zero _)⟩
  case round =>
    obtain ⟨k, hk, rfl, HX, HA⟩ := hrel
    by_cases hlt : k < d.size
    · have hlt' : (k : Int) < d.size := by omega
      have hrg : wr.rangeAt g (k * 23) (pc d[k]!) := (HR.out.kept (Below.block HX.out g HR.out.lt)).range hlt
      have hc := HC.out wr d[k]! HX.out
      have HD : Hid (∀ b, p d[k]! = b → p d[k]! = b) := fun b h => h
      generalize hx : d[k]! = x at hrg hc HD
      have HXX : Hid (d[k]! = x) := hx
      clear hx
      have hi := pc_info x
      go_wp2_with (refine wpList_load_mid rfl 104 (.tmp 14) rfl g (k * 23) rfl (pc x) _ hrg Try.underlying104 rfl hi ?_)
      refine hc.mono ?_
      rintro e w2 ⟨rfl, hx2⟩
      have HX2 : Hid (Ext w w2) := Ext.trans HX.out hx2
      clear hx2 hc hrg hi
      cases hq : p x with
      | true =>
        go_wp2_with fail
        go_ret
        exact ⟨HX2.out, .inr ⟨k, hlt, rfl, by rw [HXX.out]; exact hq, HA.out⟩⟩
      | false =>
        go_wp2_with fail
        go_roundw
        case rel => exact ⟨k + 1, by omega, by go_num, HX2.out, fun j hj => by
          by_cases e : j = k
          · subst e; rw [HXX.out]; exact hq
          · exact HA.out j (by omega)⟩
        case measure => simp [intOf]; omega
    · have hke : k = d.size := by omega
      subst hke
      go_wp2_with fail
      go_ret
      exact ⟨HX.out, .inl ⟨rfl, HA.out⟩⟩

set_option maxHeartbeats 1000000 in
theorem index_nil (fv : Value) (w : World) : Calls Try.prog 59 #[.slice none 0 0, fv] w fun e w' => e = .returned (.int .i64 (-1)) ∧ w' = w := by
  go_enter Try.func59, Try.ntmps59
  go_wp2_with fail
  go_loopw [5, 8] (fun _ iv wr => iv = .int .i64 0 ∧ wr = w) (fun _ _ _ => 0)
  case atStart => exact ⟨rfl, rfl⟩
  case round =>
    obtain ⟨rfl, rfl⟩ := hrel
    go_wp2_with fail
    go_ret
    exact ⟨rfl, rfl⟩

set_option maxHeartbeats 4000000 in
theorem del_any (g cap : Nat) (c1 c2 : Nat) (d : Array Msg3) (p : Msg3 → Bool) (w : World) (hR : RowD w g cap d) (hsz : d.size ≤ 65536) (hcm : cap ≤ maxLen)
    (hcall : ∀ (W : World) (x : Msg3), w.grownBy W (some g) → Calls Try.prog 56 #[.agg (pc x).toArray, .pointer (some ⟨c1, 0, none⟩), .pointer (some ⟨c2, 0, none⟩)] W fun e w' => e = .returned (.bool (p x)) ∧ Ext W w') :
    Calls Try.prog 55 #[.slice (some ⟨g, 0, none⟩) d.size cap, .func (.func 56) #[] #[.pointer (some ⟨c1, 0, none⟩), .pointer (some ⟨c2, 0, none⟩)]] w fun e w' => ∃ n : Nat, e = .returned (.slice (some ⟨g, 0, none⟩) n cap) ∧ w.grownBy w' (some g) ∧ n = (d.toList.filter fun x => !p x).length ∧ RowD w' g cap (d.toList.filter fun x => !p x).toArray := by
  have HR : Hid (RowD w g cap d) := hR
  have HC : Hid (∀ (W : World) (x : Msg3), w.grownBy W (some g) → Calls Try.prog 56 #[.agg (pc x).toArray, .pointer (some ⟨c1, 0, none⟩), .pointer (some ⟨c2, 0, none⟩)] W fun e w' => e = .returned (.bool (p x)) ∧ Ext W w') := hcall
  have hix := index_any g cap c1 c2 d p w hR hsz (fun W x hx => hcall W x (grown_ext (grown_refl w _) hx))
  clear hR hcall
  obtain ⟨kp, HK⟩ : ∃ kp : Nat → Bool, Hid (kp = fun j => !p d[j]!) := ⟨_, rfl⟩
  have hfil : (d.toList.filter fun x => !p x) = keptUpTo kp d d.size := by rw [HK.out]; exact (keptUpTo_filter (fun x => !p x) d).symm
  rw [hfil]
  have hcd : d.size ≤ cap := by obtain ⟨_, _, _, h, _⟩ := HR.out; exact h
  have eg := cf56
  go_enter Try.func55, Try.ntmps55
  go_wp2_with fail
  refine hix.mono ?_
  rintro e w1 ⟨hx1, ⟨rfl, hall⟩ | ⟨k0, hk0, rfl, ht, hall⟩⟩
  · have e3 : keptUpTo kp d d.size = d.toList := by rw [keptUpTo_all kp d _ (fun j hj => by rw [HK.out]; show (!p d[j]!) = true; rw [hall j hj]; rfl), range_map_get]
    have HE : Hid (keptUpTo kp d d.size = d.toList) := e3
    have HG1 : Hid (w.grownBy w1 (some g)) := grown_ext (grown_refl w _) hx1
    have HR1 : Hid (RowD w1 g cap d) := HR.out.kept (Below.block hx1 g HR.out.lt)
    clear hx1 hall hix hfil e3
    go_wp2_with fail
    go_ret
    exact ⟨_, rfl, HG1.out, by rw [HE.out]; simp, by rw [HE.out]; simpa using HR1.out⟩
  · have hne1 : ((k0 : Int) == -1) = false := beq_eq_false_iff_ne.2 (by omega)
    have HI0 : Hid (KeptInv kp d (k0 + 1) k0 d) := KeptInv.start (fun j hj => by rw [HK.out]; show (!p d[j]!) = true; rw [hall j hj]; rfl) (by rw [HK.out]; show (!p d[k0]!) = false; rw [ht]; rfl)
    have HG1 : Hid (w.grownBy w1 (some g)) := grown_ext (grown_refl w _) hx1
    have HR1 : Hid (RowD w1 g cap d) := HR.out.kept (Below.block hx1 g HR.out.lt)
    clear hx1 hall ht hix hfil
    go_wp2_with fail
    go_loopw [5, 6, 7] (fun a b _ wr => ∃ (i j : Nat) (dk : Array Msg3), a = .int .i64 i ∧ b = .int .i64 j ∧ j ≤ d.size ∧ Hid (KeptInv kp d j i dk) ∧ Hid (RowD wr g cap dk) ∧ Hid (w.grownBy wr (some g))) (fun _ b _ _ => d.size - (intOf b).toNat)
    case atStart => exact ⟨k0, k0 + 1, d, rfl, by go_num, by omega, HI0.out, HR1.out, HG1.out⟩
    case round =>
      obtain ⟨i, j, dk, rfl, rfl, hjd, HI, HRk, HG⟩ := hrel
      have hij := HI.out.lt
      have hds := HI.out.size
      by_cases hlt : j < d.size
      · have hltz : (j : Int) < (d.size : Int) := by omega
        have hrg : wr.rangeAt g (j * 23) (pc d[j]!) := by have := HRk.out.range (j := j) (by omega); rwa [HI.out.high j (by omega)] at this
        have hc := HC.out (wr.alloc (.cells (pc d[j]!).toArray 104)) d[j]! (grown_ext HG.out (Ext.alloc wr _))
        have HI1 : Hid (kp j = true → KeptInv kp d (j + 1) (i + 1) (dk.setIfInBounds i d[j]!)) := fun hk => HI.out.keep hlt hk
        have HI2 : Hid (kp j = false → KeptInv kp d (j + 1) i dk) := fun hk => HI.out.skip hk
        have HKj : Hid (kp j = !p d[j]!) := by show _ = _; rw [HK.out]
        clear HI
        generalize d[j]! = x at hrg hc HI1 HI2 HKj
        have hi := pc_info x
        have hia : (Try.prog.info? 104).map (·.size) = some (pc x).toArray.size := by rw [List.size_toArray]; exact hi
        have hone : (pc x).toArray.all (·.oneCell') = true := all_oneCell_toArray (pc_one x)
        have hsx : (pc x).toArray.size = 23 := by rw [List.size_toArray, pc_length]
        go_wp2_with first | (refine wpList_load_mid rfl 104 (.tmp 24) rfl g (j * 23) rfl (pc x) _ hrg Try.underlying104 rfl hi ?_) | (refine store_new _ rfl 104 (.tmp 7) (.tmp 25) rfl _ (pc x).toArray rfl rfl hia (by rw [hsx]; rfl) hone ?_) | (refine load_new _ rfl 104 (.tmp 7) rfl (pc x).toArray rfl _ Try.underlying104 rfl hia ?_)
        refine hc.mono ?_
        rintro e w2 ⟨rfl, hx2⟩
        have hxa : Ext wr w2 := Ext.trans (Ext.alloc wr _) hx2
        have hrg2 : w2.rangeAt wr.heap.size 0 (pc x) := by
          intro q v hv
          rw [Below.cell hx2 (by simp), Nat.zero_add, cell_of_row _ _ q _ _ _ (heap_alloc_last wr _)]
          simpa using hv
        have HG2 : Hid (w.grownBy w2 (some g)) := grown_ext HG.out hxa
        have HR2 : Hid (RowD w2 g cap dk) := HRk.out.kept (Below.block hxa g HRk.out.lt)
        clear hx2 hxa hc hrg
        cases hq : p x with
        | true =>
          have HI3 : Hid (KeptInv kp d (j + 1) i dk) := HI2.out (by rw [HKj.out, hq]; rfl)
          clear HI1 HI2 HKj hrg2
          go_wp2_with fail
          go_roundw
          case rel => exact ⟨i, j + 1, dk, rfl, by go_num, by omega, HI3.out, HR2.out, HG2.out⟩
          case measure => simp [intOf]; omega
        | false =>
          have HI3 : Hid (KeptInv kp d (j + 1) (i + 1) (dk.setIfInBounds i x)) := HI1.out (by rw [HKj.out, hq]; rfl)
          obtain ⟨w3, hw3⟩ : ∃ w3, Hid (w3 = w2.setCells g (i * 23) (pc x).toArray.toList) := ⟨_, rfl⟩
          have HR3 : Hid (RowD w3 g cap (dk.setIfInBounds i x)) := by rw [hw3.out]; exact HR2.out.set (by omega) x
          have HG3 : Hid (w.grownBy w3 (some g)) := by rw [hw3.out]; exact grown_set _ _ _ HG2.out
          have hth : w2.there g (i * 23) (pc x).toArray.size := by rw [hsx]; exact HR2.out.there (by omega)
          clear HI1 HI2 HKj
          have hiz : (i : Int) < (d.size : Int) := by omega
          clear hlt hij hds
          go_wp2_with first | (refine wpList_load_mid rfl 104 (.tmp 7) rfl wr.heap.size 0 rfl (pc x) _ hrg2 Try.underlying104 rfl hi ?_) | (refine store_mid_eq rfl 104 (.tmp 33) (.tmp 32) rfl g (i * 23) (pc x).toArray rfl rfl hth hia hone hw3 ?_)
          go_roundw
          case rel => exact ⟨i + 1, j + 1, dk.setIfInBounds i x, by go_num, by go_num, by omega, HI3.out, HR3.out, HG3.out⟩
          case measure => simp [intOf]; omega
      · obtain rfl : j = d.size := by omega
        have hltz : ¬ (d.size : Int) < (d.size : Int) := by omega
        obtain ⟨vs, hcl⟩ := run_clear23 wr 0 g (i * 23) (d.size - i) (cap - i) (by omega) (HRk.out.there' (by
          have : i * 23 + (d.size - i) * 23 = d.size * 23 := by rw [← Nat.add_mul]; congr 1; omega
          rw [this]
          exact Nat.mul_le_mul_right 23 hcd))
        obtain ⟨w3, hw3⟩ : ∃ w3, w3 = wr.setCells g (i * 23) vs := ⟨_, rfl⟩
        rw [← hw3] at hcl
        have HI' := HI.out
        have hlen := HI'.len
        have HR3 : Hid (RowD w3 g cap (keptUpTo kp d d.size).toArray) := by
          rw [hw3]
          refine HRk.out.cut (by simp; omega) (fun q hq => ?_) _ _ (by simp [hlen])
          have hq' : q < i := by simpa [hlen] using hq
          have := HI'.low q hq'
          rw [getElem!_pos (keptUpTo kp d d.size).toArray q hq]
          simpa [List.getElem?_eq_getElem (show q < (keptUpTo kp d d.size).length by omega)] using this
        have HG3 : Hid (w.grownBy w3 (some g)) := by rw [hw3]; exact grown_set _ _ _ HG.out
        have HL : Hid ((keptUpTo kp d d.size).length = i) := hlen
        have hiz : (i : Int) < (d.size : Int) := by omega
        have hiz2 : (i : Int) ≤ (d.size : Int) := by omega
        clear hw3 HI' hlen HI
        go_wp2_with fail
        go_ret
        exact ⟨i, by simp, HG3.out, HL.out.symm, HR3.out⟩
end Go.Proofs.Qxb6616238a.Grow
