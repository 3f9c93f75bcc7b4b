import Derived.Test.Qxb6616238aBuild
import Derived.Test.Qxb6616238aMid
namespace Go.Proofs.Qxb6616238a.Grow
set_option linter.unusedVariables false
set_option linter.unusedSimpArgs false
set_option maxRecDepth 100000
open Go.ChangeShapes Go.WideShapes Go.ChangeAt Go.RowKit

theorem pc_eq (t i r : Int) : (pc (t, i, r)).toArray = #[.int .u8 t, .int .i64 0, .int .i64 0, .int .i64 0, .int .i64 i, .int .i64 0, .int .i64 0, .int .i64 r, .int .i64 0, .slice none 0 0, .string ByteArray.empty, .int .i64 0, .int .i64 0, .string ByteArray.empty, .int .i64 0, .int .i64 0, .int .i64 0, .int .i64 0, .int .i64 0, .int .i64 0, .slice none 0 0, .slice none 0 0, .bool false] := rfl

set_option maxHeartbeats 1000000 in
theorem see1_any (t i r : Int) (rb : Nat) (q : Int) (w : World) (hr : w.cell? ⟨rb, 0, none⟩ = some (.int .i64 q)) (hl : rb < w.heap.size) :
    Calls Try.prog 45 #[.agg (pc (t, i, r)).toArray, .pointer (some ⟨rb, 0, none⟩)] w fun e w' => e = .returned (.bool (decide (t = 2 ∧ r < q))) ∧ Ext w w' := by
  have hr' : (w.alloc (.cells (pc (t, i, r)).toArray 104)).cell? ⟨rb, 0, none⟩ = some (.int .i64 q) := by rw [Below.cell (Ext.alloc w _) hl]; exact hr
  have h0 : (w.alloc (.cells (pc (t, i, r)).toArray 104)).cell? ⟨w.heap.size, 0, none⟩ = some (.int .u8 t) := by rw [cell_of_row _ _ 0 _ _ _ (heap_alloc_new w _)]; rfl
  have h7 : (w.alloc (.cells (pc (t, i, r)).toArray 104)).cell? ⟨w.heap.size, 7, none⟩ = some (.int .i64 r) := by rw [cell_of_row _ _ 7 _ _ _ (heap_alloc_new w _)]; rfl
  have HX : Hid (Ext w (w.alloc (.cells (pc (t, i, r)).toArray 104))) := Ext.alloc w _
  generalize (pc (t, i, r)).toArray = cs at *
  by_cases h2 : t = 2
  · subst h2
    go_enter Try.func45, Try.ntmps45
    go_wp2_with fail
    go_ret
    exact ⟨by simp, HX.out⟩
  · go_enter Try.func45, Try.ntmps45
    go_wp2_with fail
    go_ret
    exact ⟨by simp [h2], HX.out⟩

def mx (a b : Int) : Int := if a < b then b else a
theorem ex_max (ρ : Operand → Value) (o : Oper) (x y : Operand) (a b : Int) (w : World) (h : o.op = .call { callee := .builtin .max, args := #[x, y], argTypes := #[3, 3] }) (hx : ρ x = .int .i64 a) (hy : ρ y = .int .i64 b) : (execOp ρ o).run Try.prog w = .ok (.value (.int .i64 (mx a b))) w := by
  simp [execOp, h, hx, hy]
  go_simp
  rfl
theorem ex_field88_5 (ρ : Operand → Value) (o : Oper) (x : Operand) (b : Nat) (w : World) (h : o.op = .fieldAddr 88 x 5) (hx : ρ x = .pointer (some ⟨b, 0, none⟩)) : (execOp ρ o).run Try.prog w = .ok (.value (.pointer (some ⟨b, 5, none⟩))) w := by
  simp [execOp, h, hx]
  go_simp
theorem ex_field88_12 (ρ : Operand → Value) (o : Oper) (x : Operand) (b : Nat) (w : World) (h : o.op = .fieldAddr 88 x 12) (hx : ρ x = .pointer (some ⟨b, 0, none⟩)) : (execOp ρ o).run Try.prog w = .ok (.value (.pointer (some ⟨b, 12, none⟩))) w := by
  simp [execOp, h, hx]
  go_simp
theorem ex_sub1 (ρ : Operand → Value) (o : Oper) (x : Operand) (l : Int) (w : World) (h : o.op = .binOp .sub 3 x (.const (.int .i64 1)) 3) (hx : ρ x = .int .i64 l) (hc : ρ (.const (.int .i64 1)) = .int .i64 1) (h0 : 0 ≤ l) (h1 : l ≤ 9223372036854775807) : (execOp ρ o).run Try.prog w = .ok (.value (.int .i64 (l - 1))) w := by
  simp [execOp, h, hx, hc]
  go_simp
  rw [IntKind.wrap_i64]; omega

def ds43 : List Nat := [3, 4, 5, 6, 7, 8, 9, 10, 11, 12]
def val43 (ib : Nat) (seen lift : Int) (j : Nat) : Value :=
  match j with
  | 0 | 1 | 4 | 5 => .pointer (some ⟨ib, 0, none⟩)
  | 2 => .pointer (some ⟨ib, 5, none⟩)
  | 3 => .int .i64 seen
  | 6 => .pointer (some ⟨ib, 12, none⟩)
  | 7 => .int .i64 lift
  | 8 => .int .i64 (lift - 1)
  | 9 => .int .i64 (mx seen (lift - 1))
  | _ => undef

set_option maxHeartbeats 1000000 in
theorem base_any (B ib nb : Nat) (ci cn : Array Value) (ev pv : Value) (num seen lift : Int) (ts : List Pl) (ps : List (Int × Int × Int)) (w : World) (h : InstP B ib nb ci cn ev pv num seen lift ts ps w) (h0 : 0 ≤ lift) (h1 : lift ≤ 9223372036854775807) :
    Calls Try.prog 43 #[.pointer (some ⟨ib, 0, none⟩)] w fun e w' => e = .returned (.int .i64 (mx seen (lift - 1))) ∧ w' = w.drew := by
  have hc5 : w.cell? ⟨ib, 5, none⟩ = some (.int .i64 seen) := by rw [h.icell]; exact h.c5
  have hc12 : w.cell? ⟨ib, 12, none⟩ = some (.int .i64 lift) := by rw [h.icell]; exact h.c12
  clear h
  go_enter Try.func43, Try.ntmps43
  go_wp2_with fail
  refine wp_region_lastA (last := 10) (d := fun j => ds43.getD j 0) (val := val43 ib seen lift) (eff := fun _ => none) (m := 0) (W := fun _ => w.drew) (by kernel_rfl) ?_ rfl _ rfl ?_
  · refine law3_of (ds := ds43) (by kernel_rfl) (fun i j hj => by cases hj) (fun i o j ho hj => by cases hj) (fun j hj => by omega) (fun i i' j hj => by cases hj) ?_ (fun i o a j ho hj => by cases hj)
    intro i' o' a kk hlt ho he hkk hpre hoth
    match i', ho, hlt with
    | 0, ho, hlt => simp at ho; subst ho; exact (ex_move _ _ (.tmp 0) _ (.inl rfl)).trans (by rw [show Act.eval a (.tmp 0) = _ from hoth 0 (by decide)]; rfl)
    | 1, ho, hlt => simp at ho; subst ho; exact ex_nil _ _ (.tmp 3) _ _ rfl (hpre { on := 0, ground := .data } (by simp) rfl)
    | 2, ho, hlt => simp at ho; subst ho; exact ex_field88_5 _ _ (.tmp 4) _ _ rfl (hpre { on := 1, ground := .data } (by simp) rfl)
    | 3, ho, hlt => simp at ho; subst ho; exact ex_load3 _ _ (.tmp 5) _ _ _ rfl (hpre { on := 2, ground := .data } (by simp) rfl) hc5
    | 4, ho, hlt => simp at ho; subst ho; exact (ex_move _ _ (.tmp 0) _ (.inl rfl)).trans (by rw [show Act.eval a (.tmp 0) = _ from hoth 0 (by decide)]; rfl)
    | 5, ho, hlt => simp at ho; subst ho; exact ex_nil _ _ (.tmp 7) _ _ rfl (hpre { on := 4, ground := .data } (by simp) rfl)
    | 6, ho, hlt => simp at ho; subst ho; exact ex_field88_12 _ _ (.tmp 8) _ _ rfl (hpre { on := 5, ground := .data } (by simp) rfl)
    | 7, ho, hlt => simp at ho; subst ho; exact ex_load3 _ _ (.tmp 9) _ _ _ rfl (hpre { on := 6, ground := .data } (by simp) rfl) hc12
    | 8, ho, hlt => simp at ho; subst ho; exact ex_sub1 _ _ (.tmp 10) _ _ rfl (hpre { on := 7, ground := .data } (by simp) rfl) rfl h0 h1
    | 9, ho, hlt => simp at ho; subst ho; exact ex_max _ _ (.tmp 6) (.tmp 11) _ _ _ rfl (hpre { on := 3, ground := .data } (by simp) rfl) (hpre { on := 8, ground := .data } (by simp) rfl)
    | n + 10, ho, hlt => omega
  · simp [laid, ds43, val43]
    go_wp2_with fail
    go_ret
    exact ⟨rfl, rfl⟩


theorem ex_field104_0 (ρ : Operand → Value) (o : Oper) (x : Operand) (b f : Nat) (w : World) (h : o.op = .fieldAddr 104 x 0) (hx : ρ x = .pointer (some ⟨b, f, none⟩)) : (execOp ρ o).run Try.prog w = .ok (.value (.pointer (some ⟨b, f, none⟩))) w := by
  simp [execOp, h, hx]
  go_simp
theorem ex_field95_0 (ρ : Operand → Value) (o : Oper) (x : Operand) (b f : Nat) (w : World) (h : o.op = .fieldAddr 95 x 0) (hx : ρ x = .pointer (some ⟨b, f, none⟩)) : (execOp ρ o).run Try.prog w = .ok (.value (.pointer (some ⟨b, f, none⟩))) w := by
  simp [execOp, h, hx]
  go_simp
theorem ex_field95_4 (ρ : Operand → Value) (o : Oper) (x : Operand) (b f : Nat) (w : World) (h : o.op = .fieldAddr 95 x 4) (hx : ρ x = .pointer (some ⟨b, f, none⟩)) : (execOp ρ o).run Try.prog w = .ok (.value (.pointer (some ⟨b, f + 4, none⟩))) w := by
  simp [execOp, h, hx]
  go_simp
theorem ex_field88_1 (ρ : Operand → Value) (o : Oper) (x : Operand) (b : Nat) (w : World) (h : o.op = .fieldAddr 88 x 1) (hx : ρ x = .pointer (some ⟨b, 0, none⟩)) : (execOp ρ o).run Try.prog w = .ok (.value (.pointer (some ⟨b, 1, none⟩))) w := by
  simp [execOp, h, hx]
  go_simp
theorem ex_load90 (ρ : Operand → Value) (o : Oper) (x : Operand) (a : Addr) (w : World) (v : Value) (h : o.op = .load 90 x) (hx : ρ x = .pointer (some a)) (hc : w.cell? a = some v) : (execOp ρ o).run Try.prog w = .ok (.value v) w := by
  simp [execOp, h, hx]
  go_simp
theorem ex_load32 (ρ : Operand → Value) (o : Oper) (x : Operand) (a : Addr) (w : World) (v : Value) (h : o.op = .load 32 x) (hx : ρ x = .pointer (some a)) (hc : w.cell? a = some v) : (execOp ρ o).run Try.prog w = .ok (.value v) w := by
  simp [execOp, h, hx]
  go_simp
theorem ex_load106 (ρ : Operand → Value) (o : Oper) (x : Operand) (a : Addr) (w : World) (v : Value) (h : o.op = .load 106 x) (hx : ρ x = .pointer (some a)) (hc : w.cell? a = some v) : (execOp ρ o).run Try.prog w = .ok (.value v) w := by
  simp [execOp, h, hx]
  go_simp
theorem ex_eql90 (ρ : Operand → Value) (o : Oper) (x y : Operand) (a b : Int) (w : World) (h : o.op = .binOp .eql 90 x y 90) (hx : ρ x = .int .u8 a) (hy : ρ y = .int .u8 b) : (execOp ρ o).run Try.prog w = .ok (.value (.bool (decide (a = b)))) w := by
  simp [execOp, h, hx, hy]
  go_simp
  rw [Bool.eq_iff_iff]; simp
theorem ex_eql3 (ρ : Operand → Value) (o : Oper) (x y : Operand) (a b : Int) (w : World) (h : o.op = .binOp .eql 3 x y 3) (hx : ρ x = .int .i64 a) (hy : ρ y = .int .i64 b) : (execOp ρ o).run Try.prog w = .ok (.value (.bool (decide (a = b)))) w := by
  simp [execOp, h, hx, hy]
  go_simp
  rw [Bool.eq_iff_iff]; simp
theorem ex_pick {P : Program} (ρ : Operand → Value) (o : Oper) (c x y : Operand) (b : Bool) (w : World) (h : o.op = .pick c x y) (hc : ρ c = .bool b) : (execOp ρ o).run P w = .ok (.value (if b then ρ x else ρ y)) w := by
  cases b <;> simp [execOp, h, hc] <;> rfl
theorem ex_load104 (ρ : Operand → Value) (o : Oper) (x : Operand) (b f : Nat) (p : Int × Int × Int) (w : World) (h : o.op = .load 104 x) (hx : ρ x = .pointer (some ⟨b, f, none⟩)) (hc : w.rangeAt b f (pc p)) : (execOp ρ o).run Try.prog w = .ok (.value (.agg (pc p).toArray)) w := by
  have := run_loadAt_mid (P := Try.prog) w b f 104 (pc p) _ hc Try.underlying104 rfl (by kernel_rfl)
  simp [execOp, h, hx, this]

def ds56 : List Nat := [5, 6, 7, 8, 9, 10, 11, 12, 13, 14, 15, 16, 17, 18, 19, 20, 21, 22, 23]
def gs56 : List (Option (Nat × Bool)) := [none, none, none, none, none, some (4, true), some (4, true), some (4, true), some (4, true), some (4, true), some (4, true), some (4, true), some (4, true), none, none, some (14, true), some (14, true), some (14, true), none, none]
def skp56 (e1 e2 : Bool) (j : Nat) : Bool := (!e1 && decide (5 ≤ j ∧ j ≤ 12)) || (!(e1 && e2) && decide (15 ≤ j ∧ j ≤ 17))
def val56 (e1 e2 : Bool) (hs c2 ib rb : Nat) (t i r num : Int) (res : Bool) (j : Nat) : Value :=
  if skp56 e1 e2 j = true then undef else
  match j with
  | 0 | 1 | 5 => .pointer (some ⟨hs, 0, none⟩)
  | 2 => .int .u8 t
  | 3 | 4 => .bool e1
  | 6 => .pointer (some ⟨hs, 4, none⟩)
  | 7 => .int .i64 i
  | 8 | 9 => .pointer (some ⟨ib, 0, none⟩)
  | 10 => .pointer (some ⟨ib, 1, none⟩)
  | 11 => .int .i64 num
  | 12 => .bool e2
  | 13 | 14 => .bool (e1 && e2)
  | 15 => .func (.func 45) #[] #[.pointer (some ⟨rb, 0, none⟩)]
  | 16 => .agg (pc (t, i, r)).toArray
  | 17 => .bool res
  | 18 => .bool (e1 && e2 && res)
  | _ => undef
theorem gv56 (e1 e2 : Bool) (hs c2 ib rb : Nat) (t i r num : Int) (res : Bool) : ∀ k, k ≤ 19 → (gs56.getD k none = none ∧ skp56 e1 e2 k = false) ∨ ∃ g, gs56.getD k none = some g ∧ ((skp56 e1 e2 k = false ∧ val56 e1 e2 hs c2 ib rb t i r num res g.1 = .bool g.2) ∨ (skp56 e1 e2 k = true ∧ (val56 e1 e2 hs c2 ib rb t i r num res g.1 = .bool (!g.2) ∨ val56 e1 e2 hs c2 ib rb t i r num res g.1 = undef))) := by
  intro k hk
  match k, hk with
  | 0, _ => exact .inl ⟨rfl, by cases e1 <;> cases e2 <;> simp [skp56]⟩
  | 1, _ => exact .inl ⟨rfl, by cases e1 <;> cases e2 <;> simp [skp56]⟩
  | 2, _ => exact .inl ⟨rfl, by cases e1 <;> cases e2 <;> simp [skp56]⟩
  | 3, _ => exact .inl ⟨rfl, by cases e1 <;> cases e2 <;> simp [skp56]⟩
  | 4, _ => exact .inl ⟨rfl, by cases e1 <;> cases e2 <;> simp [skp56]⟩
  | 5, _ => exact .inr ⟨(4, true), rfl, by cases e1 <;> cases e2 <;> simp [skp56, val56]⟩
  | 6, _ => exact .inr ⟨(4, true), rfl, by cases e1 <;> cases e2 <;> simp [skp56, val56]⟩
  | 7, _ => exact .inr ⟨(4, true), rfl, by cases e1 <;> cases e2 <;> simp [skp56, val56]⟩
  | 8, _ => exact .inr ⟨(4, true), rfl, by cases e1 <;> cases e2 <;> simp [skp56, val56]⟩
  | 9, _ => exact .inr ⟨(4, true), rfl, by cases e1 <;> cases e2 <;> simp [skp56, val56]⟩
  | 10, _ => exact .inr ⟨(4, true), rfl, by cases e1 <;> cases e2 <;> simp [skp56, val56]⟩
  | 11, _ => exact .inr ⟨(4, true), rfl, by cases e1 <;> cases e2 <;> simp [skp56, val56]⟩
  | 12, _ => exact .inr ⟨(4, true), rfl, by cases e1 <;> cases e2 <;> simp [skp56, val56]⟩
  | 13, _ => exact .inl ⟨rfl, by cases e1 <;> cases e2 <;> simp [skp56]⟩
  | 14, _ => exact .inl ⟨rfl, by cases e1 <;> cases e2 <;> simp [skp56]⟩
  | 15, _ => exact .inr ⟨(14, true), rfl, by cases e1 <;> cases e2 <;> simp [skp56, val56]⟩
  | 16, _ => exact .inr ⟨(14, true), rfl, by cases e1 <;> cases e2 <;> simp [skp56, val56]⟩
  | 17, _ => exact .inr ⟨(14, true), rfl, by cases e1 <;> cases e2 <;> simp [skp56, val56]⟩
  | 18, _ => exact .inl ⟨rfl, by cases e1 <;> cases e2 <;> simp [skp56]⟩
  | 19, _ => exact .inl ⟨rfl, by cases e1 <;> cases e2 <;> simp [skp56]⟩
  | n + 20, h => omega

end Go.Proofs.Qxb6616238a.Grow
