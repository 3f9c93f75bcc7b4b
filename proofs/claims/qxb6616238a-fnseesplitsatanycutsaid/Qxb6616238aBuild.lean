import Derived.Test.Qxb6616238aPend
namespace Go.Proofs.Qxb6616238a.Grow
set_option linter.unusedVariables false
set_option linter.unusedSimpArgs false
set_option maxRecDepth 100000
open Go.ChangeShapes Go.WideShapes Go.ChangeAt Go.RowKit

/-- What a slice of tallies (a bool, an int) holds. -/
def TRow (w : World) (a : Option Addr) (es : List (Bool × Int)) : Prop := ∀ i (h : i < es.length), ∃ g o, a = some ⟨g, o, none⟩ ∧ w.cell? ⟨g, o + i * 2, none⟩ = some (.bool (es[i]).1) ∧ w.cell? ⟨g, o + i * 2 + 1, none⟩ = some (.int .i64 (es[i]).2) ∧ g < w.heap.size
/-- What a slice of messages (a byte, two ints) holds. -/
def PRow (w : World) (a : Option Addr) (ps : List (Int × Int × Int)) : Prop := ∀ i (h : i < ps.length), ∃ g o, a = some ⟨g, o, none⟩ ∧ w.cell? ⟨g, o + i * 3, none⟩ = some (.int .u8 (ps[i]).1) ∧ w.cell? ⟨g, o + i * 3 + 1, none⟩ = some (.int .i64 (ps[i]).2.1) ∧ w.cell? ⟨g, o + i * 3 + 2, none⟩ = some (.int .i64 (ps[i]).2.2) ∧ g < w.heap.size

theorem TRow.kept {w w' : World} {a : Option Addr} {es : List (Bool × Int)} (h : TRow w a es) (hx : Ext w w') : TRow w' a es := by
  intro i hi
  obtain ⟨g, o, ha, h1, h2, hg⟩ := h i hi
  exact ⟨g, o, ha, by rw [Below.cell hx (p := ⟨g, o + i * 2, none⟩) hg]; exact h1, by rw [Below.cell hx (p := ⟨g, o + i * 2 + 1, none⟩) hg]; exact h2, Nat.lt_of_lt_of_le hg hx.size⟩
theorem PRow.kept {w w' : World} {a : Option Addr} {ps : List (Int × Int × Int)} (h : PRow w a ps) (hx : Ext w w') : PRow w' a ps := by
  intro i hi
  obtain ⟨g, o, ha, h1, h2, h3, hg⟩ := h i hi
  exact ⟨g, o, ha, by rw [Below.cell hx (p := ⟨g, o + i * 3, none⟩) hg]; exact h1, by rw [Below.cell hx (p := ⟨g, o + i * 3 + 1, none⟩) hg]; exact h2, by rw [Below.cell hx (p := ⟨g, o + i * 3 + 2, none⟩) hg]; exact h3, Nat.lt_of_lt_of_le hg hx.size⟩

/-- The state, its blocks unnamed. -/
def Inst (B ib : Nat) (num seen lift : Int) (os : List (Option Int)) (ps : List (Int × Int × Int)) (w : World) : Prop :=
  ∃ nb ci cn ev pv ts, InstP B ib nb ci cn ev pv num seen lift ts ps w ∧ ts.map (Option.map Prod.snd) = os

theorem Inst.kept {B ib : Nat} {num seen lift : Int} {os : List (Option Int)} {ps : List (Int × Int × Int)} {w w' : World} (h : Inst B ib num seen lift os ps w) (hx : Ext w w') : Inst B ib num seen lift os ps w' := by
  obtain ⟨nb, ci, cn, ev, pv, ts, h, e⟩ := h
  exact ⟨nb, ci, cn, ev, pv, ts, h.kept hx.size (fun k hk => Below.block hx k hk), e⟩

def tv (x : Bool × Int) : Option Int := if x.1 then some x.2 else none

def ds14 : List Nat := [44, 45, 46, 47, 48, 49, 50, 51, 52, 53, 54, 55, 56, 57, 58, 59]
def val14 (ib g o k n c : Nat) (t i r : Int) (j : Nat) : Value :=
  match j with
  | 0 => .pointer (some ⟨ib, 0, none⟩)
  | 1 | 6 | 11 => .slice (some ⟨g, o, none⟩) n c
  | 2 | 7 | 12 => .int .i64 k
  | 3 | 4 | 8 | 13 => .pointer (some ⟨g, o + k * 3, none⟩)
  | 5 => .int .u8 t
  | 9 => .pointer (some ⟨g, o + k * 3 + 1, none⟩)
  | 10 => .int .i64 i
  | 14 => .pointer (some ⟨g, o + k * 3 + 2, none⟩)
  | 15 => .int .i64 r
  | _ => undef

theorem ex_index30 (ρ : Operand → Value) (o : Oper) (x y : Operand) (g f k n c : Nat) (w : World) (h : o.op = .indexAddr 30 x y) (hx : ρ x = .slice (some ⟨g, f, none⟩) n c) (hy : ρ y = .int .i64 k) (hk : (k : Int) < n) : (execOp ρ o).run Try.prog w = .ok (.value (.pointer (some ⟨g, f + k * 3, none⟩))) w := by
  simp [execOp, h, hx, hy]
  go_simp
theorem ex_field76_0 (ρ : Operand → Value) (o : Oper) (x : Operand) (b f : Nat) (w : World) (h : o.op = .fieldAddr 76 x 0) (hx : ρ x = .pointer (some ⟨b, f, none⟩)) : (execOp ρ o).run Try.prog w = .ok (.value (.pointer (some ⟨b, f, none⟩))) w := by
  simp [execOp, h, hx]
  go_simp
theorem ex_field76_1 (ρ : Operand → Value) (o : Oper) (x : Operand) (b f : Nat) (w : World) (h : o.op = .fieldAddr 76 x 1) (hx : ρ x = .pointer (some ⟨b, f, none⟩)) : (execOp ρ o).run Try.prog w = .ok (.value (.pointer (some ⟨b, f + 1, none⟩))) w := by
  simp [execOp, h, hx]
  go_simp
theorem ex_field76_2 (ρ : Operand → Value) (o : Oper) (x : Operand) (b f : Nat) (w : World) (h : o.op = .fieldAddr 76 x 2) (hx : ρ x = .pointer (some ⟨b, f, none⟩)) : (execOp ρ o).run Try.prog w = .ok (.value (.pointer (some ⟨b, f + 2, none⟩))) w := by
  simp [execOp, h, hx]
  go_simp
theorem ex_load5 (ρ : Operand → Value) (o : Oper) (x : Operand) (a : Addr) (w : World) (v : Value) (h : o.op = .load 5 x) (hx : ρ x = .pointer (some a)) (hc : w.cell? a = some v) : (execOp ρ o).run Try.prog w = .ok (.value v) w := by
  simp [execOp, h, hx]
  go_simp
theorem ex_load3 (ρ : Operand → Value) (o : Oper) (x : Operand) (a : Addr) (w : World) (v : Value) (h : o.op = .load 3 x) (hx : ρ x = .pointer (some a)) (hc : w.cell? a = some v) : (execOp ρ o).run Try.prog w = .ok (.value v) w := by
  simp [execOp, h, hx]
  go_simp

set_option maxHeartbeats 2000000 in
theorem build_any (num seen lift : Int) (ea pa : Option Addr) (ec pc' : Nat) (es : List (Bool × Int)) (ps : List (Int × Int × Int)) (w : World) (hT : TRow w ea es) (hP : PRow w pa ps) (hel : es.length ≤ 65536) (hpl : ps.length ≤ 65536) :
    Calls Try.prog 14 #[.int .i64 num, .int .i64 seen, .int .i64 lift, .slice ea es.length ec, .slice pa ps.length pc'] w fun e w' => ∃ ib, e = .returned (.pointer (some ⟨ib, 0, none⟩)) ∧ Inst w.heap.size ib num seen lift (es.map tv) ps w' ∧ Ext w w' := by
  have HT : Hid (TRow w ea es) := hT
  have HP : Hid (PRow w pa ps) := hP
  clear hT hP
  go_enter Try.func14, Try.ntmps14
  go_wp2_with fail
  refine (newInst_any num seen lift w).mono ?_
  rintro e w1 ⟨ib, nb, ci, cn, rfl, hI, hx⟩
  have HI : Hid (Inst w.heap.size ib num seen lift [] [] w1) := ⟨nb, ci, cn, _, _, [], hI, rfl⟩
  have HX : Hid (Ext w w1) := hx
  clear hI hx
  go_wp2_with fail
  go_loopw [12] (fun iv wr => ∃ k : Nat, k ≤ es.length ∧ iv = .int .i64 k ∧ Hid (Inst w.heap.size ib num seen lift ((es.take k).map tv) [] wr) ∧ Hid (Ext w wr)) (fun iv _ => es.length - (intOf iv).toNat)
  case atStart => exact ⟨0, Nat.zero_le _, rfl, HI.out, HX.out⟩
  case round =>
    obtain ⟨k, hk, rfl, HIr, HXr⟩ := hrel
    by_cases hlt : k < es.length
    · obtain ⟨g, o, rfl, hc1, hc2, hg⟩ := (HT.out.kept HXr.out) k hlt
      have hlt' : (k : Int) < es.length := by omega
      obtain ⟨nb', ci', cn', ev, pv, ts, hI, hts⟩ := HIr.out
      have htl : ts.length = k := by
        have := congrArg List.length hts
        rw [List.length_map, List.length_map, List.length_take] at this
        omega
      have HTk : Hid ((es.take (k + 1)).map tv = (es.take k).map tv ++ [tv es[k]]) := by
        show _ = _
        rw [List.take_succ_eq_append_getElem hlt, List.map_append]; rfl
      generalize es[k] = x at *
      obtain ⟨b, z⟩ := x
      cases b with
      | true =>
        go_wp2_with fail
        refine (addTally_any _ _ _ _ _ _ _ _ _ _ _ _ wr hI (by omega) z).mono ?_
        rintro e w2 ⟨rfl, ci2, ev2, b2, hI2, hx2⟩
        have HI2 : Hid (Inst w.heap.size ib num seen lift ((es.take (k + 1)).map tv) [] w2) := ⟨_, _, _, _, _, _, hI2, by rw [HTk.out, List.map_append, hts]; rfl⟩
        have HX2 : Hid (Ext w w2) := Below.trans HXr.out hx2
        clear hI hI2 hx2 hts HIr HXr HTk hc1 hc2
        go_wp2_with fail
        go_roundw
        case rel => exact ⟨k + 1, by omega, by go_num, HI2.out, HX2.out⟩
        case measure => simp [intOf]; omega
      | false =>
        go_wp2_with fail
        refine (addNone_any _ _ _ _ _ _ _ _ _ _ _ _ wr hI (by omega)).mono ?_
        rintro e w2 ⟨rfl, ci2, ev2, hI2, hx2⟩
        have HI2 : Hid (Inst w.heap.size ib num seen lift ((es.take (k + 1)).map tv) [] w2) := ⟨_, _, _, _, _, _, hI2, by rw [HTk.out, List.map_append, hts]; rfl⟩
        have HX2 : Hid (Ext w w2) := Below.trans HXr.out hx2
        clear hI hI2 hx2 hts HIr HXr HTk hc1 hc2
        go_wp2_with fail
        go_roundw
        case rel => exact ⟨k + 1, by omega, by go_num, HI2.out, HX2.out⟩
        case measure => simp [intOf]; omega
    · have hke : k = es.length := by omega
      subst hke
      rw [List.take_length] at HIr
      clear HI HX
      go_wp2_with fail
      go_loopw [13] (fun iv wr => ∃ k : Nat, k ≤ ps.length ∧ iv = .int .i64 k ∧ Hid (Inst w.heap.size ib num seen lift (es.map tv) (ps.take k) wr) ∧ Hid (Ext w wr)) (fun iv _ => ps.length - (intOf iv).toNat)
      case atStart => exact ⟨0, Nat.zero_le _, rfl, HIr.out, HXr.out⟩
      case round =>
        obtain ⟨k, hk, rfl, HI2, HX2⟩ := hrel
        by_cases hlt2 : k < ps.length
        · have hlt2' : (k : Int) < ps.length := by omega
          obtain ⟨g, o, rfl, hc1, hc2, hc3, hg⟩ := (HP.out.kept HX2.out) k hlt2
          go_wp2_with fail
          have HTk : Hid (ps.take (k + 1) = ps.take k ++ [ps[k]]) := by
            show _ = _
            rw [List.take_succ_eq_append_getElem hlt2]
          generalize ps[k] = p at *
          obtain ⟨t, ii, r⟩ := p
          obtain ⟨nb', ci', cn', ev, pv, ts, hI, hts⟩ := HI2.out
          refine wp_region_lastA (last := 16) (d := fun j => ds14.getD j 0) (val := val14 ib g o k ps.length pc' t ii r) (eff := fun _ => none) (m := 0) (W := fun _ => wr.drew) (by kernel_rfl) ?_ rfl _ rfl ?_
          · refine law3_of (ds := ds14) (by kernel_rfl) (fun i j hj => by cases hj) (fun i o j ho hj => by cases hj) (fun j hj => by omega) (fun i i' j hj => by cases hj) ?_ (fun i o a j ho hj => by cases hj)
            intro i' o' a kk hlt ho he hkk hpre hoth
            match i', ho, hlt with
            | 0, ho, hlt => simp at ho; subst ho; exact (ex_move _ _ (.tmp 11) _ (.inl rfl)).trans (by rw [show Act.eval a (.tmp 11) = _ from hoth 11 (by decide)]; rfl)
            | 1, ho, hlt => simp at ho; subst ho; exact (ex_move _ _ (.tmp 4) _ (.inl rfl)).trans (by rw [show Act.eval a (.tmp 4) = _ from hoth 4 (by decide)]; rfl)
            | 2, ho, hlt => simp at ho; subst ho; exact (ex_move _ _ (.tmp 13) _ (.inl rfl)).trans (by rw [show Act.eval a (.tmp 13) = _ from hoth 13 (by decide)]; rfl)
            | 3, ho, hlt => simp at ho; subst ho; exact ex_index30 _ _ (.tmp 45) (.tmp 46) _ _ _ _ _ _ rfl (hpre { on := 1, ground := .data } (by simp) rfl) (hpre { on := 2, ground := .data } (by simp) rfl) hlt2'
            | 4, ho, hlt => simp at ho; subst ho; exact ex_field76_0 _ _ (.tmp 47) _ _ _ rfl (hpre { on := 3, ground := .data } (by simp) rfl)
            | 5, ho, hlt => simp at ho; subst ho; exact ex_load5 _ _ (.tmp 48) _ _ _ rfl (hpre { on := 4, ground := .data } (by simp) rfl) hc1
            | 6, ho, hlt => simp at ho; subst ho; exact (ex_move _ _ (.tmp 4) _ (.inl rfl)).trans (by rw [show Act.eval a (.tmp 4) = _ from hoth 4 (by decide)]; rfl)
            | 7, ho, hlt => simp at ho; subst ho; exact (ex_move _ _ (.tmp 13) _ (.inl rfl)).trans (by rw [show Act.eval a (.tmp 13) = _ from hoth 13 (by decide)]; rfl)
            | 8, ho, hlt => simp at ho; subst ho; exact ex_index30 _ _ (.tmp 50) (.tmp 51) _ _ _ _ _ _ rfl (hpre { on := 6, ground := .data } (by simp) rfl) (hpre { on := 7, ground := .data } (by simp) rfl) hlt2'
            | 9, ho, hlt => simp at ho; subst ho; exact ex_field76_1 _ _ (.tmp 52) _ _ _ rfl (hpre { on := 8, ground := .data } (by simp) rfl)
            | 10, ho, hlt => simp at ho; subst ho; exact ex_load3 _ _ (.tmp 53) _ _ _ rfl (hpre { on := 9, ground := .data } (by simp) rfl) hc2
            | 11, ho, hlt => simp at ho; subst ho; exact (ex_move _ _ (.tmp 4) _ (.inl rfl)).trans (by rw [show Act.eval a (.tmp 4) = _ from hoth 4 (by decide)]; rfl)
            | 12, ho, hlt => simp at ho; subst ho; exact (ex_move _ _ (.tmp 13) _ (.inl rfl)).trans (by rw [show Act.eval a (.tmp 13) = _ from hoth 13 (by decide)]; rfl)
            | 13, ho, hlt => simp at ho; subst ho; exact ex_index30 _ _ (.tmp 55) (.tmp 56) _ _ _ _ _ _ rfl (hpre { on := 11, ground := .data } (by simp) rfl) (hpre { on := 12, ground := .data } (by simp) rfl) hlt2'
            | 14, ho, hlt => simp at ho; subst ho; exact ex_field76_2 _ _ (.tmp 57) _ _ _ rfl (hpre { on := 13, ground := .data } (by simp) rfl)
            | 15, ho, hlt => simp at ho; subst ho; exact ex_load3 _ _ (.tmp 58) _ _ _ rfl (hpre { on := 14, ground := .data } (by simp) rfl) hc3
            | n + 16, ho, hlt => omega
          · simp [laid, ds14, val14]
            go_wp2_with fail
            refine (addPending_any _ _ _ _ _ _ _ _ _ _ _ _ wr.drew (hI.kept (Nat.le_refl _) (fun _ _ => rfl)) (by rw [List.length_take]; omega) t ii r).mono ?_
            rintro e w2 ⟨rfl, cn2, pv2, hI2, hx2⟩
            have HI3 : Hid (Inst w.heap.size ib num seen lift (es.map tv) (ps.take (k + 1)) w2) := by
              rw [HTk.out]
              exact ⟨_, _, _, _, _, _, hI2, hts⟩
            have HX3 : Hid (Ext w w2) := Below.trans (Below.drew HX2.out) hx2
            clear hI hI2 hx2 hts HI2 HX2 HTk hc1 hc2 hc3
            go_wp2_with fail
            go_roundw
            case rel => exact ⟨k + 1, by omega, by go_num, HI3.out, HX3.out⟩
            case measure => simp [intOf]; omega
        · have hke : k = ps.length := by omega
          subst hke
          rw [List.take_length] at HI2
          go_wp2_with fail
          go_ret
          exact ⟨_, rfl, HI2.out, HX2.out⟩
end Go.Proofs.Qxb6616238a.Grow
