import Derived.Test.Qxb6616238aRead2
namespace Go.Proofs.Qxb6616238a.Grow
set_option linter.unusedVariables false
set_option linter.unusedSimpArgs false
set_option maxRecDepth 100000
open Go.ChangeShapes Go.WideShapes Go.ChangeAt Go.RowKit Go.Lib

def mc (x : Msg3) : List Value := [.int .u8 x.1, .int .i64 x.2.1, .int .i64 x.2.2]
def tc (x : Bool × Int) : List Value := [.bool x.1, .int .i64 x.2]

theorem flat3_get : ∀ (ps : List Msg3) (j i : Nat) (hj : j < ps.length), i < 3 → (ps.flatMap mc)[j * 3 + i]? = (mc ps[j])[i]?
  | [], j, i, h, _ => by simp at h
  | p :: r, 0, i, _, hi => by
    rw [List.flatMap_cons, List.getElem?_append_left (by simp [mc]; omega)]
    simp
  | p :: r, j + 1, i, h, hi => by
    rw [List.flatMap_cons, List.getElem?_append_right (by simp [mc]; omega), show (mc p).length = 3 from rfl, show (j + 1) * 3 + i - 3 = j * 3 + i by omega, flat3_get r j i (by simpa using h) hi]
    simp
theorem flat2_get : ∀ (es : List (Bool × Int)) (j i : Nat) (hj : j < es.length), i < 2 → (es.flatMap tc)[j * 2 + i]? = (tc es[j])[i]?
  | [], j, i, h, _ => by simp at h
  | p :: r, 0, i, _, hi => by
    rw [List.flatMap_cons, List.getElem?_append_left (by simp [tc]; omega)]
    simp
  | p :: r, j + 1, i, h, hi => by
    rw [List.flatMap_cons, List.getElem?_append_right (by simp [tc]; omega), show (tc p).length = 2 from rfl, show (j + 1) * 2 + i - 2 = j * 2 + i by omega, flat2_get r j i (by simpa using h) hi]
    simp

theorem own_PRow {w : World} {B g cap : Nat} {qs : List Msg3} (h : w.ownsRow B 76 3 (.slice (some ⟨g, 0, none⟩) qs.length cap) qs.length (qs.flatMap mc)) : PRow w (some ⟨g, 0, none⟩) qs := by
  intro i hi
  refine ⟨g, 0, rfl, ?_, ?_, ?_, (h.lt g rfl).2⟩
  · rw [Nat.zero_add, h.cellAt (i * 3) (by omega)]; exact flat3_get qs i 0 hi (by decide)
  · rw [Nat.zero_add, h.cellAt (i * 3 + 1) (by omega)]; exact flat3_get qs i 1 hi (by decide)
  · rw [Nat.zero_add, h.cellAt (i * 3 + 2) (by omega)]; exact flat3_get qs i 2 hi (by decide)
theorem own_TRow {w : World} {B g cap : Nat} {es : List (Bool × Int)} (h : w.ownsRow B 72 2 (.slice (some ⟨g, 0, none⟩) es.length cap) es.length (es.flatMap tc)) : TRow w (some ⟨g, 0, none⟩) es := by
  intro i hi
  refine ⟨g, 0, rfl, ?_, ?_, (h.lt g rfl).2⟩
  · rw [Nat.zero_add, h.cellAt (i * 2) (by omega)]; exact flat2_get es i 0 hi (by decide)
  · rw [Nat.zero_add, h.cellAt (i * 2 + 1) (by omega)]; exact flat2_get es i 1 hi (by decide)

def modE (base : Int) (x : Bool × Int) : Bool × Int := if x.1 = true ∧ base < x.2 then x else (false, 0)

set_option maxHeartbeats 4000000 in
theorem model_any (num lift r : Int) (a b : Option Addr) (ac bc : Nat) (es : List (Bool × Int)) (ps : List Msg3) (w : World) (hT : TRow w a es) (hP : PRow w b ps) (hes : es.length ≤ 65536) (hps : ps.length ≤ 65536) (h0 : 0 ≤ lift) (h1 : lift ≤ 9223372036854775807) :
    Calls Try.prog 17 #[.int .i64 num, .int .i64 lift, .int .i64 r, .slice a es.length ac, .slice b ps.length bc] w fun e w' => ∃ ga gp cp, e = .returned (.tuple #[.slice (some ⟨ga, 0, none⟩) es.length es.length, .slice (some ⟨gp, 0, none⟩) (left3 num r ps).length cp]) ∧ Ext w w' ∧ TRow w' (some ⟨ga, 0, none⟩) (es.map (modE (mx r (lift - 1)))) ∧ PRow w' (some ⟨gp, 0, none⟩) (left3 num r ps) := by
  obtain ⟨i0, hi, hz0, hz1, hz2⟩ := info_parts info72
  obtain ⟨j0, hj, hy0, hy1, hy2⟩ := info_parts info76
  have HT : Hid (TRow w a es) := hT
  have HP : Hid (PRow w b ps) := hP
  clear hT hP
  have hw1 : IntKind.i64.wrap (lift - 1) = lift - 1 := by rw [IntKind.wrap_i64]; omega
  obtain ⟨base, hba⟩ : ∃ base, mx r (lift - 1) = base := ⟨_, rfl⟩
  have HBM : Hid (mx r (lift - 1) = base) := hba
  have hbb : (r < lift - 1 ∧ base = lift - 1) ∨ (¬ r < lift - 1 ∧ base = r) := by
    unfold mx at hba
    split at hba
    · exact .inl ⟨by assumption, hba.symm⟩
    · exact .inr ⟨by assumption, hba.symm⟩
  clear hba
  obtain ⟨es', HE⟩ : ∃ es', Hid (es' = es.map (modE (mx r (lift - 1)))) := ⟨_, rfl⟩
  have hel : es'.length = es.length := by rw [HE.out, List.length_map]
  rcases hbb with ⟨hb, hbe⟩ | ⟨hb, hbe⟩
  all_goals
    have hbe' := hbe.symm
    subst hbe'
    clear hbe
    go_enter Try.func17, Try.ntmps17
    go_wp2_with (at_make; refine wpList_make_full _ rfl (.tmp 26) (.tmp 26) 29 rfl w.heap.size 72 i0 _ 2 Try.underlying29 hi hz0 hz1 .i64 .i64 _ _ es.length rfl rfl rfl rfl (by rw [hz2]; omega) (by unfold maxLen; omega) (Nat.le_refl _) ?_; intro w2 hown2 hgrow2)
    have HX2 : Hid (Ext w w2) := Below.grown (Below.refl _ w) hgrow2 (Nat.le_refl _) (fun k hk => by cases hk)
    have HT2 : Hid (TOwn w.heap.size w2 w.heap.size (List.replicate es'.length (false, 0))) := by rw [hel]; exact made_T hown2
    clear hown2 hgrow2
    generalize hga : w.heap.size = ga at HT2 ⊢
    have HGA : Hid (w.heap.size = ga) := hga
    clear hga
    go_loopw [14] (fun kv wr => ∃ k : Nat, k ≤ es.length ∧ kv = .int .i64 k ∧ Hid (TOwn ga wr ga (es'.take k ++ List.replicate (es'.length - k) (false, 0))) ∧ Hid (Ext w wr)) (fun kv _ => es.length - (intOf kv).toNat)
    case atStart => exact ⟨0, Nat.zero_le _, rfl, HT2.out, HX2.out⟩
    case round =>
      obtain ⟨k, hk, rfl, HTk, HX⟩ := hrel
      clear HT2 HX2
      by_cases hlt : k < es.length
      · have hlt' : (k : Int) < es.length := by omega
        obtain ⟨g, o, rfl, hs1, hs2, hg⟩ := (HT.out.kept HX.out) k hlt
        have hkl : k < (es'.take k ++ List.replicate (es'.length - k) (false, 0)).length := by rw [fill_len es' _ k (by omega)]; omega
        have HS : Hid ((es'.take k ++ List.replicate (es'.length - k) (false, 0)).set k (es'[k]'(by omega)) = es'.take (k + 1) ++ List.replicate (es'.length - (k + 1)) (false, 0)) := fill_set es' _ k (by omega)
        have HS0 : Hid (es'[k]'(by omega) = (false, 0) → es'.take k ++ List.replicate (es'.length - k) (false, 0) = es'.take (k + 1) ++ List.replicate (es'.length - (k + 1)) (false, 0)) := fun e => fill_skip es' _ k (by omega) e
        have hek : es'[k]'(by omega) = modE (mx r (lift - 1)) es[k] := by
          have := HE.out
          subst this
          simp
        obtain ⟨hc1, hc2⟩ := HTk.out.2.2 k hkl
        rw [fill_at es' _ k (by omega)] at hc1 hc2
        have hf : ∀ x, wr.frozen? ⟨ga, x, none⟩ = false := HTk.out.2.1
        rw [hek] at HS HS0
        clear hek
        generalize es[k] = x at *
        obtain ⟨bb, rd⟩ := x
        cases bb with
        | false =>
          have HT5 : Hid (TOwn ga wr ga (es'.take (k + 1) ++ List.replicate (es'.length - (k + 1)) (false, 0))) := by rw [← HS0.out (by simp [modE])]; exact HTk.out
          clear HS0 HTk HS hf hc1 hc2 hkl
          go_wp2_with fail
          go_roundw
          case rel => exact ⟨k + 1, by omega, by go_num, HT5.out, HX.out⟩
          case measure => simp [intOf]; omega
        | true =>
          by_cases hgt : mx r (lift - 1) < rd
          · have HT4 : Hid (TOwn ga ((wr.setCell ⟨ga, k * 2, none⟩ (.bool true)).setCell ⟨ga, k * 2 + 1, none⟩ (.int .i64 rd)) ga (es'.take (k + 1) ++ List.replicate (es'.length - (k + 1)) (false, 0))) := by
              rw [← HS.out, show modE (mx r (lift - 1)) (true, rd) = (true, rd) by simp [modE, hgt]]; exact HTk.out.set k hkl true rd
            have HX4 : Hid (Ext w ((wr.setCell ⟨ga, k * 2, none⟩ (.bool true)).setCell ⟨ga, k * 2 + 1, none⟩ (.int .i64 rd))) := Below.setCell (p := ⟨ga, k * 2 + 1, none⟩) (Below.setCell (p := ⟨ga, k * 2, none⟩) HX.out (Nat.le_of_eq HGA.out) _) (Nat.le_of_eq HGA.out) _
            rw [HBM.out] at hgt
            clear HS0 HTk HS hkl
            go_wp2_with fail
            go_roundw
            case rel => exact ⟨k + 1, by omega, by go_num, HT4.out, HX4.out⟩
            case measure => simp [intOf]; omega
          · have HT5 : Hid (TOwn ga wr ga (es'.take (k + 1) ++ List.replicate (es'.length - (k + 1)) (false, 0))) := by rw [← HS0.out (by simp [modE, hgt])]; exact HTk.out
            rw [HBM.out] at hgt
            clear HS0 HTk HS hf hc1 hc2 hkl
            go_wp2_with fail
            go_roundw
            case rel => exact ⟨k + 1, by omega, by go_num, HT5.out, HX.out⟩
            case measure => simp [intOf]; omega
      · have hke : k = es.length := by omega
        subst hke
        have HTe : Hid (TRow wr (some ⟨ga, 0, none⟩) es') := by
          have := HTk.out
          rw [List.take_of_length_le (by omega), show es'.length - es.length = 0 by omega, List.replicate_zero, List.append_nil] at this
          exact this.row
        have HPw : Hid (PRow wr b ps) := HP.out.kept HX.out
        clear HTk HGA hi hz0 hz1 hz2 HP HT
        obtain ⟨w1, hw1⟩ : ∃ w1, w1 = wr := ⟨_, rfl⟩
        subst hw1
        go_wp2_with (at_make; refine wpList_make_own _ rfl (.const (.int .i64 0)) (.tmp 56) 30 rfl w1.heap.size 76 j0 _ 3 Try.underlying30 hj hy0 hy1 .i64 .i64 _ ps.length rfl rfl rfl (by rw [hy2]; omega) (by unfold maxLen; omega) (Nat.le_refl _) ?_; intro w2 hown2 hgrow2)
        have HX2 : Hid (Ext w1 w2) := Below.grown (Below.refl _ w1) hgrow2 (Nat.le_refl _) (fun k hk => by cases hk)
        have HP2 : Hid (w2.ownsRow w1.heap.size 76 3 (.slice (some ⟨w1.heap.size, 0, none⟩) 0 ps.length) 0 []) := hown2
        clear hown2 hgrow2
        generalize hga : w1.heap.size = gp at HP2 ⊢
        have HGA : Hid (w1.heap.size = gp) := hga
        clear hga
        go_loopw [15, 16, 17] (fun ov kv _ wr => ∃ k : Nat, k ≤ ps.length ∧ kv = .int .i64 k ∧ ov = .slice (some ⟨gp, 0, none⟩) (left3 num r (ps.take k)).length ps.length ∧ Hid (wr.ownsRow gp 76 3 (.slice (some ⟨gp, 0, none⟩) (left3 num r (ps.take k)).length ps.length) (left3 num r (ps.take k)).length ((left3 num r (ps.take k)).flatMap mc)) ∧ Hid (Ext w1 wr)) (fun _ kv _ _ => ps.length - (intOf kv).toNat)
        case atStart => exact ⟨0, Nat.zero_le _, rfl, rfl, HP2.out, HX2.out⟩
        case round =>
          obtain ⟨k, hk, rfl, rfl, HO, HX1⟩ := hrel
          clear HP2 HX2
          by_cases hlt : k < ps.length
          · have hlt' : (k : Int) < ps.length := by omega
            obtain ⟨g, o, rfl, hs1, hs2, hs3, hg⟩ := (HPw.out.kept HX1.out) k hlt
            have HTk : Hid (left3 num r (ps.take (k + 1)) = left3 num r (ps.take k) ++ left3 num r [ps[k]]) := by
              show _ = _
              rw [List.take_succ_eq_append_getElem hlt, left3, List.filter_append]; rfl
            have hql : (left3 num r (ps.take k)).length ≤ k := Nat.le_trans (List.length_filter_le _ _) (by rw [List.length_take]; omega)
            generalize left3 num r (ps.take k) = qs at *
            generalize ps[k] = x at *
            obtain ⟨t, ii, rd⟩ := x
            simp only at hs1 hs2 hs3
            have HXk : Hid (Ext w1 (wr.alloc (.cells #[.int .u8 t, .int .i64 ii, .int .i64 rd] 76))) := Ext.trans HX1.out (Ext.alloc wr _)
            by_cases hst : struck num r (t, ii, rd) = true
            · have HQ : Hid (left3 num r (ps.take (k + 1)) = qs) := by show _ = _; rw [HTk.out, left3]; simp [hst]
              have h1 : t = 2 ∧ ii = num ∧ rd < r := by simpa [struck, and_assoc] using hst
              obtain ⟨rfl, rfl, h3⟩ := h1
              have HO' : Hid ((wr.alloc (.cells #[.int .u8 2, .int .i64 ii, .int .i64 rd] 76)).ownsRow gp 76 3 (.slice (some ⟨gp, 0, none⟩) qs.length ps.length) qs.length (qs.flatMap mc)) := HO.out.alloc _
              clear hst HTk
              go_wp2_with fail
              go_roundw
              case rel => exact ⟨k + 1, by omega, by go_num, by rw [HQ.out], by rw [HQ.out]; exact HO'.out, HXk.out⟩
              case measure => simp [intOf]; omega
            · have HQ : Hid (left3 num r (ps.take (k + 1)) = qs ++ [(t, ii, rd)]) := by show _ = _; rw [HTk.out, left3]; simp [hst]
              have HXk2 : Hid (Ext w1 ((wr.alloc (.cells #[.int .u8 t, .int .i64 ii, .int .i64 rd] 76)).alloc (.cells #[.int .u8 t, .int .i64 ii, .int .i64 rd] 76))) := Ext.trans HXk.out (Ext.alloc _ _)
              have HO2 : Hid (((wr.alloc (.cells #[.int .u8 t, .int .i64 ii, .int .i64 rd] 76)).alloc (.cells #[.int .u8 t, .int .i64 ii, .int .i64 rd] 76)).ownsRow gp 76 3 (.slice (some ⟨gp, 0, none⟩) qs.length ps.length) qs.length (qs.flatMap mc)) := (HO.out.alloc _).alloc _
              have HC : Hid (∀ j u, (mc (t, ii, rd))[j]? = some u → ((wr.alloc (.cells #[.int .u8 t, .int .i64 ii, .int .i64 rd] 76)).alloc (.cells #[.int .u8 t, .int .i64 ii, .int .i64 rd] 76)).cell? ((⟨wr.heap.size + 1, 0, none⟩ : Addr).add j) = some u) := by
                intro j u hu
                have := cell_of_row ((wr.alloc (.cells #[.int .u8 t, .int .i64 ii, .int .i64 rd] 76)).alloc (.cells #[.int .u8 t, .int .i64 ii, .int .i64 rd] 76)) (wr.alloc (.cells #[.int .u8 t, .int .i64 ii, .int .i64 rd] 76)).heap.size j _ _ _ (heap_alloc_new _ _)
                rw [show (wr.alloc (.cells #[.int .u8 t, .int .i64 ii, .int .i64 rd] 76)).heap.size = wr.heap.size + 1 by simp] at this
                rw [Addr.add_mid, Nat.zero_add, this]
                simpa [mc] using hu
              have H1 : Hid (∀ u ∈ mc (t, ii, rd), u.oneCell' = true) := by intro u hu; simp [mc] at hu; rcases hu with rfl | rfl | rfl <;> rfl
              have hcs : ¬ t = 2 ∨ (t = 2 ∧ ¬ ii = num) ∨ (t = 2 ∧ ii = num ∧ ¬ rd < r) := by
                by_cases c1 : t = 2
                · by_cases c2 : ii = num
                  · refine .inr (.inr ⟨c1, c2, fun c3 => hst (by simp [struck, c1, c2, c3])⟩)
                  · exact .inr (.inl ⟨c1, c2⟩)
                · exact .inl c1
              have hfit : qs.length + 1 ≤ ps.length := by omega
              clear hst HTk HXk
              rcases hcs with h2 | ⟨rfl, h2⟩ | ⟨rfl, rfl, h3⟩
              all_goals
                go_wp2_with (at_builtin; refine wpList_append_fits _ rfl (.tmp 83) (.tmp 85) 30 rfl gp 76 j0 3 Try.underlying30 hj hy1 gp qs.length ps.length (qs.flatMap mc) rfl HO2.out ⟨wr.heap.size + 1, 0, none⟩ 1 1 (mc _) rfl rfl HC.out H1.out hfit ?_; intro w3 hown3 hgrow3)
                have HO3 : Hid (w3.ownsRow gp 76 3 (.slice (some ⟨gp, 0, none⟩) (qs.length + 1) ps.length) (qs.length + 1) (qs.flatMap mc ++ mc _)) := hown3
                have HX3 : Hid (Ext w1 w3) := Below.grown HXk2.out hgrow3 HXk2.out.size (fun k hk => by injection hk with hk; rw [← hk]; exact Nat.le_of_eq HGA.out)
                clear hown3 hgrow3
                go_wp2_with fail
                go_roundw
                case rel => exact ⟨k + 1, by omega, by go_num, by rw [HQ.out, List.length_append]; rfl, by rw [HQ.out, List.length_append, List.flatMap_append]; simpa using HO3, HX3.out⟩
                case measure => simp [intOf]; omega
          · have hke : k = ps.length := by omega
            subst hke
            rw [List.take_length] at HO ⊢
            have HPe : Hid (PRow wr (some ⟨gp, 0, none⟩) (left3 num r ps)) := own_PRow HO.out
            have HRe : Hid (TRow wr (some ⟨ga, 0, none⟩) es') := HTe.out.kept HX1.out
            have HXe : Hid (Ext w wr) := Ext.trans HX.out HX1.out
            clear HO HTe HX1 HX HGA HPw
            go_wp2_with fail
            go_ret2
            exact ⟨ga, gp, _, rfl, HXe.out, by rw [← HE.out]; exact HRe.out, HPe.out⟩
end Go.Proofs.Qxb6616238a.Grow
