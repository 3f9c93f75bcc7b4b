import Derived.Test.Qxb6616238aModel
namespace Go.Proofs.Qxb6616238a.Grow
set_option linter.unusedVariables false
set_option linter.unusedSimpArgs false
set_option maxRecDepth 100000
open Go.ChangeShapes Go.WideShapes Go.ChangeAt Go.RowKit Go.Lib

set_option maxHeartbeats 4000000 in
theorem catT_any (a b : Option Addr) (ac bc : Nat) (xs ys : List (Bool × Int)) (w : World) (hA : TRow w a xs) (hB : TRow w b ys) (hx : xs.length ≤ 65536) (hy : ys.length ≤ 65536) :
    Calls Try.prog 22 #[.slice a xs.length ac, .slice b ys.length bc] w fun e w' => ∃ g c, e = .returned (.slice (some ⟨g, 0, none⟩) (xs ++ ys).length c) ∧ Ext w w' ∧ TRow w' (some ⟨g, 0, none⟩) (xs ++ ys) := by
  obtain ⟨i0, hi, hz0, hz1, hz2⟩ := info_parts info72
  have HA : Hid (TRow w a xs) := hA
  have HB : Hid (TRow w b ys) := hB
  clear hA hB
  go_enter Try.func22, Try.ntmps22
  go_wp2_with (at_make; refine wpList_make_own _ rfl (.const (.int .i64 0)) (.tmp 12) 29 rfl w.heap.size 72 i0 _ 2 Try.underlying29 hi hz0 hz1 .i64 .i64 _ (xs.length + ys.length) rfl rfl (by omega) (by rw [hz2]; omega) (by unfold maxLen; omega) (Nat.le_refl _) ?_; intro w2 hown2 hgrow2)
  have HX2 : Hid (Ext w w2) := Below.grown (Below.refl _ w) hgrow2 (Nat.le_refl _) (fun k hk => by cases hk)
  have HP2 : Hid (w2.ownsRow w.heap.size 72 2 (.slice (some ⟨w.heap.size, 0, none⟩) 0 (xs.length + ys.length)) 0 []) := hown2
  clear hown2 hgrow2
  generalize hga : w.heap.size = gp at HP2 ⊢
  have HGA : Hid (w.heap.size = gp) := hga
  clear hga
  go_loopw [5, 6] (fun ov kv wr => ∃ k : Nat, k ≤ xs.length ∧ kv = .int .i64 k ∧ ov = .slice (some ⟨gp, 0, none⟩) (xs.take k).length (xs.length + ys.length) ∧ Hid (wr.ownsRow gp 72 2 (.slice (some ⟨gp, 0, none⟩) (xs.take k).length (xs.length + ys.length)) (xs.take k).length ((xs.take k).flatMap tc)) ∧ Hid (Ext w wr)) (fun _ kv _ => xs.length - (intOf kv).toNat)
  case atStart => exact ⟨0, Nat.zero_le _, rfl, rfl, HP2.out, HX2.out⟩
  case round =>
    obtain ⟨k, hk, rfl, rfl, HO, HX⟩ := hrel
    clear HP2 HX2
    by_cases hlt : k < xs.length
    · have hlt' : (k : Int) < xs.length := by omega
      obtain ⟨g, o, rfl, hs1, hs2, hg⟩ := (HA.out.kept HX.out) k hlt
      have HQ : Hid (xs.take (k + 1) = xs.take k ++ [xs[k]]) := by
        show _ = _
        rw [List.take_succ_eq_append_getElem hlt]
      have hql : (xs.take k).length ≤ k := by rw [List.length_take]; omega
      generalize xs.take k = qs at *
      generalize xs[k] = x at *
      obtain ⟨t, rd⟩ := x
      simp only at hs1 hs2
      have HXk2 : Hid (Ext w (wr.alloc (.cells #[.bool t, .int .i64 rd] 72))) := Ext.trans HX.out (Ext.alloc _ _)
      have HO2 : Hid ((wr.alloc (.cells #[.bool t, .int .i64 rd] 72)).ownsRow gp 72 2 (.slice (some ⟨gp, 0, none⟩) qs.length (xs.length + ys.length)) qs.length (qs.flatMap tc)) := HO.out.alloc _
      have HC : Hid (∀ j u, (tc (t, rd))[j]? = some u → (wr.alloc (.cells #[.bool t, .int .i64 rd] 72)).cell? ((⟨wr.heap.size, 0, none⟩ : Addr).add j) = some u) := by
        intro j u hu
        rw [Addr.add_mid, Nat.zero_add, cell_of_row _ _ j _ _ _ (heap_alloc_new _ _)]
        simpa [tc] using hu
      have H1 : Hid (∀ u ∈ tc (t, rd), u.oneCell' = true) := by intro u hu; simp [tc] at hu; rcases hu with rfl | rfl <;> rfl
      have hfit : qs.length + 1 ≤ xs.length + ys.length := by omega
      go_wp2_with (at_builtin; refine wpList_append_fits _ rfl (.tmp 20) (.tmp 25) 29 rfl gp 72 i0 2 Try.underlying29 hi hz1 gp qs.length (xs.length + ys.length) (qs.flatMap tc) rfl HO2.out ⟨wr.heap.size, 0, none⟩ 1 1 (tc _) rfl rfl HC.out H1.out hfit ?_; intro w3 hown3 hgrow3)
      have HO3 : Hid (w3.ownsRow gp 72 2 (.slice (some ⟨gp, 0, none⟩) (qs.length + 1) (xs.length + ys.length)) (qs.length + 1) (qs.flatMap tc ++ tc (t, rd))) := hown3
      have HX3 : Hid (Ext w w3) := Below.grown HXk2.out hgrow3 HXk2.out.size (fun k hk => by injection hk with hk; rw [← hk]; exact Nat.le_of_eq HGA.out)
      clear hown3 hgrow3
      go_wp2_with fail
      go_roundw
      case rel => exact ⟨k + 1, by omega, by go_num, by rw [HQ.out, List.length_append]; rfl, by rw [HQ.out, List.length_append, List.flatMap_append]; simpa using HO3, HX3.out⟩
      case measure => simp [intOf]; omega
    · have hke : k = xs.length := by omega
      subst hke
      rw [List.take_length] at HO ⊢
      clear HA
      go_wp2_with fail
      go_loopw [5, 7] (fun ov kv wr => ∃ k : Nat, k ≤ ys.length ∧ kv = .int .i64 k ∧ ov = .slice (some ⟨gp, 0, none⟩) (xs ++ ys.take k).length (xs.length + ys.length) ∧ Hid (wr.ownsRow gp 72 2 (.slice (some ⟨gp, 0, none⟩) (xs ++ ys.take k).length (xs.length + ys.length)) (xs ++ ys.take k).length ((xs ++ ys.take k).flatMap tc)) ∧ Hid (Ext w wr)) (fun _ kv _ => ys.length - (intOf kv).toNat)
      case atStart => exact ⟨0, Nat.zero_le _, rfl, by simp, by simpa using HO, HX.out⟩
      case round =>
        obtain ⟨k, hk, rfl, rfl, HO1, HX1⟩ := hrel
        clear HO HX
        by_cases hlt : k < ys.length
        · have hlt' : (k : Int) < ys.length := by omega
          obtain ⟨g, o, rfl, hs1, hs2, hg⟩ := (HB.out.kept HX1.out) k hlt
          have HQ : Hid (xs ++ ys.take (k + 1) = (xs ++ ys.take k) ++ [ys[k]]) := by
            show _ = _
            rw [List.take_succ_eq_append_getElem hlt, List.append_assoc]
          have hql : (xs ++ ys.take k).length ≤ xs.length + k := by rw [List.length_append, List.length_take]; omega
          generalize xs ++ ys.take k = qs at *
          generalize ys[k] = x at *
          obtain ⟨t, rd⟩ := x
          simp only at hs1 hs2
          have HXk2 : Hid (Ext w (wr.alloc (.cells #[.bool t, .int .i64 rd] 72))) := Ext.trans HX1.out (Ext.alloc _ _)
          have HO2 : Hid ((wr.alloc (.cells #[.bool t, .int .i64 rd] 72)).ownsRow gp 72 2 (.slice (some ⟨gp, 0, none⟩) qs.length (xs.length + ys.length)) qs.length (qs.flatMap tc)) := HO1.out.alloc _
          have HC : Hid (∀ j u, (tc (t, rd))[j]? = some u → (wr.alloc (.cells #[.bool t, .int .i64 rd] 72)).cell? ((⟨wr.heap.size, 0, none⟩ : Addr).add j) = some u) := by
            intro j u hu
            rw [Addr.add_mid, Nat.zero_add, cell_of_row _ _ j _ _ _ (heap_alloc_new _ _)]
            simpa [tc] using hu
          have H1 : Hid (∀ u ∈ tc (t, rd), u.oneCell' = true) := by intro u hu; simp [tc] at hu; rcases hu with rfl | rfl <;> rfl
          have hfit : qs.length + 1 ≤ xs.length + ys.length := by omega
          go_wp2_with (at_builtin; refine wpList_append_fits _ rfl (.tmp 33) (.tmp 38) 29 rfl gp 72 i0 2 Try.underlying29 hi hz1 gp qs.length (xs.length + ys.length) (qs.flatMap tc) rfl HO2.out ⟨wr.heap.size, 0, none⟩ 1 1 (tc _) rfl rfl HC.out H1.out hfit ?_; intro w3 hown3 hgrow3)
          have HO3 : Hid (w3.ownsRow gp 72 2 (.slice (some ⟨gp, 0, none⟩) (qs.length + 1) (xs.length + ys.length)) (qs.length + 1) (qs.flatMap tc ++ tc (t, rd))) := hown3
          have HX3 : Hid (Ext w w3) := Below.grown HXk2.out hgrow3 HXk2.out.size (fun k hk => by injection hk with hk; rw [← hk]; exact Nat.le_of_eq HGA.out)
          clear hown3 hgrow3
          go_wp2_with fail
          go_roundw
          case rel => exact ⟨k + 1, by omega, by go_num, by rw [HQ.out, List.length_append]; rfl, by rw [HQ.out, List.length_append, List.flatMap_append]; simpa using HO3, HX3.out⟩
          case measure => simp [intOf]; omega
        · have hke : k = ys.length := by omega
          subst hke
          rw [List.take_length] at HO1 ⊢
          have HPe : Hid (TRow wr (some ⟨gp, 0, none⟩) (xs ++ ys)) := own_TRow HO1.out
          clear HO1 HGA HB
          go_wp2_with fail
          go_ret
          exact ⟨gp, _, rfl, HX1.out, HPe.out⟩

set_option maxHeartbeats 4000000 in
theorem catP_any (a b : Option Addr) (ac bc : Nat) (xs ys : List Msg3) (w : World) (hA : PRow w a xs) (hB : PRow w b ys) (hx : xs.length ≤ 65536) (hy : ys.length ≤ 65536) :
    Calls Try.prog 23 #[.slice a xs.length ac, .slice b ys.length bc] w fun e w' => ∃ g c, e = .returned (.slice (some ⟨g, 0, none⟩) (xs ++ ys).length c) ∧ Ext w w' ∧ PRow w' (some ⟨g, 0, none⟩) (xs ++ ys) := by
  obtain ⟨i0, hi, hz0, hz1, hz2⟩ := info_parts info76
  have HA : Hid (PRow w a xs) := hA
  have HB : Hid (PRow w b ys) := hB
  clear hA hB
  go_enter Try.func23, Try.ntmps23
  go_wp2_with (at_make; refine wpList_make_own _ rfl (.const (.int .i64 0)) (.tmp 12) 30 rfl w.heap.size 76 i0 _ 3 Try.underlying30 hi hz0 hz1 .i64 .i64 _ (xs.length + ys.length) rfl rfl (by omega) (by rw [hz2]; omega) (by unfold maxLen; omega) (Nat.le_refl _) ?_; intro w2 hown2 hgrow2)
  have HX2 : Hid (Ext w w2) := Below.grown (Below.refl _ w) hgrow2 (Nat.le_refl _) (fun k hk => by cases hk)
  have HP2 : Hid (w2.ownsRow w.heap.size 76 3 (.slice (some ⟨w.heap.size, 0, none⟩) 0 (xs.length + ys.length)) 0 []) := hown2
  clear hown2 hgrow2
  generalize hga : w.heap.size = gp at HP2 ⊢
  have HGA : Hid (w.heap.size = gp) := hga
  clear hga
  go_loopw [5, 6] (fun ov kv wr => ∃ k : Nat, k ≤ xs.length ∧ kv = .int .i64 k ∧ ov = .slice (some ⟨gp, 0, none⟩) (xs.take k).length (xs.length + ys.length) ∧ Hid (wr.ownsRow gp 76 3 (.slice (some ⟨gp, 0, none⟩) (xs.take k).length (xs.length + ys.length)) (xs.take k).length ((xs.take k).flatMap mc)) ∧ Hid (Ext w wr)) (fun _ kv _ => xs.length - (intOf kv).toNat)
  case atStart => exact ⟨0, Nat.zero_le _, rfl, rfl, HP2.out, HX2.out⟩
  case round =>
    obtain ⟨k, hk, rfl, rfl, HO, HX⟩ := hrel
    clear HP2 HX2
    by_cases hlt : k < xs.length
    · have hlt' : (k : Int) < xs.length := by omega
      obtain ⟨g, o, rfl, hs1, hs2, hs3, hg⟩ := (HA.out.kept HX.out) k hlt
      have HQ : Hid (xs.take (k + 1) = xs.take k ++ [xs[k]]) := by
        show _ = _
        rw [List.take_succ_eq_append_getElem hlt]
      have hql : (xs.take k).length ≤ k := by rw [List.length_take]; omega
      generalize xs.take k = qs at *
      generalize xs[k] = x at *
      obtain ⟨t, ii, rd⟩ := x
      simp only at hs1 hs2 hs3
      have HXk2 : Hid (Ext w (wr.alloc (.cells #[.int .u8 t, .int .i64 ii, .int .i64 rd] 76))) := Ext.trans HX.out (Ext.alloc _ _)
      have HO2 : Hid ((wr.alloc (.cells #[.int .u8 t, .int .i64 ii, .int .i64 rd] 76)).ownsRow gp 76 3 (.slice (some ⟨gp, 0, none⟩) qs.length (xs.length + ys.length)) qs.length (qs.flatMap mc)) := HO.out.alloc _
      have HC : Hid (∀ j u, (mc (t, ii, rd))[j]? = some u → (wr.alloc (.cells #[.int .u8 t, .int .i64 ii, .int .i64 rd] 76)).cell? ((⟨wr.heap.size, 0, none⟩ : Addr).add j) = some u) := by
        intro j u hu
        rw [Addr.add_mid, Nat.zero_add, cell_of_row _ _ j _ _ _ (heap_alloc_new _ _)]
        simpa [mc] using hu
      have H1 : Hid (∀ u ∈ mc (t, ii, rd), u.oneCell' = true) := by intro u hu; simp [mc] at hu; rcases hu with rfl | rfl | rfl <;> rfl
      have hfit : qs.length + 1 ≤ xs.length + ys.length := by omega
      go_wp2_with (at_builtin; refine wpList_append_fits _ rfl (.tmp 20) (.tmp 25) 30 rfl gp 76 i0 3 Try.underlying30 hi hz1 gp qs.length (xs.length + ys.length) (qs.flatMap mc) rfl HO2.out ⟨wr.heap.size, 0, none⟩ 1 1 (mc _) rfl rfl HC.out H1.out hfit ?_; intro w3 hown3 hgrow3)
      have HO3 : Hid (w3.ownsRow gp 76 3 (.slice (some ⟨gp, 0, none⟩) (qs.length + 1) (xs.length + ys.length)) (qs.length + 1) (qs.flatMap mc ++ mc (t, ii, rd))) := hown3
      have HX3 : Hid (Ext w w3) := Below.grown HXk2.out hgrow3 HXk2.out.size (fun k hk => by injection hk with hk; rw [← hk]; exact Nat.le_of_eq HGA.out)
      clear hown3 hgrow3
      go_wp2_with fail
      go_roundw
      case rel => exact ⟨k + 1, by omega, by go_num, by rw [HQ.out, List.length_append]; rfl, by rw [HQ.out, List.length_append, List.flatMap_append]; simpa using HO3, HX3.out⟩
      case measure => simp [intOf]; omega
    · have hke : k = xs.length := by omega
      subst hke
      rw [List.take_length] at HO ⊢
      clear HA
      go_wp2_with fail
      go_loopw [5, 7] (fun ov kv wr => ∃ k : Nat, k ≤ ys.length ∧ kv = .int .i64 k ∧ ov = .slice (some ⟨gp, 0, none⟩) (xs ++ ys.take k).length (xs.length + ys.length) ∧ Hid (wr.ownsRow gp 76 3 (.slice (some ⟨gp, 0, none⟩) (xs ++ ys.take k).length (xs.length + ys.length)) (xs ++ ys.take k).length ((xs ++ ys.take k).flatMap mc)) ∧ Hid (Ext w wr)) (fun _ kv _ => ys.length - (intOf kv).toNat)
      case atStart => exact ⟨0, Nat.zero_le _, rfl, by simp, by simpa using HO, HX.out⟩
      case round =>
        obtain ⟨k, hk, rfl, rfl, HO1, HX1⟩ := hrel
        clear HO HX
        by_cases hlt : k < ys.length
        · have hlt' : (k : Int) < ys.length := by omega
          obtain ⟨g, o, rfl, hs1, hs2, hs3, hg⟩ := (HB.out.kept HX1.out) k hlt
          have HQ : Hid (xs ++ ys.take (k + 1) = (xs ++ ys.take k) ++ [ys[k]]) := by
            show _ = _
            rw [List.take_succ_eq_append_getElem hlt, List.append_assoc]
          have hql : (xs ++ ys.take k).length ≤ xs.length + k := by rw [List.length_append, List.length_take]; omega
          generalize xs ++ ys.take k = qs at *
          generalize ys[k] = x at *
          obtain ⟨t, ii, rd⟩ := x
          simp only at hs1 hs2 hs3
          have HXk2 : Hid (Ext w (wr.alloc (.cells #[.int .u8 t, .int .i64 ii, .int .i64 rd] 76))) := Ext.trans HX1.out (Ext.alloc _ _)
          have HO2 : Hid ((wr.alloc (.cells #[.int .u8 t, .int .i64 ii, .int .i64 rd] 76)).ownsRow gp 76 3 (.slice (some ⟨gp, 0, none⟩) qs.length (xs.length + ys.length)) qs.length (qs.flatMap mc)) := HO1.out.alloc _
          have HC : Hid (∀ j u, (mc (t, ii, rd))[j]? = some u → (wr.alloc (.cells #[.int .u8 t, .int .i64 ii, .int .i64 rd] 76)).cell? ((⟨wr.heap.size, 0, none⟩ : Addr).add j) = some u) := by
            intro j u hu
            rw [Addr.add_mid, Nat.zero_add, cell_of_row _ _ j _ _ _ (heap_alloc_new _ _)]
            simpa [mc] using hu
          have H1 : Hid (∀ u ∈ mc (t, ii, rd), u.oneCell' = true) := by intro u hu; simp [mc] at hu; rcases hu with rfl | rfl | rfl <;> rfl
          have hfit : qs.length + 1 ≤ xs.length + ys.length := by omega
          go_wp2_with (at_builtin; refine wpList_append_fits _ rfl (.tmp 33) (.tmp 38) 30 rfl gp 76 i0 3 Try.underlying30 hi hz1 gp qs.length (xs.length + ys.length) (qs.flatMap mc) rfl HO2.out ⟨wr.heap.size, 0, none⟩ 1 1 (mc _) rfl rfl HC.out H1.out hfit ?_; intro w3 hown3 hgrow3)
          have HO3 : Hid (w3.ownsRow gp 76 3 (.slice (some ⟨gp, 0, none⟩) (qs.length + 1) (xs.length + ys.length)) (qs.length + 1) (qs.flatMap mc ++ mc (t, ii, rd))) := hown3
          have HX3 : Hid (Ext w w3) := Below.grown HXk2.out hgrow3 HXk2.out.size (fun k hk => by injection hk with hk; rw [← hk]; exact Nat.le_of_eq HGA.out)
          clear hown3 hgrow3
          go_wp2_with fail
          go_roundw
          case rel => exact ⟨k + 1, by omega, by go_num, by rw [HQ.out, List.length_append]; rfl, by rw [HQ.out, List.length_append, List.flatMap_append]; simpa using HO3, HX3.out⟩
          case measure => simp [intOf]; omega
        · have hke : k = ys.length := by omega
          subst hke
          rw [List.take_length] at HO1 ⊢
          have HPe : Hid (PRow wr (some ⟨gp, 0, none⟩) (xs ++ ys)) := own_PRow HO1.out
          clear HO1 HGA HB
          go_wp2_with fail
          go_ret
          exact ⟨gp, _, rfl, HX1.out, HPe.out⟩
end Go.Proofs.Qxb6616238a.Grow
