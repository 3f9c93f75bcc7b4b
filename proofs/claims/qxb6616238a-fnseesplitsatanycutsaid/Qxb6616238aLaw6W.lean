import Derived.Test.Qxb6616238aLaw6
namespace Go.Proofs.Qxb6616238a.Grow
set_option linter.unusedVariables false
set_option linter.unusedSimpArgs false
set_option maxRecDepth 100000
open Go.ChangeShapes Go.WideShapes Go.ChangeAt Go.RowKit Go.Lib

theorem lv_of {T : Array Value} (ds : List Nat) (n : Nat) (inj : ∀ i j, i < n → j < n → ds.getD i 0 = ds.getD j 0 → i = j) (val : Nat → Value) (fit : ∀ i, i < n → ds.getD i 0 < T.size) (k : Nat) (hk : k < n) : (laid (fun k => ds.getD k 0) val T n).getD (ds.getD k 0) undef = val k := by
  have := laid_on (fun k => ds.getD k 0) val T n inj fit k n (Nat.le_refl _) hk
  rw [Array.getD_eq_getD_getElem?]
  rw [this]
  rfl
theorem inj11 : ∀ i, i < 9 → ∀ j, j < 9 → ds11.getD i 0 = ds11.getD j 0 → i = j := by decide
theorem inj13 : ∀ i, i < 9 → ∀ j, j < 9 → ds13.getD i 0 = ds13.getD j 0 → i = j := by decide
theorem fit11 : ∀ i, i < 9 → ds11.getD i 0 < 103 := by decide
theorem fit13 : ∀ i, i < 9 → ds13.getD i 0 < 116 := by decide

theorem after11 {ops : Array Oper} {Q Q' : Exit → Act → World → Prop} {K' : Act → World → Prop} {L : Array Value} {df : List Deferred} {w : World}
    (hK : ∀ (a' : Act) (w' : World), (∀ f, (left ops.size (upTo ops.size 9)).length ≤ f → wpAny Try.prog .any ops Q f (upTo ops.size 9) a' w') → K' a' w')
    (ds : List Nat) (ok : okM ops 10 10 ds [] L.size = true) (hsz : ops.size = 11) {o9 o10 : Oper} (t0 t1 t2 t3 t4 dd d2 : Tmp) (p9 : o9.op = .call { callee := .value (.func 14), args := #[.tmp t0, .tmp t1, .tmp t2, .tmp t3, .tmp t4], argTypes := #[3, 3, 3, 29, 30] }) (d9 : o9.dst = some dd)
    (h10 : ops[10]? = some o10) (p10 : o10.op = .assign (.tmp dd)) (d10 : o10.dst = some d2) (hdd : dd < L.size) (v0 v1 v2 v3 v4 : Value)
    (e0 : L.getD t0 undef = v0) (e1 : L.getD t1 undef = v1) (e2 : L.getD t2 undef = v2) (e3 : L.getD t3 undef = v3) (e4 : L.getD t4 undef = v4)
    {post : Ending → World → Prop} (hc : Calls Try.prog 14 #[v0, v1, v2, v3, v4] w post)
    (done : ∀ e w2, post e w2 → ∃ v, e = .returned v ∧ Q .normal { tmps := (L.setIfInBounds dd v).setIfInBounds d2 v, defers := df } w2) :
    o9.wp Try.prog { tmps := L, defers := df } w K' Q' := by
  refine wp_call5 (.tmp t0) (.tmp t1) (.tmp t2) (.tmp t3) (.tmp t4) v0 v1 v2 v3 v4 p9 e0 e1 e2 e3 e4 ?_
  refine hc.mono ?_
  intro e w2 hp
  obtain ⟨v, rfl, hQ⟩ := done e w2 hp
  rw [d9]
  apply hK
  have ok' : okM ops 10 10 ds [] (Act.tmps { tmps := L.setIfInBounds dd v, defers := df }).size = true := by
    show okM ops 10 10 ds [] (L.setIfInBounds dd v).size = true
    rw [Array.size_setIfInBounds]; exact ok
  refine tail1 (n := 9) (a0 := { tmps := L.setIfInBounds dd v, defers := df }) ds hsz ok' o10 h10 (.tmp dd) p10 d2 d10 ?_
  have ev : Act.eval { tmps := L.setIfInBounds dd v, defers := df } (.tmp dd) = v := by
    show (L.setIfInBounds dd v).getD dd undef = v
    rw [Array.getD_eq_getD_getElem?, Array.getElem?_setIfInBounds_self_of_lt hdd]
    rfl
  rw [ev]
  exact hQ

set_option maxHeartbeats 8000000 in
theorem law6_any (num seen lift r i j : Int) (a b : Option Addr) (es : List (Bool × Int)) (ps : List Msg3) (ac bc : Nat) (w : World) (hT : TRow w a es) (hP : PRow w b ps) (hn : es.length ≤ ac) (hm : ps.length ≤ bc) (hac : ac ≤ 9223372036854775807) (hbc : bc ≤ 9223372036854775807) (hlift : lift ≤ 9223372036854775807) :
    Calls Try.prog 6 #[.int .i64 num, .int .i64 seen, .int .i64 lift, .int .i64 r, .slice a es.length ac, .slice b ps.length bc, .int .i64 i, .int .i64 j] w fun e w' => e = .returned (.bool true) ∧ Ext w w' := by
  have HT : Hid (TRow w a es) := hT
  have HP : Hid (PRow w b ps) := hP
  clear hT hP
  have hnn : es.length ≤ 9223372036854775807 := by omega
  have hmm : ps.length ≤ 9223372036854775807 := by omega
  go_enter Try.func6, Try.ntmps6
  go_wp2_with fail
  refine (bytes21 num seen lift r i j a b es.length ps.length ac bc w hnn hmm).mono ?_
  rintro e w' ⟨⟨bt, rfl⟩, hw⟩
  obtain rfl := hw.symm
  clear hw
  cases bt with
  | false =>
    go_wp2_with fail
    go_ret
    exact ⟨rfl, Ext.refl w⟩
  | true =>
    by_cases h1 : 65536 < (es.length : Int)
    · go_wp2_with fail
      go_ret
      exact ⟨rfl, Ext.refl w⟩
    by_cases h2 : 65536 < (ps.length : Int)
    · go_wp2_with fail
      go_ret
      exact ⟨rfl, Ext.refl w⟩
    by_cases h3 : 1048576 < 16 * (es.length : Int) + 24 * (ps.length : Int)
    · go_wp2_with fail
      go_ret
      exact ⟨rfl, Ext.refl w⟩
    by_cases h4 : seen < 0
    · go_wp2_with fail
      go_ret
      exact ⟨rfl, Ext.refl w⟩
    by_cases h5 : lift < 0
    · go_wp2_with fail
      go_ret
      exact ⟨rfl, Ext.refl w⟩
    by_cases h6 : r ≤ seen
    · go_wp2_with fail
      go_ret
      exact ⟨rfl, Ext.refl w⟩
    by_cases h7 : i < 0
    · go_wp2_with fail
      go_ret
      exact ⟨rfl, Ext.refl w⟩
    by_cases h8 : (es.length : Int) < i
    · go_wp2_with fail
      go_ret
      exact ⟨rfl, Ext.refl w⟩
    by_cases h9 : j < 0
    · go_wp2_with fail
      go_ret
      exact ⟨rfl, Ext.refl w⟩
    by_cases h10 : (ps.length : Int) < j
    · go_wp2_with fail
      go_ret
      exact ⟨rfl, Ext.refl w⟩
    have el : es.length ≤ 65536 := by omega
    have pl : ps.length ≤ 65536 := by omega
    have l0 : 0 ≤ lift := by omega
    obtain ⟨ni, rfl⟩ : ∃ ni : Nat, i = ni := ⟨i.toNat, by omega⟩
    obtain ⟨nj, rfl⟩ : ∃ nj : Nat, j = nj := ⟨j.toNat, by omega⟩
    have hni : ni ≤ es.length := by omega
    have hnj : nj ≤ ps.length := by omega
    go_wp2_with fail
    refine (buildN num seen lift a b ac bc es ps _ _ rfl rfl w HT.out HP.out el pl).mono ?_
    rintro e w1 ⟨iw, rfl, hIa, hx1⟩
    have HI1 : Hid (Inst w.heap.size iw num seen lift (es.map tv) ps w1) := hIa
    have HX1 : Hid (Ext w w1) := hx1
    clear hIa hx1
    go_wp2_with fail
    refine (seeI_any _ iw num seen lift _ ps w1 HI1.out (by rw [List.length_map]; exact el) pl l0 hlift r).mono ?_
    rintro e w2 ⟨rfl, hI2, hx2⟩
    have HI2 : Hid (Inst w.heap.size iw num r lift ((es.map tv).map (keepO (mx r (lift - 1)))) (left3 num r ps) w2) := hI2
    have HX2 : Hid (Ext w w2) := Below.trans HX1.out hx2
    clear hI2 hx2 HI1 HX1
    go_wp2_with fail
    refine wp_region_mid (last := 9) (d := fun k => ds11.getD k 0) (val := val11 num seen lift a b es.length ps.length ac bc ni nj) (skp := fun _ => false) (by kernel_rfl) ?_ _ rfl ?_
    · refine law5_of (ds := ds11) (gs := []) (by kernel_rfl) (fun i hi => by omega) (fun k _ hk => .inl ⟨rfl, rfl⟩) rfl (fun k _ _ hk => by cases hk) ?_
      intro i' o' act hfm hlt ho hsk hpre hoth
      match i', ho, hlt with
      | 0, ho, hlt => simp at ho; subst ho; exact (ex_move _ _ (.tmp 0) _ (.inl rfl)).trans (by rw [show Act.eval act (.tmp 0) = _ from hoth 0 (by decide)]; rfl)
      | 1, ho, hlt => simp at ho; subst ho; exact (ex_move _ _ (.tmp 1) _ (.inl rfl)).trans (by rw [show Act.eval act (.tmp 1) = _ from hoth 1 (by decide)]; rfl)
      | 2, ho, hlt => simp at ho; subst ho; exact (ex_move _ _ (.tmp 2) _ (.inl rfl)).trans (by rw [show Act.eval act (.tmp 2) = _ from hoth 2 (by decide)]; rfl)
      | 3, ho, hlt => simp at ho; subst ho; exact (ex_move _ _ (.tmp 4) _ (.inl rfl)).trans (by rw [show Act.eval act (.tmp 4) = _ from hoth 4 (by decide)]; rfl)
      | 4, ho, hlt => simp at ho; subst ho; exact (ex_move _ _ (.tmp 6) _ (.inl rfl)).trans (by rw [show Act.eval act (.tmp 6) = _ from hoth 6 (by decide)]; rfl)
      | 5, ho, hlt => simp at ho; subst ho; exact ex_sliceHi29 _ _ (.tmp 97) (.tmp 98) _ _ _ _ _ rfl (hpre { on := 3, ground := .data } (by simp) rfl) (hpre { on := 4, ground := .data } (by simp) rfl) (by omega)
      | 6, ho, hlt => simp at ho; subst ho; exact (ex_move _ _ (.tmp 5) _ (.inl rfl)).trans (by rw [show Act.eval act (.tmp 5) = _ from hoth 5 (by decide)]; rfl)
      | 7, ho, hlt => simp at ho; subst ho; exact (ex_move _ _ (.tmp 7) _ (.inl rfl)).trans (by rw [show Act.eval act (.tmp 7) = _ from hoth 7 (by decide)]; rfl)
      | 8, ho, hlt => simp at ho; subst ho; exact ex_sliceHi30 _ _ (.tmp 100) (.tmp 101) _ _ _ _ _ rfl (hpre { on := 6, ground := .data } (by simp) rfl) (hpre { on := 7, ground := .data } (by simp) rfl) (by omega)
      | n + 9, ho, hlt => omega
    · refine after56' ?_
      intro K' Q' hK hQ
      generalize hL : laid _ _ _ 9 = L
      have hLs : L.size = 184 := by rw [← hL, laid_size]; rfl
      have hLv : ∀ k, k < 9 → L.getD (ds11.getD k 0) undef = val11 num seen lift a b es.length ps.length ac bc ni nj k := by
        intro k hk
        rw [← hL]
        refine lv_of ds11 9 (fun i j hi hj e => inj11 i hi j hj e) _ (fun i hi => ?_) k hk
        exact Nat.lt_trans (fit11 i hi) (Nat.lt_of_lt_of_eq (show 103 < 184 by decide) rfl)
      have hcall := buildN num seen lift (slA a 0 ac 2) (slA b 0 bc 3) ac bc (es.take ni) (ps.take nj) ni nj (by rw [List.length_take]; omega) (by rw [List.length_take]; omega) w2.drew ((HT.out.kept (Ext.trans HX2.out (Ext.drew w2))).take hn ni hni) ((HP.out.kept (Ext.trans HX2.out (Ext.drew w2))).take hm nj hnj) (by omega) (by omega)
      refine after11 hK ds11 (by rw [hLs]; kernel_rfl) rfl 94 95 96 99 102 103 18 rfl rfl rfl rfl rfl (by rw [hLs]; decide) _ _ _ _ _ (hLv 0 (by decide)) (hLv 1 (by decide)) (hLv 2 (by decide)) (hLv 5 (by decide)) (hLv 8 (by decide)) hcall ?_
      rintro e w3 ⟨il, rfl, hI3, hx3⟩
      refine ⟨_, rfl, ?_⟩
      have HI3 : Hid (Inst w2.heap.size il num seen lift ((es.take ni).map tv) (ps.take nj) w3) := hI3
      have HX3 : Hid (Ext w2 w3) := Ext.trans (Ext.drew w2) hx3
      clear hI3 hx3 hcall hLv hLs hK hQ
      subst hL
      simp [laid, ds11, val11]
      go_wp2_with fail
      refine (seeI_any _ il num seen lift _ _ w3 HI3.out (by rw [List.length_map, List.length_take]; omega) (by rw [List.length_take]; omega) l0 hlift r).mono ?_
      rintro e w4 ⟨rfl, hI4, hx4⟩
      have HI4 : Hid (Inst w2.heap.size il num r lift (((es.take ni).map tv).map (keepO (mx r (lift - 1)))) (left3 num r (ps.take nj)) w4) := hI4
      have HX4 : Hid (Ext w2 w4) := Below.trans HX3.out hx4
      have HW4 : Hid (Inst w.heap.size iw num r lift ((es.map tv).map (keepO (mx r (lift - 1)))) (left3 num r ps) w4) := HI2.out.kept HX4.out
      have HX04 : Hid (Ext w w4) := Ext.trans HX2.out HX4.out
      clear hI4 hx4 HI3 HX3 HI2 HX2 HX4
      go_wp2_with fail
      refine wp_region_mid (last := 9) (d := fun k => ds13.getD k 0) (val := val13 num seen lift a b es.length ps.length ac bc ni nj) (skp := fun _ => false) (by kernel_rfl) ?_ _ rfl ?_
      · refine law5_of (ds := ds13) (gs := []) (by kernel_rfl) (fun i hi => by omega) (fun k _ hk => .inl ⟨rfl, rfl⟩) rfl (fun k _ _ hk => by cases hk) ?_
        intro i' o' act hfm hlt ho hsk hpre hoth
        match i', ho, hlt with
        | 0, ho, hlt => simp at ho; subst ho; exact (ex_move _ _ (.tmp 0) _ (.inl rfl)).trans (by rw [show Act.eval act (.tmp 0) = _ from hoth 0 (by decide)]; rfl)
        | 1, ho, hlt => simp at ho; subst ho; exact (ex_move _ _ (.tmp 1) _ (.inl rfl)).trans (by rw [show Act.eval act (.tmp 1) = _ from hoth 1 (by decide)]; rfl)
        | 2, ho, hlt => simp at ho; subst ho; exact (ex_move _ _ (.tmp 2) _ (.inl rfl)).trans (by rw [show Act.eval act (.tmp 2) = _ from hoth 2 (by decide)]; rfl)
        | 3, ho, hlt => simp at ho; subst ho; exact (ex_move _ _ (.tmp 4) _ (.inl rfl)).trans (by rw [show Act.eval act (.tmp 4) = _ from hoth 4 (by decide)]; rfl)
        | 4, ho, hlt => simp at ho; subst ho; exact (ex_move _ _ (.tmp 6) _ (.inl rfl)).trans (by rw [show Act.eval act (.tmp 6) = _ from hoth 6 (by decide)]; rfl)
        | 5, ho, hlt => simp at ho; subst ho; exact ex_sliceLo29 _ _ (.tmp 110) (.tmp 111) _ _ _ _ _ rfl (hpre { on := 3, ground := .data } (by simp) rfl) (hpre { on := 4, ground := .data } (by simp) rfl) (by omega)
        | 6, ho, hlt => simp at ho; subst ho; exact (ex_move _ _ (.tmp 5) _ (.inl rfl)).trans (by rw [show Act.eval act (.tmp 5) = _ from hoth 5 (by decide)]; rfl)
        | 7, ho, hlt => simp at ho; subst ho; exact (ex_move _ _ (.tmp 7) _ (.inl rfl)).trans (by rw [show Act.eval act (.tmp 7) = _ from hoth 7 (by decide)]; rfl)
        | 8, ho, hlt => simp at ho; subst ho; exact ex_sliceLo30 _ _ (.tmp 113) (.tmp 114) _ _ _ _ _ rfl (hpre { on := 6, ground := .data } (by simp) rfl) (hpre { on := 7, ground := .data } (by simp) rfl) (by omega)
        | n + 9, ho, hlt => omega
      · refine after56' ?_
        intro K' Q' hK hQ
        generalize hL : laid _ _ _ 9 = L
        have hLs : L.size = 184 := by rw [← hL, laid_size]; rfl
        have hLv : ∀ k, k < 9 → L.getD (ds13.getD k 0) undef = val13 num seen lift a b es.length ps.length ac bc ni nj k := by
          intro k hk
          rw [← hL]
          refine lv_of ds13 9 (fun i j hi hj e => inj13 i hi j hj e) _ (fun i hi => ?_) k hk
          exact Nat.lt_trans (fit13 i hi) (Nat.lt_of_lt_of_eq (show 116 < 184 by decide) rfl)
        have hcall := buildN num seen lift (slA a ni ac 2) (slA b nj bc 3) (ac - ni) (bc - nj) (es.drop ni) (ps.drop nj) (es.length - ni) (ps.length - nj) List.length_drop List.length_drop w4.drew ((HT.out.kept (Ext.trans HX04.out (Ext.drew w4))).drop hn ni hni) ((HP.out.kept (Ext.trans HX04.out (Ext.drew w4))).drop hm nj hnj) (by omega) (by omega)
        refine after11 hK ds13 (by rw [hLs]; kernel_rfl) rfl 107 108 109 112 115 116 19 rfl rfl rfl rfl rfl (by rw [hLs]; decide) _ _ _ _ _ (hLv 0 (by decide)) (hLv 1 (by decide)) (hLv 2 (by decide)) (hLv 5 (by decide)) (hLv 8 (by decide)) hcall ?_
        rintro e w5 ⟨ig, rfl, hI5, hx5⟩
        refine ⟨_, rfl, ?_⟩
        have HI5 : Hid (Inst w4.heap.size ig num seen lift ((es.drop ni).map tv) (ps.drop nj) w5) := hI5
        have HX5 : Hid (Ext w4 w5) := Ext.trans (Ext.drew w4) hx5
        clear hI5 hx5 hcall hLv hLs hK hQ
        subst hL
        simp [laid, ds13, val13]
        go_wp2_with fail
        refine (seeI_any _ ig num seen lift _ _ w5 HI5.out (by rw [List.length_map, List.length_drop]; omega) (by rw [List.length_drop]; omega) l0 hlift r).mono ?_
        rintro e w6 ⟨rfl, hI6, hx6⟩
        have HG6 : Hid (Inst w4.heap.size ig num r lift (((es.drop ni).map tv).map (keepO (mx r (lift - 1)))) (left3 num r (ps.drop nj)) w6) := hI6
        have HX6 : Hid (Ext w4 w6) := Below.trans HX5.out hx6
        have HW6 : Hid (Inst w.heap.size iw num r lift ((es.map tv).map (keepO (mx r (lift - 1)))) (left3 num r ps) w6) := HW4.out.kept HX6.out
        have HL6 : Hid (Inst w2.heap.size il num r lift (((es.take ni).map tv).map (keepO (mx r (lift - 1)))) (left3 num r (ps.take nj)) w6) := HI4.out.kept HX6.out
        have HX06 : Hid (Ext w w6) := Ext.trans HX04.out HX6.out
        clear hI6 hx6 HI5 HX5 HI4 HW4 HX04 HX6
        have ltk : (es.take ni).length = ni := by rw [List.length_take]; omega
        have ldk : (es.drop ni).length = es.length - ni := List.length_drop
        have pw : (left3 num r ps).length ≤ 65536 := Nat.le_trans (left_len num r ps) pl
        have pt : (left3 num r (ps.take nj)).length ≤ 65536 := Nat.le_trans (left_len num r _) (by rw [List.length_take]; omega)
        have pd : (left3 num r (ps.drop nj)).length ≤ 65536 := Nat.le_trans (left_len num r _) (by rw [List.length_drop]; omega)
        have nl : ni ≤ 65536 := by omega
        have dl : es.length - ni ≤ 65536 := by omega
        have HLT : Hid ((es.take ni).length = ni) := ltk
        have HLD : Hid ((es.drop ni).length = es.length - ni) := ldk
        clear ltk ldk
        go_wp2_with fail
        refine (readN _ iw num r lift (mx r (lift - 1)) es _ es.length rfl w6 HW6.out el pw).mono ?_
        rintro e w7 ⟨g1, g2, rfl, hx7, hT7, hP7⟩
        have HX07 : Hid (Ext w w7) := Ext.trans HX06.out hx7
        have HTw : Hid (TRow w7 (some ⟨g1, 0, none⟩) (es.map (modE (mx r (lift - 1))))) := hT7
        have HPw : Hid (PRow w7 (some ⟨g2, 0, none⟩) (left3 num r ps)) := hP7
        have HW7 : Hid (Inst w.heap.size iw num r lift ((es.map tv).map (keepO (mx r (lift - 1)))) (left3 num r ps) w7) := HW6.out.kept hx7
        have HL7 : Hid (Inst w2.heap.size il num r lift (((es.take ni).map tv).map (keepO (mx r (lift - 1)))) (left3 num r (ps.take nj)) w7) := HL6.out.kept hx7
        have HG7 : Hid (Inst w4.heap.size ig num r lift (((es.drop ni).map tv).map (keepO (mx r (lift - 1)))) (left3 num r (ps.drop nj)) w7) := HG6.out.kept hx7
        clear hx7 hT7 hP7 HW6 HL6 HG6 HX06
        go_wp2_with fail
        refine (readN _ il num r lift (mx r (lift - 1)) (es.take ni) _ ni HLT.out w7 HL7.out nl pt).mono ?_
        rintro e w8 ⟨g3, g4, rfl, hx8, hT8, hP8⟩
        have HX08 : Hid (Ext w w8) := Ext.trans HX07.out hx8
        have HTl : Hid (TRow w8 (some ⟨g3, 0, none⟩) ((es.take ni).map (modE (mx r (lift - 1))))) := hT8
        have HPl : Hid (PRow w8 (some ⟨g4, 0, none⟩) (left3 num r (ps.take nj))) := hP8
        have HTw8 : Hid (TRow w8 (some ⟨g1, 0, none⟩) (es.map (modE (mx r (lift - 1))))) := HTw.out.kept hx8
        have HPw8 : Hid (PRow w8 (some ⟨g2, 0, none⟩) (left3 num r ps)) := HPw.out.kept hx8
        have HW8 : Hid (Inst w.heap.size iw num r lift ((es.map tv).map (keepO (mx r (lift - 1)))) (left3 num r ps) w8) := HW7.out.kept hx8
        have HL8 : Hid (Inst w2.heap.size il num r lift (((es.take ni).map tv).map (keepO (mx r (lift - 1)))) (left3 num r (ps.take nj)) w8) := HL7.out.kept hx8
        have HG8 : Hid (Inst w4.heap.size ig num r lift (((es.drop ni).map tv).map (keepO (mx r (lift - 1)))) (left3 num r (ps.drop nj)) w8) := HG7.out.kept hx8
        clear hx8 hT8 hP8 HW7 HL7 HG7 HX07 HTw HPw
        go_wp2_with fail
        refine (readN _ ig num r lift (mx r (lift - 1)) (es.drop ni) _ (es.length - ni) HLD.out w8 HG8.out dl pd).mono ?_
        rintro e w9 ⟨g5, g6, rfl, hx9, hT9, hP9⟩
        have HX09 : Hid (Ext w w9) := Ext.trans HX08.out hx9
        have HTg : Hid (TRow w9 (some ⟨g5, 0, none⟩) ((es.drop ni).map (modE (mx r (lift - 1))))) := hT9
        have HPg : Hid (PRow w9 (some ⟨g6, 0, none⟩) (left3 num r (ps.drop nj))) := hP9
        have HTl9 : Hid (TRow w9 (some ⟨g3, 0, none⟩) ((es.take ni).map (modE (mx r (lift - 1))))) := HTl.out.kept hx9
        have HPl9 : Hid (PRow w9 (some ⟨g4, 0, none⟩) (left3 num r (ps.take nj))) := HPl.out.kept hx9
        have HTw9 : Hid (TRow w9 (some ⟨g1, 0, none⟩) (es.map (modE (mx r (lift - 1))))) := HTw8.out.kept hx9
        have HPw9 : Hid (PRow w9 (some ⟨g2, 0, none⟩) (left3 num r ps)) := HPw8.out.kept hx9
        have HW9 : Hid (Inst w.heap.size iw num r lift ((es.map tv).map (keepO (mx r (lift - 1)))) (left3 num r ps) w9) := HW8.out.kept hx9
        have HL9 : Hid (Inst w2.heap.size il num r lift (((es.take ni).map tv).map (keepO (mx r (lift - 1)))) (left3 num r (ps.take nj)) w9) := HL8.out.kept hx9
        have HG9 : Hid (Inst w4.heap.size ig num r lift (((es.drop ni).map tv).map (keepO (mx r (lift - 1)))) (left3 num r (ps.drop nj)) w9) := HG8.out.kept hx9
        clear hx9 hT9 hP9 HW8 HL8 HG8 HX08 HTl HPl HTw8 HPw8
        go_wp2_with fail
        refine (model_any num lift r a b ac bc es ps w9 (HT.out.kept HX09.out) (HP.out.kept HX09.out) el pl l0 hlift).mono ?_
        rintro e wa ⟨g7, g8, cp, rfl, hxa, hTa, hPa⟩
        have HX0a : Hid (Ext w wa) := Ext.trans HX09.out hxa
        have HTm : Hid (TRow wa (some ⟨g7, 0, none⟩) (es.map (modE (mx r (lift - 1))))) := hTa
        have HPm : Hid (PRow wa (some ⟨g8, 0, none⟩) (left3 num r ps)) := hPa
        have HTl : Hid (TRow wa (some ⟨g3, 0, none⟩) ((es.take ni).map (modE (mx r (lift - 1))))) := HTl9.out.kept hxa
        have HPl : Hid (PRow wa (some ⟨g4, 0, none⟩) (left3 num r (ps.take nj))) := HPl9.out.kept hxa
        have HTw : Hid (TRow wa (some ⟨g1, 0, none⟩) (es.map (modE (mx r (lift - 1))))) := HTw9.out.kept hxa
        have HPw : Hid (PRow wa (some ⟨g2, 0, none⟩) (left3 num r ps)) := HPw9.out.kept hxa
        have HTga : Hid (TRow wa (some ⟨g5, 0, none⟩) ((es.drop ni).map (modE (mx r (lift - 1))))) := HTg.out.kept hxa
        have HPga : Hid (PRow wa (some ⟨g6, 0, none⟩) (left3 num r (ps.drop nj))) := HPg.out.kept hxa
        have HWa : Hid (Inst w.heap.size iw num r lift ((es.map tv).map (keepO (mx r (lift - 1)))) (left3 num r ps) wa) := HW9.out.kept hxa
        have HLa : Hid (Inst w2.heap.size il num r lift (((es.take ni).map tv).map (keepO (mx r (lift - 1)))) (left3 num r (ps.take nj)) wa) := HL9.out.kept hxa
        have HGa : Hid (Inst w4.heap.size ig num r lift (((es.drop ni).map tv).map (keepO (mx r (lift - 1)))) (left3 num r (ps.drop nj)) wa) := HG9.out.kept hxa
        clear hxa hTa hPa HW9 HL9 HG9 HX09 HTl9 HPl9 HTw9 HPw9 HTg HPg HT HP
        go_wp2_with fail
        refine (seenI_any _ iw num r lift _ _ wa HWa.out).mono ?_
        rintro e w' ⟨rfl, hw⟩
        obtain rfl := hw.symm
        clear hw
        go_wp2_with fail
        refine (seenI_any _ il num r lift _ _ wa HLa.out).mono ?_
        rintro e w' ⟨rfl, hw⟩
        obtain rfl := hw.symm
        clear hw
        go_wp2_with fail
        refine (seenI_any _ ig num r lift _ _ wa HGa.out).mono ?_
        rintro e w' ⟨rfl, hw⟩
        obtain rfl := hw.symm
        clear hw HWa HLa HGa
        have HML : Hid ((es.map (modE (mx r (lift - 1)))).length = es.length) := List.length_map _
        go_wp2_with fail
        refine (catTn _ _ _ _ _ _ _ ni (es.length - ni) es.length wa HTl.out HTga.out (by rw [List.length_map]; exact HLT.out) (by rw [List.length_map]; exact HLD.out) (mod_cat (mx r (lift - 1)) es ni) HML.out nl dl).mono ?_
        rintro e wb ⟨gc, cc, rfl, hxb, hTb⟩
        have HX0b : Hid (Ext w wb) := Ext.trans HX0a.out hxb
        have HTc : Hid (TRow wb (some ⟨gc, 0, none⟩) (es.map (modE (mx r (lift - 1))))) := hTb
        have HTwb : Hid (TRow wb (some ⟨g1, 0, none⟩) (es.map (modE (mx r (lift - 1))))) := HTw.out.kept hxb
        have HTmb : Hid (TRow wb (some ⟨g7, 0, none⟩) (es.map (modE (mx r (lift - 1))))) := HTm.out.kept hxb
        have HPwb : Hid (PRow wb (some ⟨g2, 0, none⟩) (left3 num r ps)) := HPw.out.kept hxb
        have HPmb : Hid (PRow wb (some ⟨g8, 0, none⟩) (left3 num r ps)) := HPm.out.kept hxb
        have HPlb : Hid (PRow wb (some ⟨g4, 0, none⟩) (left3 num r (ps.take nj))) := HPl.out.kept hxb
        have HPgb : Hid (PRow wb (some ⟨g6, 0, none⟩) (left3 num r (ps.drop nj))) := HPga.out.kept hxb
        clear hxb hTb HX0a HTl HTw HTm HPw HPm HPl HTga HPga
        go_wp2_with fail
        refine (sameT_n _ _ _ _ _ _ wb HTwb.out HTc.out HML.out el).mono ?_
        rintro e wc ⟨rfl, hxc⟩
        have HX0c : Hid (Ext w wc) := Ext.trans HX0b.out hxc
        have HTwc : Hid (TRow wc (some ⟨g1, 0, none⟩) (es.map (modE (mx r (lift - 1))))) := HTwb.out.kept hxc
        have HTmc : Hid (TRow wc (some ⟨g7, 0, none⟩) (es.map (modE (mx r (lift - 1))))) := HTmb.out.kept hxc
        have HPwc : Hid (PRow wc (some ⟨g2, 0, none⟩) (left3 num r ps)) := HPwb.out.kept hxc
        have HPmc : Hid (PRow wc (some ⟨g8, 0, none⟩) (left3 num r ps)) := HPmb.out.kept hxc
        have HPlc : Hid (PRow wc (some ⟨g4, 0, none⟩) (left3 num r (ps.take nj))) := HPlb.out.kept hxc
        have HPgc : Hid (PRow wc (some ⟨g6, 0, none⟩) (left3 num r (ps.drop nj))) := HPgb.out.kept hxc
        clear hxc HX0b HTwb HTmb HPwb HPmb HPlb HPgb HTc
        go_wp2_with fail
        refine (catPn _ _ _ _ _ _ _ wc HPlc.out HPgc.out (left_cat num r ps nj) pt pd).mono ?_
        rintro e wd ⟨gd, cd, rfl, hxd, hPd⟩
        have HX0d : Hid (Ext w wd) := Ext.trans HX0c.out hxd
        have HPc : Hid (PRow wd (some ⟨gd, 0, none⟩) (left3 num r ps)) := hPd
        have HTwd : Hid (TRow wd (some ⟨g1, 0, none⟩) (es.map (modE (mx r (lift - 1))))) := HTwc.out.kept hxd
        have HTmd : Hid (TRow wd (some ⟨g7, 0, none⟩) (es.map (modE (mx r (lift - 1))))) := HTmc.out.kept hxd
        have HPwd : Hid (PRow wd (some ⟨g2, 0, none⟩) (left3 num r ps)) := HPwc.out.kept hxd
        have HPmd : Hid (PRow wd (some ⟨g8, 0, none⟩) (left3 num r ps)) := HPmc.out.kept hxd
        clear hxd hPd HX0c HTwc HTmc HPwc HPmc HPlc HPgc
        go_wp2_with fail
        refine (sameP_any _ _ _ _ _ wd HPwd.out HPc.out pw).mono ?_
        rintro e we ⟨rfl, hxe⟩
        have HX0e : Hid (Ext w we) := Ext.trans HX0d.out hxe
        have HTwe : Hid (TRow we (some ⟨g1, 0, none⟩) (es.map (modE (mx r (lift - 1))))) := HTwd.out.kept hxe
        have HTme : Hid (TRow we (some ⟨g7, 0, none⟩) (es.map (modE (mx r (lift - 1))))) := HTmd.out.kept hxe
        have HPwe : Hid (PRow we (some ⟨g2, 0, none⟩) (left3 num r ps)) := HPwd.out.kept hxe
        have HPme : Hid (PRow we (some ⟨g8, 0, none⟩) (left3 num r ps)) := HPmd.out.kept hxe
        clear hxe HX0d HTwd HTmd HPwd HPmd HPc
        go_wp2_with fail
        refine (sameT_n _ _ _ _ _ _ we HTwe.out HTme.out HML.out el).mono ?_
        rintro e wf ⟨rfl, hxf⟩
        have HX0f : Hid (Ext w wf) := Ext.trans HX0e.out hxf
        have HPwf : Hid (PRow wf (some ⟨g2, 0, none⟩) (left3 num r ps)) := HPwe.out.kept hxf
        have HPmf : Hid (PRow wf (some ⟨g8, 0, none⟩) (left3 num r ps)) := HPme.out.kept hxf
        clear hxf HX0e HTwe HTme HPwe HPme
        go_wp2_with fail
        refine (sameP_any _ _ _ _ _ wf HPwf.out HPmf.out pw).mono ?_
        rintro e wg ⟨rfl, hxg⟩
        have HX0g : Hid (Ext w wg) := Ext.trans HX0f.out hxg
        clear hxg HX0f HPwf HPmf
        go_wp2_with fail
        go_ret
        exact ⟨rfl, HX0g.out⟩
end Go.Proofs.Qxb6616238a.Grow
