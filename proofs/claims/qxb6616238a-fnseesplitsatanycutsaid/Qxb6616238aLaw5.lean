import Derived.Test.Qxb6616238aSame
namespace Go.Proofs.Qxb6616238a.Grow
set_option linter.unusedVariables false
set_option linter.unusedSimpArgs false
set_option maxRecDepth 100000
open Go.ChangeShapes Go.WideShapes Go.ChangeAt Go.RowKit Go.Lib

def keepO (base : Int) (t : Option Int) : Option Int := match t with | none => none | some r => if r ≤ base then none else some r

theorem keep_snd (base : Int) (ts : List Pl) : (ts.map (keepT base)).map (Option.map Prod.snd) = (ts.map (Option.map Prod.snd)).map (keepO base) := by
  rw [List.map_map, List.map_map]
  apply List.map_congr_left
  intro t _
  cases t with
  | none => rfl
  | some p =>
    show Option.map Prod.snd (if p.2 ≤ base then none else some p) = (if p.2 ≤ base then none else some p.2)
    split <;> rfl

theorem seeI_any (B ib : Nat) (num seen lift : Int) (os : List (Option Int)) (ps : List Msg3) (w : World) (h : Inst B ib num seen lift os ps w) (hos : os.length ≤ 65536) (hps : ps.length ≤ 65536) (h0 : 0 ≤ lift) (h1 : lift ≤ 9223372036854775807) (r : Int) :
    Calls Try.prog 15 #[.pointer (some ⟨ib, 0, none⟩), .int .i64 r] w fun e w' => e = .returned (.tuple #[]) ∧ Inst B ib num r lift (os.map (keepO (mx r (lift - 1)))) (left3 num r ps) w' ∧ Below B w w' := by
  obtain ⟨nb, ci, cn, ev, pv, ts, hI, rfl⟩ := h
  refine (zzsee_any B ib nb ci cn ev pv num seen lift ts ps w hI (by simpa using hos) hps h0 h1 r).mono ?_
  rintro e w' ⟨rfl, ci', cn', pv', hI', hB⟩
  exact ⟨rfl, ⟨_, _, _, _, _, _, hI', keep_snd _ ts⟩, hB⟩

theorem readI_any (B ib : Nat) (num seen lift : Int) (os : List (Option Int)) (ps : List Msg3) (w : World) (h : Inst B ib num seen lift os ps w) (hos : os.length ≤ 65536) (hps : ps.length ≤ 65536) :
    Calls Try.prog 16 #[.pointer (some ⟨ib, 0, none⟩)] w fun e w' => ∃ ga gp, e = .returned (.tuple #[.slice (some ⟨ga, 0, none⟩) os.length os.length, .slice (some ⟨gp, 0, none⟩) ps.length ps.length]) ∧ Ext w w' ∧ TRow w' (some ⟨ga, 0, none⟩) (os.map toT) ∧ PRow w' (some ⟨gp, 0, none⟩) ps := by
  obtain ⟨nb, ci, cn, ev, pv, ts, hI, rfl⟩ := h
  refine (read_any B ib nb ci cn ev pv num seen lift ts ps w hI (by simpa using hos) hps).mono ?_
  rintro e w' ⟨ga, gp, rfl, hx, hT, hP⟩
  refine ⟨ga, gp, by simp, hx, ?_, hP⟩
  rw [List.map_map]
  exact hT

theorem seenI_any (B ib : Nat) (num seen lift : Int) (os : List (Option Int)) (ps : List Msg3) (w : World) (h : Inst B ib num seen lift os ps w) : Calls Try.prog 18 #[.pointer (some ⟨ib, 0, none⟩)] w fun e w' => e = .returned (.int .i64 seen) ∧ w' = w := by
  obtain ⟨nb, ci, cn, ev, pv, ts, hI, rfl⟩ := h
  exact seen_any B ib nb ci cn ev pv num seen lift ts ps w hI

theorem mod_keep (m : Int) (es : List (Bool × Int)) : ((es.map tv).map (keepO m)).map toT = es.map (modE m) := by
  rw [List.map_map, List.map_map]
  apply List.map_congr_left
  rintro ⟨b, rd⟩ _
  cases b with
  | false => simp [tv, keepO, toT, modE]
  | true =>
    by_cases h : rd ≤ m
    · simp [tv, keepO, toT, modE, h, Int.not_lt.2 h]
    · simp [tv, keepO, toT, modE, h, Int.not_le.1 h]

theorem keep_keep (m1 m2 : Int) (h : m1 ≤ m2) (os : List (Option Int)) : (os.map (keepO m1)).map (keepO m2) = os.map (keepO m2) := by
  rw [List.map_map]
  apply List.map_congr_left
  intro t _
  cases t with
  | none => rfl
  | some r =>
    show keepO m2 (if r ≤ m1 then none else some r) = if r ≤ m2 then none else some r
    split
    · rw [if_pos (by omega)]; rfl
    · rfl

theorem left_left (num r1 r2 : Int) (h : r1 ≤ r2) (ps : List Msg3) : left3 num r2 (left3 num r1 ps) = left3 num r2 ps := by
  unfold left3
  rw [List.filter_filter]
  apply List.filter_congr
  rintro ⟨t, i, r⟩ _
  simp only [struck]
  by_cases h1 : t = 2 <;> by_cases h2 : i = num <;> by_cases h3 : r < r1 <;> by_cases h4 : r < r2 <;> simp [h1, h2, h3, h4] <;> omega

theorem mx_mono (a b c : Int) (h : a ≤ b) : mx a c ≤ mx b c := by
  unfold mx
  split <;> split <;> omega

theorem left_len (num r : Int) (ps : List Msg3) : (left3 num r ps).length ≤ ps.length := List.length_filter_le _ _

theorem sameT_n (a b : Option Addr) (ac bc : Nat) (es : List (Bool × Int)) (n : Nat) (w : World) (hA : TRow w a es) (hB : TRow w b es) (hn : es.length = n) (hes : n ≤ 65536) :
    Calls Try.prog 19 #[.slice a n ac, .slice b n bc] w fun e w' => e = .returned (.bool true) ∧ Ext w w' := by
  subst hn
  exact sameT_any a b ac bc es w hA hB hes

def RetB5 (e : Ending) : Prop := ∃ b, e = .returned (.bool b)
set_option maxHeartbeats 1000000 in
theorem bytes13 (a0 a1 a2 a3 a4 : Int) (a b : Option Addr) (n m c d : Nat) (w : World) (hn : n ≤ 9223372036854775807) (hm : m ≤ 9223372036854775807) :
    Calls Try.prog 13 #[.int .i64 a0, .int .i64 a1, .int .i64 a2, .int .i64 a3, .int .i64 a4, .slice a n c, .slice b m d] w fun e w' => RetB5 e ∧ w' = w := by
  by_cases h1 : 1048576 < (n : Int)
  · go_enter Try.func13, Try.ntmps13
    go_wp2
    go_ret
    exact ⟨⟨_, rfl⟩, rfl⟩
  by_cases h2 : 1048576 < (m : Int)
  · go_enter Try.func13, Try.ntmps13
    go_wp2
    go_ret
    exact ⟨⟨_, rfl⟩, rfl⟩
  by_cases h3 : 1048576 < (n : Int) + m
  · go_enter Try.func13, Try.ntmps13
    go_wp2
    go_ret
    exact ⟨⟨_, rfl⟩, rfl⟩
  · go_enter Try.func13, Try.ntmps13
    go_wp2
    go_ret
    exact ⟨⟨_, rfl⟩, rfl⟩

set_option maxHeartbeats 4000000 in
theorem law5_any (num seen lift r1 r2 : Int) (a b : Option Addr) (es : List (Bool × Int)) (ps : List Msg3) (ac bc : Nat) (w : World) (hT : TRow w a es) (hP : PRow w b ps) (hn : es.length ≤ 9223372036854775807) (hm : ps.length ≤ 9223372036854775807) (hlift : lift ≤ 9223372036854775807) :
    Calls Try.prog 5 #[.int .i64 num, .int .i64 seen, .int .i64 lift, .int .i64 r1, .int .i64 r2, .slice a es.length ac, .slice b ps.length bc] w fun e w' => e = .returned (.bool true) ∧ Ext w w' := by
  have HT : Hid (TRow w a es) := hT
  have HP : Hid (PRow w b ps) := hP
  clear hT hP
  go_enter Try.func5, Try.ntmps5
  go_wp2_with fail
  refine (bytes13 num seen lift r1 r2 a b es.length ps.length ac bc w hn hm).mono ?_
  rintro e w' ⟨⟨bt, rfl⟩, hw⟩
  obtain rfl := hw.symm
  clear hw
  cases bt with
  | false =>
    go_wp2_with fail
    go_ret
    exact ⟨rfl, Ext.refl w⟩
  | true =>
    by_cases h1 : 65536 < (es.length : Int)
    · go_wp2_with fail
      go_ret
      exact ⟨rfl, Ext.refl w⟩
    by_cases h2 : 65536 < (ps.length : Int)
    · go_wp2_with fail
      go_ret
      exact ⟨rfl, Ext.refl w⟩
    by_cases h3 : 1048576 < 16 * (es.length : Int) + 24 * (ps.length : Int)
    · go_wp2_with fail
      go_ret
      exact ⟨rfl, Ext.refl w⟩
    by_cases h4 : seen < 0
    · go_wp2_with fail
      go_ret
      exact ⟨rfl, Ext.refl w⟩
    by_cases h5 : lift < 0
    · go_wp2_with fail
      go_ret
      exact ⟨rfl, Ext.refl w⟩
    by_cases h6 : r1 ≤ seen
    · go_wp2_with fail
      go_ret
      exact ⟨rfl, Ext.refl w⟩
    by_cases h7 : r2 ≤ r1
    · go_wp2_with fail
      go_ret
      exact ⟨rfl, Ext.refl w⟩
    have el : es.length ≤ 65536 := by omega
    have pl : ps.length ≤ 65536 := by omega
    have l0 : 0 ≤ lift := by omega
    have hr : r1 ≤ r2 := by omega
    have tvl : (es.map tv).length ≤ 65536 := by rw [List.length_map]; exact el
    go_wp2_with fail
    refine (build_any num seen lift a b ac bc es ps w HT.out HP.out el pl).mono ?_
    rintro e w1 ⟨ia, rfl, hIa, hx1⟩
    have HI1 : Hid (Inst w.heap.size ia num seen lift (es.map tv) ps w1) := hIa
    have HX1 : Hid (Ext w w1) := hx1
    clear hIa hx1
    go_wp2_with fail
    refine (seeI_any _ ia num seen lift _ ps w1 HI1.out tvl pl l0 hlift r1).mono ?_
    rintro e w2 ⟨rfl, hI2, hx2⟩
    have HI2 : Hid (Inst w.heap.size ia num r1 lift ((es.map tv).map (keepO (mx r1 (lift - 1)))) (left3 num r1 ps) w2) := hI2
    have HX2 : Hid (Ext w w2) := Below.trans HX1.out hx2
    clear hI2 hx2 HI1 HX1
    go_wp2_with fail
    refine (seeI_any _ ia num r1 lift _ _ w2 HI2.out (by rw [List.length_map]; exact tvl) (Nat.le_trans (left_len num r1 ps) pl) l0 hlift r2).mono ?_
    rintro e w3 ⟨rfl, hI3, hx3⟩
    rw [keep_keep _ _ (mx_mono r1 r2 _ hr), left_left num r1 r2 hr] at hI3
    have HI3 : Hid (Inst w.heap.size ia num r2 lift ((es.map tv).map (keepO (mx r2 (lift - 1)))) (left3 num r2 ps) w3) := hI3
    have HX3 : Hid (Ext w w3) := Below.trans HX2.out hx3
    clear hI3 hx3 HI2 HX2
    go_wp2_with fail
    refine (build_any num seen lift a b ac bc es ps w3 (HT.out.kept HX3.out) (HP.out.kept HX3.out) el pl).mono ?_
    rintro e w4 ⟨ib, rfl, hIb, hx4⟩
    have HI4 : Hid (Inst w3.heap.size ib num seen lift (es.map tv) ps w4) := hIb
    have HX4 : Hid (Ext w3 w4) := hx4
    clear hIb hx4
    go_wp2_with fail
    refine (seeI_any _ ib num seen lift _ ps w4 HI4.out tvl pl l0 hlift r2).mono ?_
    rintro e w5 ⟨rfl, hI5, hx5⟩
    have HI5 : Hid (Inst w3.heap.size ib num r2 lift ((es.map tv).map (keepO (mx r2 (lift - 1)))) (left3 num r2 ps) w5) := hI5
    have HX5 : Hid (Ext w3 w5) := Below.trans HX4.out hx5
    have HX05 : Hid (Ext w w5) := Ext.trans HX3.out HX5.out
    have HA5 : Hid (Inst w.heap.size ia num r2 lift ((es.map tv).map (keepO (mx r2 (lift - 1)))) (left3 num r2 ps) w5) := HI3.out.kept HX5.out
    clear hI5 hx5 HI4 HX4 HI3 HX3 HX5
    have kl : ((es.map tv).map (keepO (mx r2 (lift - 1)))).length ≤ 65536 := by rw [List.length_map]; exact tvl
    have ll : (left3 num r2 ps).length ≤ 65536 := Nat.le_trans (left_len num r2 ps) pl
    have mk := mod_keep (mx r2 (lift - 1)) es
    have hkl : ((es.map tv).map (keepO (mx r2 (lift - 1)))).length = es.length := by simp
    have HM : Hid (((es.map tv).map (keepO (mx r2 (lift - 1)))).map toT = es.map (modE (mx r2 (lift - 1)))) := mk
    clear mk
    generalize (es.map tv).map (keepO (mx r2 (lift - 1))) = os at *
    have hel : (es.map (modE (mx r2 (lift - 1)))).length = es.length := by simp
    have HEL : Hid ((es.map (modE (mx r2 (lift - 1)))).length = es.length) := hel
    clear hel
    go_wp2_with fail
    refine (readI_any _ ia num r2 lift os _ w5 HA5.out kl ll).mono ?_
    rintro e w6 ⟨g1, g2, rfl, hx6, hT6, hP6⟩
    rw [HM.out] at hT6
    rw [hkl]
    have HX06 : Hid (Ext w w6) := Ext.trans HX05.out hx6
    have HT6 : Hid (TRow w6 (some ⟨g1, 0, none⟩) (es.map (modE (mx r2 (lift - 1))))) := hT6
    have HP6 : Hid (PRow w6 (some ⟨g2, 0, none⟩) (left3 num r2 ps)) := hP6
    have HA6 : Hid (Inst w.heap.size ia num r2 lift os (left3 num r2 ps) w6) := HA5.out.kept hx6
    have HB6 : Hid (Inst w3.heap.size ib num r2 lift os (left3 num r2 ps) w6) := HI5.out.kept hx6
    clear hx6 hT6 hP6 HA5 HI5 HX05
    go_wp2_with fail
    refine (readI_any _ ib num r2 lift os _ w6 HB6.out kl ll).mono ?_
    rintro e w7 ⟨g3, g4, rfl, hx7, hT7, hP7⟩
    rw [HM.out] at hT7
    rw [hkl]
    have HX07 : Hid (Ext w w7) := Ext.trans HX06.out hx7
    have HT7 : Hid (TRow w7 (some ⟨g3, 0, none⟩) (es.map (modE (mx r2 (lift - 1))))) := hT7
    have HP7 : Hid (PRow w7 (some ⟨g4, 0, none⟩) (left3 num r2 ps)) := hP7
    have HT6' : Hid (TRow w7 (some ⟨g1, 0, none⟩) (es.map (modE (mx r2 (lift - 1))))) := HT6.out.kept hx7
    have HP6' : Hid (PRow w7 (some ⟨g2, 0, none⟩) (left3 num r2 ps)) := HP6.out.kept hx7
    have HA7 : Hid (Inst w.heap.size ia num r2 lift os (left3 num r2 ps) w7) := HA6.out.kept hx7
    have HB7 : Hid (Inst w3.heap.size ib num r2 lift os (left3 num r2 ps) w7) := HB6.out.kept hx7
    clear hx7 hT7 hP7 HA6 HB6 HX06 HT6 HP6
    go_wp2_with fail
    refine (model_any num lift r2 a b ac bc es ps w7 (HT.out.kept HX07.out) (HP.out.kept HX07.out) el pl l0 hlift).mono ?_
    rintro e w8 ⟨g5, g6, cp, rfl, hx8, hT8, hP8⟩
    have HX08 : Hid (Ext w w8) := Ext.trans HX07.out hx8
    have HT8 : Hid (TRow w8 (some ⟨g5, 0, none⟩) (es.map (modE (mx r2 (lift - 1))))) := hT8
    have HP8 : Hid (PRow w8 (some ⟨g6, 0, none⟩) (left3 num r2 ps)) := hP8
    have HT6 : Hid (TRow w8 (some ⟨g1, 0, none⟩) (es.map (modE (mx r2 (lift - 1))))) := HT6'.out.kept hx8
    have HP6 : Hid (PRow w8 (some ⟨g2, 0, none⟩) (left3 num r2 ps)) := HP6'.out.kept hx8
    have HT7' : Hid (TRow w8 (some ⟨g3, 0, none⟩) (es.map (modE (mx r2 (lift - 1))))) := HT7.out.kept hx8
    have HP7' : Hid (PRow w8 (some ⟨g4, 0, none⟩) (left3 num r2 ps)) := HP7.out.kept hx8
    have HA8 : Hid (Inst w.heap.size ia num r2 lift os (left3 num r2 ps) w8) := HA7.out.kept hx8
    have HB8 : Hid (Inst w3.heap.size ib num r2 lift os (left3 num r2 ps) w8) := HB7.out.kept hx8
    clear hx8 hT8 hP8 HA7 HB7 HX07 HT6' HP6' HT7 HP7 HT HP
    go_wp2_with fail
    refine (seenI_any _ ia num r2 lift os _ w8 HA8.out).mono ?_
    rintro e w' ⟨rfl, hw⟩
    obtain rfl := hw.symm
    clear hw
    go_wp2_with fail
    refine (seenI_any _ ib num r2 lift os _ w8 HB8.out).mono ?_
    rintro e w' ⟨rfl, hw⟩
    obtain rfl := hw.symm
    clear hw
    clear HA8 HB8
    go_wp2_with fail
    refine (sameT_n _ _ _ _ _ _ w8 HT6.out HT7'.out HEL.out el).mono ?_
    rintro e w9 ⟨rfl, hx9⟩
    have HX09 : Hid (Ext w w9) := Ext.trans HX08.out hx9
    have HTa : Hid (TRow w9 (some ⟨g1, 0, none⟩) (es.map (modE (mx r2 (lift - 1))))) := HT6.out.kept hx9
    have HTm : Hid (TRow w9 (some ⟨g5, 0, none⟩) (es.map (modE (mx r2 (lift - 1))))) := HT8.out.kept hx9
    have HPa : Hid (PRow w9 (some ⟨g2, 0, none⟩) (left3 num r2 ps)) := HP6.out.kept hx9
    have HPb : Hid (PRow w9 (some ⟨g4, 0, none⟩) (left3 num r2 ps)) := HP7'.out.kept hx9
    have HPm : Hid (PRow w9 (some ⟨g6, 0, none⟩) (left3 num r2 ps)) := HP8.out.kept hx9
    clear hx9 HX08 HT6 HT7' HT8 HP6 HP7' HP8
    go_wp2_with fail
    refine (sameT_n _ _ _ _ _ _ w9 HTa.out HTm.out HEL.out el).mono ?_
    rintro e w10 ⟨rfl, hx10⟩
    have HX10 : Hid (Ext w w10) := Ext.trans HX09.out hx10
    have HPa' : Hid (PRow w10 (some ⟨g2, 0, none⟩) (left3 num r2 ps)) := HPa.out.kept hx10
    have HPb' : Hid (PRow w10 (some ⟨g4, 0, none⟩) (left3 num r2 ps)) := HPb.out.kept hx10
    have HPm' : Hid (PRow w10 (some ⟨g6, 0, none⟩) (left3 num r2 ps)) := HPm.out.kept hx10
    clear hx10 HX09 HTa HTm HPa HPb HPm
    go_wp2_with fail
    refine (sameP_any _ _ _ _ _ w10 HPa'.out HPb'.out ll).mono ?_
    rintro e w11 ⟨rfl, hx11⟩
    have HX11 : Hid (Ext w w11) := Ext.trans HX10.out hx11
    have HPa : Hid (PRow w11 (some ⟨g2, 0, none⟩) (left3 num r2 ps)) := HPa'.out.kept hx11
    have HPm : Hid (PRow w11 (some ⟨g6, 0, none⟩) (left3 num r2 ps)) := HPm'.out.kept hx11
    clear hx11 HX10 HPa' HPb' HPm'
    go_wp2_with fail
    refine (sameP_any _ _ _ _ _ w11 HPa.out HPm.out ll).mono ?_
    rintro e w12 ⟨rfl, hx12⟩
    have HX12 : Hid (Ext w w12) := Ext.trans HX11.out hx12
    clear hx12 HX11 HPa HPm
    go_wp2_with fail
    go_ret
    exact ⟨rfl, HX12.out⟩
end Go.Proofs.Qxb6616238a.Grow
