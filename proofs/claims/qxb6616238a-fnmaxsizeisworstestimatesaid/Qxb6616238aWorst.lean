import Derived.Test.Qxb6616238aEnc2
import Derived.Deep.CutBlock
namespace Go.Proofs.Qxb6616238a.Enc
open Go.RowKit
set_option maxRecDepth 100000
set_option linter.unusedVariables false
set_option linter.unusedSimpArgs false

set_option maxHeartbeats 4000000 in
theorem worst_walk (a0 a1 a2 a3 a4 a5 a6 : Int) (va : Option Addr) (n cap : Nat) (val : ByteArray) (knd : Int) (dg : Nat) (w : World)
    (b0 : -9223372036854775808 ≤ a0 ∧ a0 ≤ 9223372036854775807) (b1 : -9223372036854775808 ≤ a1 ∧ a1 ≤ 9223372036854775807) (b2 : -9223372036854775808 ≤ a2 ∧ a2 ≤ 9223372036854775807) (b3 : -9223372036854775808 ≤ a3 ∧ a3 ≤ 9223372036854775807) (b4 : -9223372036854775808 ≤ a4 ∧ a4 ≤ 9223372036854775807) (b5 : -9223372036854775808 ≤ a5 ∧ a5 ≤ 9223372036854775807) (b6 : -9223372036854775808 ≤ a6 ∧ a6 ≤ 9223372036854775807)
    (hn : n ≤ 9223372036854775807) (hs : val.size ≤ 9223372036854775807) (hdg : dg < 4294967296) (hv : 1 ≤ n → VRow w va n) :
    Calls Try.prog 8 #[.int .i64 a0, .int .i64 a1, .int .i64 a2, .int .i64 a3, .int .i64 a4, .int .i64 a5, .int .i64 a6, .slice va n cap, .string val, .int .u8 knd, .int .u32 dg] w fun e w' => e = .returned (.bool true) ∧ Below w.heap.size w w' := by
  have HV : Hid (1 ≤ n → VRow w va n) := hv
  clear hv
  go_enter Try.func8, Try.ntmps8
  go_wp2_with fail
  refine (bytes27' a0 a1 a2 a3 a4 a5 a6 va n cap val knd dg w hn hs).mono ?_
  rintro e w1 ⟨⟨b, rfl⟩, rfl⟩
  cases b with
  | false =>
    go_wp2_with fail
    go_ret
    exact ⟨rfl, Below.refl _ _⟩
  | true =>
  by_cases h1 : 1048576 < (n : Int)
  · go_wp2_with fail
    go_ret
    exact ⟨rfl, Below.refl _ _⟩
  by_cases h2 : 1048576 < (val.size : Int)
  · go_wp2_with fail
    go_ret
    exact ⟨rfl, Below.refl _ _⟩
  by_cases h3 : 1048576 < (n : Int) + val.size
  · go_wp2_with fail
    go_ret
    exact ⟨rfl, Below.refl _ _⟩
  by_cases h4 : a0 < 1
  · go_wp2_with fail
    go_ret
    exact ⟨rfl, Below.refl _ _⟩
  by_cases h5 : 1024 < a0
  · go_wp2_with fail
    go_ret
    exact ⟨rfl, Below.refl _ _⟩
  by_cases h6 : a1 < 0
  · go_wp2_with fail
    go_ret
    exact ⟨rfl, Below.refl _ _⟩
  by_cases h7 : a0 ≤ a1
  · go_wp2_with fail
    go_ret
    exact ⟨rfl, Below.refl _ _⟩
  by_cases h8 : a2 < 0
  · go_wp2_with fail
    go_ret
    exact ⟨rfl, Below.refl _ _⟩
  by_cases h9 : a0 ≤ a2
  · go_wp2_with fail
    go_ret
    exact ⟨rfl, Below.refl _ _⟩
  by_cases h10 : a3 < 0
  · go_wp2_with fail
    go_ret
    exact ⟨rfl, Below.refl _ _⟩
  by_cases h11 : a4 < 0
  · go_wp2_with fail
    go_ret
    exact ⟨rfl, Below.refl _ _⟩
  by_cases h12 : a5 < 0
  · go_wp2_with fail
    go_ret
    exact ⟨rfl, Below.refl _ _⟩
  by_cases h13 : a6 < 0
  · go_wp2_with fail
    go_ret
    exact ⟨rfl, Below.refl _ _⟩
  obtain ⟨m0, rfl⟩ := Int.eq_ofNat_of_zero_le (show 0 ≤ a0 by omega)
  obtain ⟨m1, rfl⟩ := Int.eq_ofNat_of_zero_le (show 0 ≤ a1 by omega)
  obtain ⟨m2, rfl⟩ := Int.eq_ofNat_of_zero_le (show 0 ≤ a2 by omega)
  obtain ⟨m3, rfl⟩ := Int.eq_ofNat_of_zero_le (show 0 ≤ a3 by omega)
  obtain ⟨m4, rfl⟩ := Int.eq_ofNat_of_zero_le (show 0 ≤ a4 by omega)
  obtain ⟨m5, rfl⟩ := Int.eq_ofNat_of_zero_le (show 0 ≤ a5 by omega)
  obtain ⟨m6, rfl⟩ := Int.eq_ofNat_of_zero_le (show 0 ≤ a6 by omega)
  by_cases h14 : ((m0 : Int) + 7) / 8 = (n : Int)
  case neg =>
    have h14r : ¬ ((n : Int) = ((m0 : Int) + 7) / 8) := fun e => h14 e.symm
    go_wp2_with fail
    go_ret
    exact ⟨rfl, Below.refl _ _⟩
  by_cases h15 : (val.size : Int) < 1
  · go_wp2_with fail
    go_ret
    exact ⟨rfl, Below.refl _ _⟩
  by_cases h16 : 1024 < (val.size : Int)
  · go_wp2_with fail
    go_ret
    exact ⟨rfl, Below.refl _ _⟩
  have hn1 : 1 ≤ n := by omega
  have HR := HV.out hn1
  obtain ⟨x, news, rfl, _⟩ := HR
  obtain ⟨i0, hi, hz0, hz1, hz2⟩ := info_parts info5
  have hne := fun W => neq45_some x n cap W
  have HVr : Hid (VRow w1 (some x) n) := HV.out hn1
  clear HV
  go_wp2_with (at_make; refine wpList_make_full _ rfl (.tmp 109) (.tmp 109) 45 rfl w1.heap.size 5 i0 (.int .u8 0) 1 Try.underlying45 hi hz0 hz1 .i64 .i64 _ _ n rfl rfl rfl rfl (by rw [hz2]; omega) (by unfold maxLen; omega) (Nat.le_refl _) ?_; intro w2 hown2 hgrow2; obtain ⟨cur, hcur, hcl⟩ := own_list hown2; have hb2 : Below w1.heap.size w1 w2 := (Below.refl _ w1).grown hgrow2 (Nat.le_refl _) (fun k hk => by cases hk); obtain ⟨w3, hcopy, HI, HB⟩ := copy_run (cap := cap) hcur hcl (HVr.out.kept hb2) hn1; have HI3 : Hid (VRow w3 (some ⟨w1.heap.size, 0, none⟩) n) := HI; have HX3 : Hid (Below w1.heap.size w1 w3) := HB _ _ hb2 (Nat.le_refl _); clear hown2 hgrow2 HI HB hcur hcl hb2)
  clear hne hcopy hi hz0 hz1 hz2
  refine (zzencode_any m1 m2 m3 m4 m5 m6 (some ⟨w1.heap.size, 0, none⟩) n n val knd dg w3 (by omega) (by omega) (by omega) (by omega) (by omega) (by omega) (by omega) (by omega) hdg HI3.out).mono ?_
  rintro e w4 ⟨a4, c4, rfl, hx4⟩
  have HX4 : Hid (Below w1.heap.size w1 w4) := HX3.out.trans' hx4 HX3.out.size
  clear hx4
  have q1 := uvl_two (show m1 ≤ 1024 by omega); have q2 := uvl_two (show m2 ≤ 1024 by omega); have q3 := uvl_nine (show m3 ≤ 9223372036854775807 by omega); have q4 := uvl_nine (show m4 ≤ 9223372036854775807 by omega); have q5 := uvl_nine (show m5 ≤ 9223372036854775807 by omega); have q6 := uvl_nine (show m6 ≤ 9223372036854775807 by omega); have q7 := uvl_two (show val.size ≤ 1024 by omega)
  generalize hu1 : uvl m1 = u1 at *
  generalize hu2 : uvl m2 = u2 at *
  generalize hu3 : uvl m3 = u3 at *
  generalize hu4 : uvl m4 = u4 at *
  generalize hu5 : uvl m5 = u5 at *
  generalize hu6 : uvl m6 = u6 at *
  generalize hu7 : uvl val.size = u7 at *
  go_wp2_with fail
  refine (uvLen_is m1 u1 hu1 (by omega) _ (by first | rfl | omega | go_num) w4).mono ?_
  rintro e w4' ⟨rfl, hwe⟩
  subst w4'
  go_wp2_with fail
  refine (uvLen_is m2 u2 hu2 (by omega) _ (by first | rfl | omega | go_num) w4).mono ?_
  rintro e w4' ⟨rfl, hwe⟩
  subst w4'
  go_wp2_with fail
  refine (uvLen_is m3 u3 hu3 (by omega) _ (by first | rfl | omega | go_num) w4).mono ?_
  rintro e w4' ⟨rfl, hwe⟩
  subst w4'
  go_wp2_with fail
  refine (uvLen_is m4 u4 hu4 (by omega) _ (by first | rfl | omega | go_num) w4).mono ?_
  rintro e w4' ⟨rfl, hwe⟩
  subst w4'
  go_wp2_with fail
  refine (uvLen_is m5 u5 hu5 (by omega) _ (by first | rfl | omega | go_num) w4).mono ?_
  rintro e w4' ⟨rfl, hwe⟩
  subst w4'
  go_wp2_with fail
  refine (uvLen_is m6 u6 hu6 (by omega) _ (by first | rfl | omega | go_num) w4).mono ?_
  rintro e w4' ⟨rfl, hwe⟩
  subst w4'
  go_wp2_with fail
  refine (uvLen_is val.size u7 hu7 (by omega) _ (by first | rfl | omega | go_num) w4).mono ?_
  rintro e w4' ⟨rfl, hwe⟩
  subst w4'
  go_wp2_with fail
  refine (maxSize_any m0 (by omega) (by omega) w4).mono ?_
  rintro e w4' ⟨rfl, hwe⟩
  subst w4'
  rw [h14]
  go_wp2_with fail
  go_ret
  refine ⟨?_, HX4.out⟩
  simp
  try omega
end Go.Proofs.Qxb6616238a.Enc
