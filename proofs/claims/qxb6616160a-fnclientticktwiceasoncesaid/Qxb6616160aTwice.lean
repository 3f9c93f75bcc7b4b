import Derived.Test.Qxb6616160aTbl
namespace Go.Proofs.Qxb6616160a.Tick
set_option linter.unusedVariables false
set_option linter.unusedSimpArgs false
open Go.ChangeShapes Go.WideShapes Go.ChangeAt Go.RowKit

theorem maxI_swap (a b c : Int) : maxI (maxI a b) c = maxI a (maxI b c) := by unfold maxI; split <;> split <;> (try split) <;> (try split) <;> omega
theorem maxI_swap' (a b c : Int) : maxI (maxI a c) b = maxI a (maxI b c) := by unfold maxI; split <;> split <;> (try split) <;> (try split) <;> omega
theorem maxI_rng {a b : Int} (h1 : 0 ≤ a) (h2 : a ≤ 18446744073709551615) (h3 : 0 ≤ b) (h4 : b ≤ 18446744073709551615) : 0 ≤ maxI a b ∧ maxI a b ≤ 18446744073709551615 := by
  unfold maxI; split <;> omega
theorem if_rng {b : Bool} {n m : Int} (h1 : 0 ≤ n) (h2 : n ≤ 9223372036854775807) (h3 : 0 ≤ m) (h4 : m ≤ 9223372036854775807) : 0 ≤ (if b then n else m) ∧ (if b then n else m) ≤ 9223372036854775807 := by
  split <;> omega

set_option maxHeartbeats 1000000 in
theorem twice_walk (now most ta tc : Int) (a : Option Addr) (cap : Nat) (cs : List (ByteArray × Int)) (w : World) (hC : Cs w a cs) (hlen : cs.length ≤ 9223372036854775807)
    (hn0 : 0 ≤ now) (hn1 : now ≤ 18446744073709551615) (ha0 : 0 ≤ ta) (ha1 : ta ≤ 18446744073709551615) (hb0 : 0 ≤ tc) (hc1 : tc ≤ 18446744073709551615) (hm0 : -9223372036854775808 ≤ most) (hm1 : most ≤ 9223372036854775807) :
    Calls Try.prog 5 #[.int .u64 now, .int .i64 most, .slice a cs.length cap, .int .u64 ta, .int .u64 tc] w fun e w' => e = .returned (.bool true) ∧ Below w.heap.size w w' := by
  go_enter Try.func5, Try.ntmps5
  go_wp2_with fail
  refine (bytes22 w a cap cs now most ta tc hC hlen).mono ?_
  rintro e w1 ⟨⟨b, rfl, hsh⟩, rfl⟩
  cases b with
  | false =>
    go_wp2_with fail
    go_ret
    exact ⟨rfl, Below.refl _ _⟩
  | true =>
  have hsm := hsh rfl
  clear hsh
  go_wp2_with fail
  refine (tooBig_any w1 a cap cs hC hlen hsm).mono ?_
  rintro e w2 ⟨⟨b, rfl, hfew⟩, rfl⟩
  cases b with
  | true =>
    go_wp2_with fail
    go_ret
    exact ⟨rfl, Below.refl _ _⟩
  | false =>
  have hn := hfew rfl
  clear hfew hsm
  by_cases hmost : most < cs.length
  · go_wp2_with fail
    go_ret
    exact ⟨rfl, Below.refl _ _⟩
  go_wp2_with fail
  refine (distinct_any w2 a cap cs hC hn).mono ?_
  rintro e w3 ⟨⟨b, rfl, hap⟩, n3, rfl⟩
  have hC3 : Cs (w2.drewN n3) a cs := hC.kept (B := w2.heap.size) (below_drewN (Below.refl _ _) n3) (Nat.le_refl _)
  have hB3 : Below w2.heap.size w2 (w2.drewN n3) := below_drewN (Below.refl _ _) n3
  generalize w2.drewN n3 = w3 at *
  cases b with
  | false =>
    go_wp2_with fail
    go_ret
    exact ⟨rfl, hB3⟩
  | true =>
  have HAP := hap rfl
  clear hap
  go_wp2_with fail
  refine (fresh_any w3 a cap cs now hC3 hn hn0 hn1).mono ?_
  rintro e w4 ⟨⟨b, rfl, _⟩, rfl⟩
  cases b with
  | false =>
    go_wp2_with fail
    go_ret
    exact ⟨rfl, hB3⟩
  | true =>
  go_wp2_with fail
  have hmost0 : 0 ≤ most := by omega
  have hs4 := hB3.size
  -- t1
  refine (build13 hC3 hn HAP hn0 hn1).mono ?_
  rintro e w5 ⟨B1, t1, H1, L1, hB1, rfl, hT1, hb1⟩
  have hbel5 : Below w2.heap.size w2 w5 := hB3.trans (hb1.mono (by omega))
  have hC5 := hC3.kept hb1 hB1
  clear hB3 hC3
  go_wp2_with fail
  refine (tick14 hT1 hn ha0 ha1 hmost0 hm1).mono ?_
  rintro e w6 ⟨rfl, H2, m2, hT2, hb2, hm2⟩
  have hm2' := if_rng (b := spareB most H2.length) (n := H2.length) (by omega) (by have := hT2.len; omega) hmost0 hm1
  rw [← hm2] at hm2'
  have hbel6 : Below w2.heap.size w2 w6 := hbel5.trans (hb2.mono (by omega))
  have hC6 := hC.kept hbel6 (Nat.le_refl _)
  clear hT1 hbel5 hC5 hb1 hb2 hm2
  go_wp2_with fail
  refine (tick14 hT2 hn hb0 hc1 hm2'.1 hm2'.2).mono ?_
  rintro e w7 ⟨rfl, H3, m3, hT3, hb3, _⟩
  have hbel7 : Below w2.heap.size w2 w7 := hbel6.trans (hb3.mono (by omega))
  have hC7 := hC.kept hbel7 (Nat.le_refl _)
  have hs7 := hbel7.size
  rw [maxI_swap] at hT3
  clear hT2 hbel6 hC6 hb3 hm2'
  go_wp2_with fail
  -- t2
  refine (build13 hC7 hn HAP hn0 hn1).mono ?_
  rintro e w8 ⟨B2, t2, H4, L4, hB2, rfl, hT4, hb4⟩
  have hbel8 : Below w7.heap.size w7 w8 := hb4.mono hB2
  clear hC7 hb4
  go_wp2_with fail
  refine (tick14 hT4 hn hb0 hc1 hmost0 hm1).mono ?_
  rintro e w9 ⟨rfl, H5, m5, hT5, hb5, hm5⟩
  have hm5' := if_rng (b := spareB most H5.length) (n := H5.length) (by omega) (by have := hT5.len; omega) hmost0 hm1
  rw [← hm5] at hm5'
  have hbel9 : Below w7.heap.size w7 w9 := hbel8.trans (hb5.mono hB2)
  clear hT4 hbel8 hb5 hm5
  go_wp2_with fail
  refine (tick14 hT5 hn ha0 ha1 hm5'.1 hm5'.2).mono ?_
  rintro e w10 ⟨rfl, H6, m6, hT6, hb6, _⟩
  have hbel10 : Below w7.heap.size w7 w10 := hbel9.trans (hb6.mono hB2)
  have hbelA : Below w2.heap.size w2 w10 := hbel7.trans (hbel10.mono hs7)
  have hC10 := hC.kept hbelA (Nat.le_refl _)
  have hs10 := hbelA.size
  rw [maxI_swap'] at hT6
  clear hT5 hbel9 hb6 hm5'
  go_wp2_with fail
  -- t3
  refine (build13 hC10 hn HAP hn0 hn1).mono ?_
  rintro e w11 ⟨B3, t3, H7, L7, hB3, rfl, hT7, hb7⟩
  have hbel11 : Below w10.heap.size w10 w11 := hb7.mono hB3
  clear hC10 hb7
  go_wp2_with fail
  refine (zmax_any ta tc w11).mono ?_
  rintro e w12 ⟨rfl, rfl⟩
  have hmx := maxI_rng ha0 ha1 hb0 hc1
  go_wp2_with fail
  refine (tick14 hT7 hn hmx.1 hmx.2 hmost0 hm1).mono ?_
  rintro e w13 ⟨rfl, H8, m8, hT8, hb8, _⟩
  have hbel13 : Below w10.heap.size w10 w13 := hbel11.trans (hb8.mono hB3)
  have hbelB : Below w2.heap.size w2 w13 := hbelA.trans (hbel13.mono hs10)
  have hC13 := hC.kept hbelB (Nat.le_refl _)
  have hT6' := hT6.keptB hbel13 (Nat.le_refl _)
  have hT3' := hT3.keptB (hbel10.trans (hbel13.mono hbel10.size)) (Nat.le_refl _)
  clear hT7 hbel11 hb8 hT6 hT3 hbelA hbel10 hbel13 hbel7
  go_wp2_with fail
  refine (zmax_any ta tc w13).mono ?_
  rintro e w14 ⟨rfl, rfl⟩
  go_wp2_with fail
  refine (zmax_any now (maxI ta tc) w14).mono ?_
  rintro e w15 ⟨rfl, rfl⟩
  go_wp2_with fail
  refine (held16 hT3' hC13 hn rfl).mono ?_
  rintro e w16 ⟨rfl, rfl⟩
  go_wp2_with fail
  refine (held16 hT6' hC13 hn rfl).mono ?_
  rintro e w17 ⟨rfl, rfl⟩
  go_wp2_with fail
  refine (held16 hT8 hC13 hn rfl).mono ?_
  rintro e w18 ⟨rfl, rfl⟩
  go_wp2_with fail
  go_ret
  exact ⟨rfl, hbelB⟩
end Go.Proofs.Qxb6616160a.Tick
