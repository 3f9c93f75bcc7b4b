import Derived.Test.Qxb6616160aTbl
import Derived.LaidEqlPtr
namespace Go.Proofs.Qxb6616160a.Tick
set_option linter.unusedVariables false
set_option linter.unusedSimpArgs false
open Go.ChangeShapes Go.WideShapes Go.ChangeAt Go.RowKit

section
variable {B tb mb : Nat} {now most : Int} {E : List (Cl × Nat)} {clock : Nat} {H : List Cl} {s : Value} {w : World}

theorem at18 (h : Tab B tb mb now most (ents E) clock H s w) {i : Nat} (hi : i < H.length) (hn : H.length ≤ 4096) :
    Calls Try.prog 18 #[.pointer (some ⟨tb, 0, none⟩), .int .i64 i] w fun e w' => e = .returned (.int .i64 i) ∧ w' = w := by
  obtain ⟨g, cap, rfl⟩ := h.form (by omega)
  have c2 := h.cell_tab.2.2.1
  have c3 := h.cell_row hi
  have c4 := h.cell_at hi
  have hi' : (i : Int) < H.length := by omega
  generalize (H[i]).blk = b at *
  clear h
  go_enter Try.func18, Try.ntmps18
  go_wp2
  go_ret
  exact ⟨rfl, rfl⟩

theorem last20 (h : Tab B tb mb now most (ents E) clock H s w) {i : Nat} (hi : i < H.length) (hn : H.length ≤ 4096) {a : Int} (ha : a = i) :
    Calls Try.prog 20 #[.pointer (some ⟨tb, 0, none⟩), .int .i64 a] w fun e w' => e = .returned (.int .u64 (keyOf H i)) ∧ w' = w := by
  subst ha
  obtain ⟨g, cap, rfl⟩ := h.form (by omega)
  have c2 := h.cell_tab.2.2.1
  have c3 := h.cell_row hi
  have c4 := h.cell_last hi
  rw [← keyOf_lt hi] at c4
  have hi' : (i : Int) < H.length := by omega
  generalize (H[i]).blk = b at *
  generalize keyOf H i = key at *
  clear h
  go_enter Try.func20, Try.ntmps20
  go_wp2
  go_ret
  exact ⟨rfl, rfl⟩

theorem room21 (h : Tab B tb mb now most (ents E) clock H s w) : Calls Try.prog 21 #[.pointer (some ⟨tb, 0, none⟩)] w fun e w' => e = .returned (.int .i64 most) ∧ w' = w := by
  have c3 := h.cell_tab.2.2.2
  clear h
  go_enter Try.func21, Try.ntmps21
  go_wp2
  go_ret
  exact ⟨rfl, rfl⟩

theorem has61 : (Try.prog.info? 61).isSome = true := by kernel_rfl
theorem eql62 (b : Nat) (w : World) : (binOp .eql 62 (.pointer (some ⟨b, 0, none⟩)) (.pointer (some ⟨b, 0, none⟩))).run Try.prog w = .ok (.bool true) w := by
  obtain ⟨j, hj⟩ := Option.isSome_iff_exists.1 has61
  exact run_eql_ptr_same w _ Try.underlying62 hj

theorem in19 (h : Tab B tb mb now most (ents E) clock H s w) (hid : (E.map (·.1.id)).Nodup) (hp : H.Perm (E.map (·.1))) {i : Nat} (hi : i < H.length) (hn : H.length ≤ 4096) :
    Calls Try.prog 19 #[.pointer (some ⟨tb, 0, none⟩), .int .i64 i] w fun e w' => e = .returned (.bool true) ∧ ∃ n, w' = w.drewN n := by
  obtain ⟨x, hx, hxe⟩ := List.mem_map.1 (hp.mem_iff.1 (List.getElem_mem hi))
  obtain ⟨j, hj⟩ := List.getElem?_of_mem hx
  obtain ⟨g, cap, rfl⟩ := h.form (by omega)
  have c1 := h.cell_tab.2.1
  have c2 := h.cell_tab.2.2.1
  have c3 := h.cell_row hi
  have c4 := h.cell_id hi
  have hl : ∀ n, (Instr.lookup 52 (.map (some mb)) (.string (H[i]).id) false).run Try.prog (w.drewN n) = .ok (.pointer (some ⟨(H[i]).blk, 0, none⟩)) (w.drewN n) := fun n => by
    have := run_lookup_some mb clock E j x (w.drewN n) h.map hid hj
    rw [hxe] at this
    exact this
  have he := fun n => eql62 (H[i]).blk (w.drewN n)
  have hi' : (i : Int) < H.length := by omega
  generalize (H[i]).blk = b at *
  generalize (H[i]).id = id at *
  clear h hxe
  go_enter Try.func19, Try.ntmps19
  go_wp2
  go_quiet (fail)
  go_wp2
  go_ret
  exact ⟨rfl, _, rfl⟩

end

theorem model8 (m n : Int) (w : World) (h0 : 0 ≤ m) (h1 : m ≤ 9223372036854775807) (h2 : 0 ≤ n) (h3 : n ≤ 9223372036854775807) :
    Calls Try.prog 8 #[.int .i64 m, .int .i64 n] w fun e w' => e = .returned (.bool (spareB m n)) ∧ w' = w := by
  by_cases c2 : m < 1024
  · have hb : spareB m n = false := by simp [spareB]; omega
    rw [hb]; clear hb
    go_enter Try.func8, Try.ntmps8
    go_wp2
    go_ret
    exact ⟨rfl, rfl⟩
  by_cases c3 : m < n
  · have hb : spareB m n = false := by simp [spareB]; omega
    rw [hb]; clear hb
    go_enter Try.func8, Try.ntmps8
    go_wp2
    go_ret
    exact ⟨rfl, rfl⟩
  by_cases c4 : n ≤ (m - n) / 3
  · have hb : spareB m n = true := by simp [spareB]; omega
    rw [hb]; clear hb
    go_enter Try.func8, Try.ntmps8
    go_wp2
    go_ret
    exact ⟨rfl, rfl⟩
  · have hb : spareB m n = false := by simp [spareB]; omega
    rw [hb]; clear hb
    go_enter Try.func8, Try.ntmps8
    go_wp2
    go_ret
    exact ⟨rfl, rfl⟩

set_option maxHeartbeats 1000000 in
theorem spec_walk (now most ta : Int) (a : Option Addr) (cap : Nat) (cs : List (ByteArray × Int)) (w : World) (hC : Cs w a cs) (hlen : cs.length ≤ 9223372036854775807)
    (hn0 : 0 ≤ now) (hn1 : now ≤ 18446744073709551615) (ha0 : 0 ≤ ta) (ha1 : ta ≤ 18446744073709551615) (hm0 : -9223372036854775808 ≤ most) (hm1 : most ≤ 9223372036854775807) :
    Calls Try.prog 4 #[.int .u64 now, .int .i64 most, .slice a cs.length cap, .int .u64 ta] w fun e w' => e = .returned (.bool true) ∧ Below w.heap.size w w' := by
  go_enter Try.func4, Try.ntmps4
  go_wp2_with fail
  refine (bytes9 w a cap cs now most ta hC hlen).mono ?_
  rintro e w1 ⟨⟨b, rfl, hsh⟩, rfl⟩
  cases b with
  | false =>
    go_wp2_with fail
    go_ret
    exact ⟨rfl, Below.refl _ _⟩
  | true =>
  have hsm := hsh rfl
  clear hsh
  go_wp2_with fail
  refine (tooBig_any w1 a cap cs hC hlen hsm).mono ?_
  rintro e w2 ⟨⟨b, rfl, hfew⟩, rfl⟩
  cases b with
  | true =>
    go_wp2_with fail
    go_ret
    exact ⟨rfl, Below.refl _ _⟩
  | false =>
  have hn := hfew rfl
  clear hfew hsm
  by_cases hmost : most < cs.length
  · go_wp2_with fail
    go_ret
    exact ⟨rfl, Below.refl _ _⟩
  go_wp2_with fail
  refine (distinct_any w2 a cap cs hC hn).mono ?_
  rintro e w3 ⟨⟨b, rfl, hap⟩, n3, rfl⟩
  have hC3 : Cs (w2.drewN n3) a cs := hC.kept (B := w2.heap.size) (below_drewN (Below.refl _ _) n3) (Nat.le_refl _)
  have hB3 : Below w2.heap.size w2 (w2.drewN n3) := below_drewN (Below.refl _ _) n3
  generalize w2.drewN n3 = w3 at *
  cases b with
  | false =>
    go_wp2_with fail
    go_ret
    exact ⟨rfl, hB3⟩
  | true =>
  have HAP := hap rfl
  clear hap
  go_wp2_with fail
  refine (fresh_any w3 a cap cs now hC3 hn hn0 hn1).mono ?_
  rintro e w4 ⟨⟨b, rfl, _⟩, rfl⟩
  cases b with
  | false =>
    go_wp2_with fail
    go_ret
    exact ⟨rfl, hB3⟩
  | true =>
  go_wp2_with fail
  have hmost0 : 0 ≤ most := by omega
  have hs4 := hB3.size
  refine (build13 hC3 hn HAP hn0 hn1).mono ?_
  rintro e w5 ⟨B1, t1, H1, L1, hB1, rfl, hT1, hb1⟩
  have hbel5 : Below w2.heap.size w2 w5 := hB3.trans (hb1.mono (by omega))
  clear hB3 hC3
  go_wp2_with fail
  refine (tick14 hT1 hn ha0 ha1 hmost0 hm1).mono ?_
  rintro e w6 ⟨rfl, H2, m2, hT2, hb2, hm2⟩
  have hbel6 : Below w2.heap.size w2 w6 := hbel5.trans (hb2.mono (by omega))
  have hC6 := hC.kept hbel6 (Nat.le_refl _)
  have HM : Hid (m2 = (if spareB most H2.length then (H2.length : Int) else most)) := hm2
  have hl2 : H2.length ≤ 4096 := Nat.le_trans hT2.len hn
  clear hT1 hbel5 hb1 hb2 hm2
  go_wp2_with fail
  refine (zmax_any now ta w6).mono ?_
  rintro e w7 ⟨rfl, rfl⟩
  go_wp2_with fail
  refine (held16 hT2 hC6 hn rfl).mono ?_
  rintro e w8 ⟨rfl, rfl⟩
  obtain ⟨mb, E, clock, s, hT, hok, hp, hid, hbc, hbn⟩ := hT2.st
  have HT : Hid (Tab B1 t1 mb (maxI now ta) m2 (ents E) clock H2 s w8) := hT
  have HOK : Hid (HeapOK (keyOf H2) H2.length) := hok
  clear hT2 hT hok hbc hbn hC6 hC
  go_wp2_with fail
  refine (hlen_any HT.out).mono ?_
  rintro e w9 ⟨rfl, rfl⟩
  go_wp2_with fail
  go_loopw [12] (fun iv wr => ∃ (k n : Nat), k ≤ H2.length ∧ iv = .int .i64 k ∧ wr = w9.drewN n) (fun iv _ => H2.length - (intOf iv).toNat)
  case atStart => exact ⟨0, 0, Nat.zero_le _, rfl, rfl⟩
  case round =>
    obtain ⟨k, n, hk, rfl, rfl⟩ := hrel
    have HTn : Hid (∀ n, Tab B1 t1 mb (maxI now ta) m2 (ents E) clock H2 s (w9.drewN n)) := fun n => HT.out.kept fun _ _ => rfl
    by_cases hlt : k < H2.length
    · have hlt' : (k : Int) < H2.length := by omega
      have hself : ((k : Int) != (k : Int)) = false := by simp
      go_wp2_with fail
      refine (at18 (HTn.out n) hlt hl2).mono ?_
      rintro e w10 ⟨rfl, rfl⟩
      go_wp2_with fail
      refine (in19 (HTn.out n) hid hp hlt hl2).mono ?_
      rintro e w11 ⟨rfl, n2, rfl⟩
      rw [World.drewN_drewN]
      by_cases hk0 : k = 0
      · subst hk0
        go_wp2_with fail
        go_roundw
        case rel => exact ⟨1, _, by omega, by go_num, rfl⟩
        case measure => simp [intOf]; omega
      · obtain ⟨k', rfl⟩ : ∃ k', k = k' + 1 := ⟨k - 1, by omega⟩
        have hOrd : keyOf H2 (k' / 2) ≤ keyOf H2 (k' + 1) := by
          have := HOK.out (k' + 1) (by omega) hlt
          simpa using this
        have HOrd : Hid (keyOf H2 (k' / 2) ≤ keyOf H2 (k' + 1)) := hOrd
        clear hOrd
        have hgt : ¬ keyOf H2 (k' + 1) < keyOf H2 (k' / 2) := by have := HOrd.out; omega
        have hpos : (0 : Int) < (k' : Int) + 1 := by omega
        go_wp2_with fail
        refine (last20 (HTn.out (n + n2)) (i := k' / 2) (by omega) hl2 (by omega)).mono ?_
        rintro e w12 ⟨rfl, rfl⟩
        go_wp2_with fail
        refine (last20 (HTn.out (n + n2)) (i := k' + 1) hlt hl2 (by omega)).mono ?_
        rintro e w13 ⟨rfl, rfl⟩
        go_wp2_with fail
        go_roundw
        case rel => exact ⟨k' + 2, _, by omega, by go_num, rfl⟩
        case measure => simp [intOf]; omega
    · go_wp2_with fail
      refine (model8 most H2.length (w9.drewN n) hmost0 hm1 (by omega) (by omega)).mono ?_
      rintro e w10 ⟨rfl, rfl⟩
      have HB : Hid (Below w2.heap.size w2 (w9.drewN n)) := below_drewN hbel6 n
      cases hsp : spareB most H2.length with
      | true =>
        have hm2 : ((m2 : Int) == (H2.length : Int)) = true := by rw [HM.out, hsp]; simp
        go_wp2_with fail
        refine (room21 (HTn.out n)).mono ?_
        rintro e w12 ⟨rfl, rfl⟩
        go_wp2_with fail
        go_ret
        exact ⟨rfl, HB.out⟩
      | false =>
        have hm2 : ((m2 : Int) == most) = true := by rw [HM.out, hsp]; simp
        go_wp2_with fail
        refine (room21 (HTn.out n)).mono ?_
        rintro e w12 ⟨rfl, rfl⟩
        go_wp2_with fail
        go_ret
        exact ⟨rfl, HB.out⟩
end Go.Proofs.Qxb6616160a.Tick
