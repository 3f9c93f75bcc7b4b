import Derived.Test.Qxb6616160aTabs
namespace Go.Proofs.Qxb6616160a.Tick
set_option linter.unusedVariables false
open Go.ChangeShapes Go.WideShapes Go.ChangeAt Go.RowKit

section
variable {B tb mb : Nat} {now most : Int} {es : Array MapEntry} {clock : Nat} {H : List Cl} {s : Value} {w : World}

theorem less_int (h : Tab B tb mb now most es clock H s w) {a b : Int} {i j : Nat} (ha : a = i) (hb : b = j) (hi : i < H.length) (hj : j < H.length) (hn : H.length ≤ 1000000)
    {bb : Bool} (hbb : decide (keyOf H i < keyOf H j) = bb) :
    Calls Try.prog 56 #[s, .int .i64 a, .int .i64 b] w fun e w' => e = .returned (.bool bb) ∧ ∃ n, w' = w.drewN n := by
  subst ha hb hbb
  exact less_tab h hi hj hn
theorem swap_int (h : Tab B tb mb now most es clock H s w) {a b : Int} {i j : Nat} (ha : a = i) (hb : b = j) (hi : i < H.length) (hj : j < H.length) (hn : H.length ≤ 1000000) :
    Calls Try.prog 57 #[s, .int .i64 a, .int .i64 b] w fun e w' => e = .returned (.tuple #[]) ∧ Tab B tb mb now most es clock (swapL H i j) s w' ∧ Below B w w' := by
  subst ha hb
  exact swap_tab h hi hj hn

theorem up_tab (h : Tab B tb mb now most es clock H s w) {j : Nat} (hj : j < H.length) (hn : H.length ≤ 1000000) (hu : UpInv (keyOf H) H.length j) :
    Calls Try.prog 36 #[.iface 65 (.pointer (some ⟨tb, 2, none⟩)), .int .i64 j] w fun e w' => e = .returned (.tuple #[]) ∧
      ∃ H', H'.Perm H ∧ HeapOK (keyOf H') H'.length ∧ Tab B tb mb now most es clock H' s w' ∧ Below B w w' := by
  go_enter Try.func36, Try.ntmps36
  go_wp2_with fail
  go_loopw [1] (fun jv wr => ∃ (k : Nat) (H' : List Cl), jv = .int .i64 k ∧ k < H'.length ∧ H'.Perm H ∧ Tab B tb mb now most es clock H' s wr ∧ Below B w wr ∧ UpInv (keyOf H') H'.length k)
    (fun jv _ => (intOf jv).toNat)
  case atStart => exact ⟨j, H, rfl, hj, List.Perm.refl _, h, Below.refl _ _, hu⟩
  case round =>
    obtain ⟨k, H', rfl, hk, hp, hT, hb, hu'⟩ := hrel
    have hlen := hp.length_eq
    by_cases hk0 : k = 0
    · subst hk0
      go_wp2_with fail
      go_end0
      exact ⟨rfl, H', hp, up_stop0 hu', hT, hb⟩
    · obtain ⟨k', rfl⟩ : ∃ k', k = k' + 1 := ⟨k - 1, by omega⟩
      have hkb : k' ≤ 1000000 := by omega
      have hml := m_less ⟨tb, 2, none⟩ s wr hT.cell_tab.2.2.1
      have hms : ∀ n, (method 196 65 (.pointer (some ⟨tb, 2, none⟩)) "Swap").run Try.prog (wr.drewN n) = .ok (57, s) (wr.drewN n) := fun n => m_swap ⟨tb, 2, none⟩ s (wr.drewN n) hT.cell_tab.2.2.1
      have hne : ((k' : Int) / 2 == (k' : Int) + 1) = false := by simp; omega
      have hpar : (k' + 1 - 1) / 2 = k' / 2 := by simp
      have HT := hT
      have HU : Hid (UpInv (keyOf H') H'.length (k' + 1)) := hu'
      have HH : Hid (Tab B tb mb now most es clock H s w) := h
      clear hu' hu h
      by_cases hlt : keyOf H' (k' + 1) < keyOf H' (k' / 2)
      · have hstep := up_step HU.out (by omega) hk (by rw [hpar]; exact hlt)
        rw [hpar] at hstep
        have HS : Hid (UpInv (swapf (keyOf H') (k' / 2) (k' + 1)) H'.length (k' / 2)) := hstep
        have HL : Hid (keyOf H' (k' + 1) < keyOf H' (k' / 2)) := hlt
        clear hstep hlt hpar
        go_wp2_with fail
        refine (less_int HT (a := (k' : Int) + 1) (b := (k' : Int) / 2) (i := k' + 1) (j := k' / 2) (by omega) (by omega) hk (by omega) (by omega) (bb := true) (by simpa using HL.out)).mono ?_
        rintro e w' ⟨rfl, nq, rfl⟩
        go_wp2_with fail
        refine (swap_int (HT.kept (w' := wr.drewN nq) fun _ _ => rfl) (a := (k' : Int) / 2) (b := (k' : Int) + 1) (i := k' / 2) (j := k' + 1) (by omega) (by omega) (by omega) hk (by omega)).mono ?_
        rintro e w' ⟨rfl, hT2, hb2⟩
        have hb3 : Below B w w' := (below_drewN hb nq).trans hb2
        clear hms hml
        go_wp2_with fail
        go_roundw
        case rel =>
          refine ⟨k' / 2, swapL H' (k' / 2) (k' + 1), by go_num, by rw [swapL_length]; omega, (swapL_perm (by omega) hk).trans hp, hT2, hb3, ?_⟩
          rw [swapL_length]
          exact HS.out.congr (by omega) fun q hq => swapL_key (by omega) hk q
        case measure => simp [intOf]; omega
      · have hstop := up_stop HU.out (by rw [hpar]; omega)
        have HS : Hid (HeapOK (keyOf H') H'.length) := hstop
        have HL : Hid (¬ keyOf H' (k' + 1) < keyOf H' (k' / 2)) := hlt
        clear hstop hlt hpar
        go_wp2_with fail
        refine (less_int HT (a := (k' : Int) + 1) (b := (k' : Int) / 2) (i := k' + 1) (j := k' / 2) (by omega) (by omega) hk (by omega) (by omega) (bb := false) (by simpa using HL.out)).mono ?_
        rintro e w' ⟨rfl, nq, rfl⟩
        go_wp2_with fail
        go_end0
        exact ⟨rfl, H', hp, HS.out, hT.kept fun _ _ => rfl, below_drewN hb nq⟩
set_option maxHeartbeats 2000000 in
theorem down_tab (h : Tab B tb mb now most es clock H s w) {n : Nat} (hnl : n < H.length) (hn : H.length ≤ 1000000) (hd : DownInv (keyOf H) n 0) :
    Calls Try.prog 37 #[.iface 65 (.pointer (some ⟨tb, 2, none⟩)), .int .i64 0, .int .i64 n] w fun e w' => (∃ b, e = .returned (.bool b)) ∧
      ∃ H', H'.Perm H ∧ H'[n]? = H[n]? ∧ HeapOK (keyOf H') n ∧ Tab B tb mb now most es clock H' s w' ∧ Below B w w' := by
  go_enter Try.func37, Try.ntmps37
  go_wp2_with fail
  go_loopw [7] (fun iv wr => ∃ (k : Nat) (H' : List Cl), iv = .int .i64 k ∧ k ≤ n ∧ H'.Perm H ∧ H'[n]? = H[n]? ∧ Tab B tb mb now most es clock H' s wr ∧ Below B w wr ∧ DownInv (keyOf H') n k)
    (fun iv _ => n - (intOf iv).toNat)
  case atStart => exact ⟨0, H, rfl, Nat.zero_le _, List.Perm.refl _, rfl, h, Below.refl _ _, hd⟩
  case round =>
    obtain ⟨k, H', rfl, hk, hp, hlast, hT, hb, hd'⟩ := hrel
    have hlen := hp.length_eq
    have HD : Hid (DownInv (keyOf H') n k) := hd'
    have HH : Hid (Tab B tb mb now most es clock H s w) := h
    have HLn : Hid (H'[n]? = H[n]?) := hlast
    clear hd' hd h hlast
    by_cases hA : n ≤ 2 * k + 1
    · have HS : Hid (HeapOK (keyOf H') n) := down_stop HD.out (fun q q0 qn qk => by omega)
      have hA' : (n : Int) ≤ 2 * (k : Int) + 1 := by omega
      go_wp2_with fail
      go_ret
      exact ⟨⟨_, rfl⟩, H', hp, HLn.out, HS.out, hT, hb⟩
    · have hA' : ¬ (n : Int) ≤ 2 * (k : Int) + 1 := by omega
      have hA2 : ¬ 2 * (k : Int) + 1 < 0 := by omega
      have hml : ∀ m, (method 196 65 (.pointer (some ⟨tb, 2, none⟩)) "Less").run Try.prog (wr.drewN m) = .ok (56, s) (wr.drewN m) := fun m => m_less ⟨tb, 2, none⟩ s (wr.drewN m) hT.cell_tab.2.2.1
      have hml0 := m_less ⟨tb, 2, none⟩ s wr hT.cell_tab.2.2.1
      have hms : ∀ m, (method 196 65 (.pointer (some ⟨tb, 2, none⟩)) "Swap").run Try.prog (wr.drewN m) = .ok (57, s) (wr.drewN m) := fun m => m_swap ⟨tb, 2, none⟩ s (wr.drewN m) hT.cell_tab.2.2.1
      by_cases hB : 2 * k + 2 < n
      · have hB' : 2 * (k : Int) + 1 + 1 < n := by omega
        by_cases hC : keyOf H' (2 * k + 2) < keyOf H' (2 * k + 1)
        · have HC : Hid (keyOf H' (2 * k + 2) < keyOf H' (2 * k + 1)) := hC
          clear hC
          have HBest : Hid (∀ q, 0 < q → q < n → (q - 1) / 2 = k → keyOf H' (2 * k + 2) ≤ keyOf H' q) := fun q q0 qn qk => by have hC := HC.out; rcases (show q = 2 * k + 1 ∨ q = 2 * k + 2 by omega) with hq | hq <;> subst hq <;> omega
          by_cases hE : keyOf H' (2 * k + 2) < keyOf H' k
          · have HS : Hid (DownInv (swapf (keyOf H') k (2 * k + 2)) n (2 * k + 2)) := down_step HD.out (by omega) (by omega) (by omega) hE HBest.out
            have HE : Hid (keyOf H' (2 * k + 2) < keyOf H' k) := hE
            clear hE
            go_wp2_with fail
            refine (less_int hT (a := 2 * (k : Int) + 1 + 1) (b := 2 * (k : Int) + 1) (i := 2 * k + 2) (j := 2 * k + 1) (by omega) (by omega) (by omega) (by omega) (by omega) (bb := true) (by simpa using HC.out)).mono ?_
            rintro e w' ⟨rfl, nq, rfl⟩
            go_wp2_with fail
            refine (less_int (hT.kept (w' := wr.drewN nq) fun _ _ => rfl) (a := 2 * (k : Int) + 1 + 1) (b := (k : Int)) (i := 2 * k + 2) (j := k) (by omega) (by omega) (by omega) (by omega) (by omega) (bb := true) (by simpa using HE.out)).mono ?_
            rintro e w' ⟨rfl, nr, rfl⟩
            try simp only [World.drewN_drewN]
            go_wp2_with fail
            refine (swap_int (hT.kept (w' := wr.drewN (nq + nr)) fun _ _ => rfl) (a := (k : Int)) (b := 2 * (k : Int) + 1 + 1) (i := k) (j := 2 * k + 2) (by omega) (by omega) (by omega) (by omega) (by omega)).mono ?_
            rintro e w' ⟨rfl, hT2, hb2⟩
            have hb3 : Below B w w' := (below_drewN hb _).trans hb2
            clear hms hml hml0
            go_wp2_with fail
            go_roundw
            case rel =>
              refine ⟨2 * k + 2, swapL H' k (2 * k + 2), by go_num, by omega, (swapL_perm (by omega) (by omega)).trans hp, ?_, hT2, hb3, ?_⟩
              · rw [swapL_get (by omega) (by omega), if_neg (by omega), if_neg (by omega)]; exact HLn.out
              · exact HS.out.congr (by omega) fun q hq => swapL_key (by omega) (by omega) q
            case measure => simp [intOf]; omega
          · have HS : Hid (HeapOK (keyOf H') n) := down_stop HD.out (fun q q0 qn qk => by have hq := HBest.out q q0 qn qk; omega)
            have HE : Hid (¬ keyOf H' (2 * k + 2) < keyOf H' k) := hE
            clear hE
            go_wp2_with fail
            refine (less_int hT (a := 2 * (k : Int) + 1 + 1) (b := 2 * (k : Int) + 1) (i := 2 * k + 2) (j := 2 * k + 1) (by omega) (by omega) (by omega) (by omega) (by omega) (bb := true) (by simpa using HC.out)).mono ?_
            rintro e w' ⟨rfl, nq, rfl⟩
            go_wp2_with fail
            refine (less_int (hT.kept (w' := wr.drewN nq) fun _ _ => rfl) (a := 2 * (k : Int) + 1 + 1) (b := (k : Int)) (i := 2 * k + 2) (j := k) (by omega) (by omega) (by omega) (by omega) (by omega) (bb := false) (by simpa using HE.out)).mono ?_
            rintro e w' ⟨rfl, nr, rfl⟩
            try simp only [World.drewN_drewN]
            go_wp2_with fail
            go_ret
            exact ⟨⟨_, rfl⟩, H', hp, HLn.out, HS.out, hT.kept fun _ _ => rfl, below_drewN hb _⟩
        · have HC : Hid (¬ keyOf H' (2 * k + 2) < keyOf H' (2 * k + 1)) := hC
          clear hC
          have HBest : Hid (∀ q, 0 < q → q < n → (q - 1) / 2 = k → keyOf H' (2 * k + 1) ≤ keyOf H' q) := fun q q0 qn qk => by have hC := HC.out; rcases (show q = 2 * k + 1 ∨ q = 2 * k + 2 by omega) with hq | hq <;> subst hq <;> omega
          by_cases hE : keyOf H' (2 * k + 1) < keyOf H' k
          · have HS : Hid (DownInv (swapf (keyOf H') k (2 * k + 1)) n (2 * k + 1)) := down_step HD.out (by omega) (by omega) (by omega) hE HBest.out
            have HE : Hid (keyOf H' (2 * k + 1) < keyOf H' k) := hE
            clear hE
            go_wp2_with fail
            refine (less_int hT (a := 2 * (k : Int) + 1 + 1) (b := 2 * (k : Int) + 1) (i := 2 * k + 2) (j := 2 * k + 1) (by omega) (by omega) (by omega) (by omega) (by omega) (bb := false) (by simpa using HC.out)).mono ?_
            rintro e w' ⟨rfl, nq, rfl⟩
            go_wp2_with fail
            refine (less_int (hT.kept (w' := wr.drewN nq) fun _ _ => rfl) (a := 2 * (k : Int) + 1) (b := (k : Int)) (i := 2 * k + 1) (j := k) (by omega) (by omega) (by omega) (by omega) (by omega) (bb := true) (by simpa using HE.out)).mono ?_
            rintro e w' ⟨rfl, nr, rfl⟩
            try simp only [World.drewN_drewN]
            go_wp2_with fail
            refine (swap_int (hT.kept (w' := wr.drewN (nq + nr)) fun _ _ => rfl) (a := (k : Int)) (b := 2 * (k : Int) + 1) (i := k) (j := 2 * k + 1) (by omega) (by omega) (by omega) (by omega) (by omega)).mono ?_
            rintro e w' ⟨rfl, hT2, hb2⟩
            have hb3 : Below B w w' := (below_drewN hb _).trans hb2
            clear hms hml hml0
            go_wp2_with fail
            go_roundw
            case rel =>
              refine ⟨2 * k + 1, swapL H' k (2 * k + 1), by go_num, by omega, (swapL_perm (by omega) (by omega)).trans hp, ?_, hT2, hb3, ?_⟩
              · rw [swapL_get (by omega) (by omega), if_neg (by omega), if_neg (by omega)]; exact HLn.out
              · exact HS.out.congr (by omega) fun q hq => swapL_key (by omega) (by omega) q
            case measure => simp [intOf]; omega
          · have HS : Hid (HeapOK (keyOf H') n) := down_stop HD.out (fun q q0 qn qk => by have hq := HBest.out q q0 qn qk; omega)
            have HE : Hid (¬ keyOf H' (2 * k + 1) < keyOf H' k) := hE
            clear hE
            go_wp2_with fail
            refine (less_int hT (a := 2 * (k : Int) + 1 + 1) (b := 2 * (k : Int) + 1) (i := 2 * k + 2) (j := 2 * k + 1) (by omega) (by omega) (by omega) (by omega) (by omega) (bb := false) (by simpa using HC.out)).mono ?_
            rintro e w' ⟨rfl, nq, rfl⟩
            go_wp2_with fail
            refine (less_int (hT.kept (w' := wr.drewN nq) fun _ _ => rfl) (a := 2 * (k : Int) + 1) (b := (k : Int)) (i := 2 * k + 1) (j := k) (by omega) (by omega) (by omega) (by omega) (by omega) (bb := false) (by simpa using HE.out)).mono ?_
            rintro e w' ⟨rfl, nr, rfl⟩
            try simp only [World.drewN_drewN]
            go_wp2_with fail
            go_ret
            exact ⟨⟨_, rfl⟩, H', hp, HLn.out, HS.out, hT.kept fun _ _ => rfl, below_drewN hb _⟩
      · have hB' : ¬ 2 * (k : Int) + 1 + 1 < n := by omega
        have HBest : Hid (∀ q, 0 < q → q < n → (q - 1) / 2 = k → keyOf H' (2 * k + 1) ≤ keyOf H' q) := fun q q0 qn qk => by rcases (show q = 2 * k + 1 by omega) with rfl; exact Int.le_refl _
        by_cases hE : keyOf H' (2 * k + 1) < keyOf H' k
        · have HS : Hid (DownInv (swapf (keyOf H') k (2 * k + 1)) n (2 * k + 1)) := down_step HD.out (by omega) (by omega) (by omega) hE HBest.out
          have HE : Hid (keyOf H' (2 * k + 1) < keyOf H' k) := hE
          clear hE
          go_wp2_with fail

          refine (less_int (hT.kept (w' := wr) fun _ _ => rfl) (a := 2 * (k : Int) + 1) (b := (k : Int)) (i := 2 * k + 1) (j := k) (by omega) (by omega) (by omega) (by omega) (by omega) (bb := true) (by simpa using HE.out)).mono ?_
          rintro e w' ⟨rfl, nr, rfl⟩
          go_wp2_with fail
          refine (swap_int (hT.kept (w' := wr.drewN nr) fun _ _ => rfl) (a := (k : Int)) (b := 2 * (k : Int) + 1) (i := k) (j := 2 * k + 1) (by omega) (by omega) (by omega) (by omega) (by omega)).mono ?_
          rintro e w' ⟨rfl, hT2, hb2⟩
          have hb3 : Below B w w' := (below_drewN hb _).trans hb2
          clear hms hml hml0
          go_wp2_with fail
          go_roundw
          case rel =>
            refine ⟨2 * k + 1, swapL H' k (2 * k + 1), by go_num, by omega, (swapL_perm (by omega) (by omega)).trans hp, ?_, hT2, hb3, ?_⟩
            · rw [swapL_get (by omega) (by omega), if_neg (by omega), if_neg (by omega)]; exact HLn.out
            · exact HS.out.congr (by omega) fun q hq => swapL_key (by omega) (by omega) q
          case measure => simp [intOf]; omega
        · have HS : Hid (HeapOK (keyOf H') n) := down_stop HD.out (fun q q0 qn qk => by have hq := HBest.out q q0 qn qk; omega)
          have HE : Hid (¬ keyOf H' (2 * k + 1) < keyOf H' k) := hE
          clear hE
          go_wp2_with fail

          refine (less_int (hT.kept (w' := wr) fun _ _ => rfl) (a := 2 * (k : Int) + 1) (b := (k : Int)) (i := 2 * k + 1) (j := k) (by omega) (by omega) (by omega) (by omega) (by omega) (bb := false) (by simpa using HE.out)).mono ?_
          rintro e w' ⟨rfl, nr, rfl⟩
          go_wp2_with fail
          go_ret
          exact ⟨⟨_, rfl⟩, H', hp, HLn.out, HS.out, hT.kept fun _ _ => rfl, below_drewN hb _⟩
end
end Go.Proofs.Qxb6616160a.Tick
