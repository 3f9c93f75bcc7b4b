import Derived.Test.Qxb6616160aHeap
namespace Go.Proofs.Qxb6616160a.Tick
set_option linter.unusedVariables false
open Go.ChangeShapes Go.WideShapes Go.ChangeAt Go.RowKit

section
variable {B tb mb : Nat} {now most : Int} {es : Array MapEntry} {clock : Nat} {H : List Cl} {s : Value} {w : World}

theorem keyOf_append_lt {H : List Cl} {c : Cl} {k : Nat} (h : k < H.length) : keyOf (H ++ [c]) k = keyOf H k := by
  unfold keyOf; rw [List.getElem?_append_left h]

theorem push_tab {c : Cl} {k0 : Nat} (h : Tab B tb mb now most es clock H s w) (hn : H.length + 1 ≤ 1000000) (hok : HeapOK (keyOf H) H.length)
    (hc : w.heap[c.blk]? = some (.cells (c.cells k0) 61 (0, 0))) (hB : B ≤ c.blk) (hnew : ∀ i (hi : i < H.length), (H[i]).blk ≠ c.blk) :
    Calls Try.prog 32 #[.iface 65 (.pointer (some ⟨tb, 2, none⟩)), .iface 62 c.ptr] w fun e w' => e = .returned (.tuple #[]) ∧
      ∃ H' s', H'.Perm (c :: H) ∧ HeapOK (keyOf H') H'.length ∧ Tab B tb mb now most es clock H' s' w' ∧ Below B w w' := by
  have hp0 := m_push (.pointer (some ⟨tb, 2, none⟩)) w
  go_enter Try.func32, Try.ntmps32
  go_wp2_with fail
  refine (hpush_tab h hn hc hB hnew).mono ?_
  rintro e w1 ⟨rfl, s', hT, hb⟩
  have hml := m_len ⟨tb, 2, none⟩ s' w1 hT.cell_tab.2.2.1
  obtain ⟨a, cap, hs, hle⟩ := hT.form'
  have hu : Hid (UpInv (keyOf (H ++ [c])) (H ++ [c]).length H.length) := by
    have := up_start (n := H.length) (hok.congr (key' := keyOf (H ++ [c])) fun k hk => keyOf_append_lt hk)
    rw [List.length_append, List.length_singleton]; exact this
  have HT : Hid (Tab B tb mb now most es clock (H ++ [c]) s' w1) := hT
  rw [List.length_append, List.length_singleton] at hs
  rw [hs] at hml
  have HS : Hid (s' = .slice a (H.length + 1) cap) := hs
  have HH : Hid (Tab B tb mb now most es clock H s w) := h
  clear hs hT h hle hp0 hc
  go_wp2_with fail
  refine (len_raw a (H.length + 1) cap w1).mono ?_
  rintro e w2 ⟨rfl, rfl⟩
  go_wp2_with fail
  refine (up_tab HT.out (j := H.length) (by simp) (by rw [List.length_append, List.length_singleton]; exact hn) hu.out).mono ?_
  rintro e w3 ⟨rfl, H', hp, hok', hT', hb'⟩
  have hb2 : Below B w w3 := hb.trans hb'
  clear hml
  go_wp2_with fail
  go_end0
  exact ⟨rfl, H', s', hp.trans (List.perm_append_comm), hok', hT', hb2⟩

theorem last_split {H : List Cl} {n : Nat} {c : Cl} (hl : H.length = n + 1) (hc : H[n]? = some c) : H = H.take n ++ [c] := by
  have h1 : H.drop n = [c] := by
    rw [List.drop_eq_getElem_cons (by omega)]
    have : H[n]'(by omega) = c := by
      rw [List.getElem?_eq_getElem (by omega)] at hc; simpa using hc
    rw [this, List.drop_of_length_le (by omega)]
  rw [← h1, List.take_append_drop]

theorem pop_tab {c : Cl} {T : List Cl} (h : Tab B tb mb now most es clock (c :: T) s w) (hn : T.length + 1 ≤ 1000000) (hok : HeapOK (keyOf (c :: T)) (T.length + 1)) :
    Calls Try.prog 33 #[.iface 65 (.pointer (some ⟨tb, 2, none⟩))] w fun e w' => e = .returned (.iface 62 c.ptr) ∧
      ∃ H' s', H'.Perm T ∧ HeapOK (keyOf H') H'.length ∧ Tab B tb mb now most es clock H' s' w' ∧ Below B w w' ∧ ∃ k, w'.heap[c.blk]? = some (.cells (c.cells k) 61 (0, 0)) := by
  have hml := m_len ⟨tb, 2, none⟩ s w h.cell_tab.2.2.1
  obtain ⟨a, cap, hs, hle⟩ := h.form'
  rw [List.length_cons] at hs
  subst hs
  have hms := m_swap ⟨tb, 2, none⟩ (.slice a (T.length + 1) cap) w h.cell_tab.2.2.1
  have HH : Hid (Tab B tb mb now most es clock (c :: T) (.slice a (T.length + 1) cap) w) := h
  have HOK : Hid (HeapOK (keyOf (c :: T)) (T.length + 1)) := hok
  clear h hok hle
  go_enter Try.func33, Try.ntmps33
  go_wp2_with fail
  refine (len_raw a (T.length + 1) cap w).mono ?_
  rintro e w2 ⟨rfl, rfl⟩
  go_wp2_with fail
  refine (swap_int HH.out (a := 0) (b := (T.length : Int)) (i := 0) (j := T.length) (by simp) rfl (by simp) (by simp) (by simpa using hn)).mono ?_
  rintro e w3 ⟨rfl, hT1, hb1⟩
  have H1n : Hid ((swapL (c :: T) 0 T.length)[T.length]? = some c) := by
    show (swapL (c :: T) 0 T.length)[T.length]? = some c
    rw [swapL_get (by simp) (by simp), if_pos rfl]; rfl
  have HD : Hid (DownInv (keyOf (swapL (c :: T) 0 T.length)) T.length 0) := by
    by_cases h0 : 0 < T.length
    · exact (down_start HOK.out).congr h0 fun q hq => swapL_key (by simp) (by simp) q
    · exact ⟨fun k _ _ _ => by omega, fun k _ _ _ _ => by omega⟩
  have HT1 : Hid (Tab B tb mb now most es clock (swapL (c :: T) 0 T.length) (.slice a (T.length + 1) cap) w3) := hT1
  clear hml hms hT1
  go_wp2_with fail
  refine (down_tab HT1.out (n := T.length) (by rw [swapL_length]; simp) (by rw [swapL_length]; simpa using hn) HD.out).mono ?_
  rintro e w4 ⟨⟨b, rfl⟩, H2, hp2, hlast2, hok2, hT2, hb2⟩
  have hl2 : H2.length = T.length + 1 := by rw [hp2.length_eq, swapL_length]; simp
  have hsplit := last_split hl2 (hlast2.trans H1n.out)
  have hT3 : Tab B tb mb now most es clock (H2.take T.length ++ [c]) (.slice a (T.length + 1) cap) w4 := by rw [← hsplit]; exact hT2
  have hlt : (H2.take T.length).length = T.length := by rw [List.length_take]; omega
  have hperm : (H2.take T.length).Perm T := by
    have p1 : (H2.take T.length ++ [c]).Perm (c :: T) := by
      rw [← hsplit]; exact hp2.trans (swapL_perm (by simp) (by simp))
    have p2 : (c :: H2.take T.length).Perm (c :: T) := (List.perm_append_comm (l₁ := [c])).trans p1
    exact p2.cons_inv
  have hok3 : HeapOK (keyOf (H2.take T.length)) (H2.take T.length).length := by
    rw [hlt]
    refine hok2.congr fun k hk => ?_
    unfold keyOf
    rw [List.getElem?_take, if_pos hk]
  have HF : Hid ((H2.take T.length).Perm T ∧ HeapOK (keyOf (H2.take T.length)) (H2.take T.length).length) := ⟨hperm, hok3⟩
  have hb3 : Below B w2 w4 := hb1.trans hb2
  have HT3 : Hid (Tab B tb mb now most es clock (H2.take T.length ++ [c]) (.slice a (T.length + 1) cap) w4) := hT3
  have hpo := m_pop (.pointer (some ⟨tb, 2, none⟩)) w4
  clear hperm hok3 hT3 hT2 hok2 hlast2 hsplit hp2 hb1 hb2
  go_wp2_with fail
  refine (hpop_tab HT3.out (by rw [hlt]; exact hn)).mono ?_
  rintro e w5 ⟨rfl, s', hT5, hb5, hk5⟩
  have HK5 : Hid (∃ k, w5.heap[c.blk]? = some (.cells (c.cells k) 61 (0, 0))) := hk5
  clear hk5
  have hb6 : Below B w2 w5 := hb3.trans hb5
  clear hpo hl2 hlt
  go_wp2_with fail
  go_ret
  exact ⟨rfl, H2.take T.length, s', HF.out.1, HF.out.2, hT5, hb6, HK5.out⟩
end
end Go.Proofs.Qxb6616160a.Tick
