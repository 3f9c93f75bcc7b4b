import Derived.Test.Qxb6616160aCs2
namespace Go.Proofs.Qxb6616160a.Tick
set_option linter.unusedVariables false
set_option linter.unusedSimpArgs false
open Go.ChangeShapes Go.WideShapes Go.ChangeAt Go.RowKit

section
variable {B tb mb : Nat} {now most : Int} {E : List (Cl × Nat)} {clock : Nat} {H : List Cl} {s : Value} {w : World}

theorem now_any (h : Tab B tb mb now most (ents E) clock H s w) : Calls Try.prog 29 #[.pointer (some ⟨tb, 0, none⟩)] w fun e w' => e = .returned (.int .u64 now) ∧ w' = w := by
  have c0 := h.cell_tab.1
  clear h
  go_enter Try.func29, Try.ntmps29
  go_wp2
  go_ret
  exact ⟨rfl, rfl⟩

theorem count_any (h : Tab B tb mb now most (ents E) clock H s w) : Calls Try.prog 31 #[.pointer (some ⟨tb, 0, none⟩)] w fun e w' => e = .returned (.int .i64 E.length) ∧ w' = w := by
  have c1 := h.cell_tab.2.1
  have hl := run_lenmap mb (ents E) clock w h.map
  rw [show (ents E).size = E.length by simp [ents]] at hl
  clear h
  go_enter Try.func31, Try.ntmps31
  go_wp2
  go_ret
  exact ⟨rfl, rfl⟩

theorem hlen_any (h : Tab B tb mb now most (ents E) clock H s w) : Calls Try.prog 17 #[.pointer (some ⟨tb, 0, none⟩)] w fun e w' => e = .returned (.int .i64 H.length) ∧ w' = w := by
  have c2 := h.cell_tab.2.2.1
  obtain ⟨a, cap, hs, _⟩ := h.form'
  subst hs
  clear h
  go_enter Try.func17, Try.ntmps17
  go_wp2
  go_ret
  exact ⟨rfl, rfl⟩

theorem neq62_some (a : Addr) (w : World) : (binOp .neq 62 (.pointer (some a)) (.pointer none)).run Try.prog w = .ok (.bool true) w := by kernel_rfl
theorem neq62_none (w : World) : (binOp .neq 62 (.pointer none) (.pointer none)).run Try.prog w = .ok (.bool false) w := by kernel_rfl

theorem has_yes (h : Tab B tb mb now most (ents E) clock H s w) (hid : (E.map (·.1.id)).Nodup) {j : Nat} {x : Cl × Nat} (hx : E[j]? = some x) {id : ByteArray} (hxi : x.1.id = id) :
    Calls Try.prog 30 #[.pointer (some ⟨tb, 0, none⟩), .string id] w fun e w' => e = .returned (.bool true) ∧ w' = w := by
  subst hxi
  have c1 := h.cell_tab.2.1
  have hl : (Instr.lookup 52 (.map (some mb)) (.string x.1.id) false).run Try.prog w = .ok (.pointer (some ⟨x.1.blk, 0, none⟩)) w := run_lookup_some mb clock E j x w h.map hid hx
  have hne := neq62_some ⟨x.1.blk, 0, none⟩ w
  clear h hx hid
  go_enter Try.func30, Try.ntmps30
  go_wp2
  go_ret
  exact ⟨rfl, rfl⟩

theorem has_no (h : Tab B tb mb now most (ents E) clock H s w) {id : ByteArray} (hf : ∀ x ∈ E, x.1.id ≠ id) :
    Calls Try.prog 30 #[.pointer (some ⟨tb, 0, none⟩), .string id] w fun e w' => e = .returned (.bool false) ∧ w' = w := by
  have c1 := h.cell_tab.2.1
  have hl := run_lookup_none mb clock E id w h.map hf
  have hne := neq62_none w
  clear h hf
  go_enter Try.func30, Try.ntmps30
  go_wp2
  go_ret
  exact ⟨rfl, rfl⟩

/-- The clients that the table holds are those of L whose last write the clock has not passed. -/
structure Holds (now : Int) (E : List (Cl × Nat)) (H L : List Cl) (cs : List (ByteArray × Int)) : Prop where
  ids : (E.map (·.1.id)).Nodup
  perm : H.Perm (E.map (·.1))
  lids : (L.map Cl.id).Nodup
  are : L.map (fun c => (c.id, c.last)) = cs
  mem : ∀ c, c ∈ H ↔ (c ∈ L ∧ staleB now c.last = false)

theorem Holds.len {L : List Cl} {cs : List (ByteArray × Int)} (h : Holds now E H L cs) : L.length = cs.length := by
  have := congrArg List.length h.are
  simpa using this

theorem Holds.nodup {L : List Cl} {cs : List (ByteArray × Int)} (h : Holds now E H L cs) : H.Nodup := by
  refine h.perm.nodup_iff.2 (nodup_of_map (f := Cl.id) ?_)
  rw [List.map_map]
  exact h.ids

theorem Holds.filter {L : List Cl} {cs : List (ByteArray × Int)} (h : Holds now E H L cs) : H.length = (L.filter (fun c => !staleB now c.last)).length := by
  refine List.Perm.length_eq ((List.perm_ext_iff_of_nodup h.nodup ?_).2 fun c => ?_)
  · exact (List.filter_sublist).nodup (nodup_of_map h.lids)
  · rw [h.mem c, List.mem_filter]
    simp

def keptN (now : Int) (L : List Cl) (k : Nat) : Nat := ((L.take k).filter (fun c => !staleB now c.last)).length
theorem keptN_succ (now : Int) (L : List Cl) (k : Nat) (hk : k < L.length) : keptN now L (k + 1) = keptN now L k + (if staleB now (L[k]).last then 0 else 1) := by
  unfold keptN
  rw [List.take_succ_eq_append_getElem hk, List.filter_append, List.length_append]
  congr 1
  cases h : staleB now (L[k]).last <;> simp [h]
theorem keptN_le (now : Int) (L : List Cl) (k : Nat) : keptN now L k ≤ k := by
  unfold keptN
  exact Nat.le_trans (List.length_filter_le _ _) (List.length_take_le _ _)

theorem has_any (h : Tab B tb mb now most (ents E) clock H s w) {L : List Cl} {cs : List (ByteArray × Int)} (hh : Holds now E H L cs) {k : Nat} (hk : k < L.length) {id : ByteArray} (hid : (L[k]).id = id) {b : Bool} (hb : staleB now (L[k]).last = b) :
    Calls Try.prog 30 #[.pointer (some ⟨tb, 0, none⟩), .string id] w fun e w' => e = .returned (.bool (!b)) ∧ w' = w := by
  cases b with
  | true =>
    refine has_no h fun x hx e => ?_
    have hxH : x.1 ∈ H := hh.perm.mem_iff.2 (List.mem_map.2 ⟨x, hx, rfl⟩)
    have hxL := (hh.mem x.1).1 hxH
    have : x.1 = L[k] := nodup_inj hh.lids hxL.1 (List.getElem_mem hk) (by rw [e, hid])
    rw [this, hb] at hxL
    exact absurd hxL.2 (by simp)
  | false =>
    have hcH : L[k] ∈ H := (hh.mem _).2 ⟨List.getElem_mem hk, hb⟩
    obtain ⟨x, hx, hxe⟩ := List.mem_map.1 (hh.perm.mem_iff.1 hcH)
    obtain ⟨j, hj⟩ := List.getElem?_of_mem hx
    exact has_yes h hh.ids hj (by rw [hxe]; exact hid)

theorem held_any (h : Tab B tb mb now most (ents E) clock H s w) {L : List Cl} {cs : List (ByteArray × Int)} (hh : Holds now E H L cs) {a : Option Addr} {cap : Nat} (hC : Cs w a cs) (hn : cs.length ≤ 4096) (h0 : 0 ≤ now) (h1 : now ≤ 18446744073709551615) :
    Calls Try.prog 16 #[.pointer (some ⟨tb, 0, none⟩), .int .u64 now, .slice a cs.length cap] w fun e w' => e = .returned (.bool true) ∧ w' = w := by
  have HT : Hid (Tab B tb mb now most (ents E) clock H s w) := h
  have HH : Hid (Holds now E H L cs) := hh
  have HC := hC
  clear h hh hC
  have hne : (now != now) = false := by simp
  go_enter Try.func16, Try.ntmps16
  go_wp2_with (go_at_call 29; refine (now_any HT.out).mono ?_; rintro e w' ⟨rfl, rfl⟩)
  go_loop [7, 8, 9] (fun kv iv _ => ∃ (k : Nat), k ≤ cs.length ∧ iv = .int .i64 k ∧ kv = .int .i64 (keptN now L k)) (fun _ iv _ => cs.length - (intOf iv).toNat)
  case atStart => exact ⟨0, Nat.zero_le _, rfl, rfl⟩
  case round =>
    obtain ⟨k, hk, rfl, rfl⟩ := hrel
    have hkl := keptN_le now L k
    by_cases hlt : k < cs.length
    · obtain ⟨b, off, rfl, g1, g2, hb⟩ := HC.cell k hlt
      have hr := HC.rng k hlt
      have hlt' : (k : Int) < cs.length := by omega
      have hkL : k < L.length := by rw [HH.out.len]; exact hlt
      have HE : Hid ((L[k]).id = (cs[k]).1 ∧ (L[k]).last = (cs[k]).2) := by
        have e : (L.map (fun c => (c.id, c.last)))[k]'(by simpa using hkL) = cs[k] := by simp only [HH.out.are]
        rw [List.getElem_map] at e
        exact ⟨by rw [← e], by rw [← e]⟩
      have HS : Hid (keptN now L (k + 1) = keptN now L k + (if staleB now (L[k]).last then 0 else 1)) := keptN_succ now L k hkL
      obtain ⟨id, hid⟩ : ∃ id, id = (cs[k]).1 := ⟨_, rfl⟩
      obtain ⟨last, hlast⟩ : ∃ last, last = (cs[k]).2 := ⟨_, rfl⟩
      rw [← hid] at g1
      rw [← hlast] at g2 hr
      have HI : Hid (id = (cs[k]).1) := hid
      have HLa : Hid (last = (cs[k]).2) := hlast
      clear hid hlast
      have HLL : Hid ((L[k]).last = last) := by rw [Hid, HE.out.2, HLa.out]
      have HID : Hid ((L[k]).id = id) := by rw [Hid, HE.out.1, HI.out]
      cases hst : staleB now last with
      | true =>
        have hkn : keptN now L (k + 1) = keptN now L k := by rw [HS.out, HLL.out, hst]; rfl
        have HKN : Hid (keptN now L (k + 1) = keptN now L k) := hkn
        have HST : Hid (staleB now (L[k]).last = true) := by rw [Hid, HLL.out]; exact hst
        clear hkn
        go_wp2_with (first
          | (go_at_call 25; refine (stale_any _ _ _ (by omega) (by omega) (by omega) (by omega)).mono ?_; rintro e w' ⟨rfl, rfl⟩)
          | (go_at_call 30; refine (has_any HT.out HH.out hkL HID.out HST.out).mono ?_; rintro e w' ⟨rfl, rfl⟩))
        go_round
        case rel => exact ⟨k + 1, by omega, by go_num, by rw [HKN.out]⟩
        case measure => simp [intOf]; omega
      | false =>
        have hkn : keptN now L (k + 1) = keptN now L k + 1 := by rw [HS.out, HLL.out, hst]; rfl
        have HKN : Hid (keptN now L (k + 1) = keptN now L k + 1) := hkn
        have HST : Hid (staleB now (L[k]).last = false) := by rw [Hid, HLL.out]; exact hst
        clear hkn
        go_wp2_with (first
          | (go_at_call 25; refine (stale_any _ _ _ (by omega) (by omega) (by omega) (by omega)).mono ?_; rintro e w' ⟨rfl, rfl⟩)
          | (go_at_call 30; refine (has_any HT.out HH.out hkL HID.out HST.out).mono ?_; rintro e w' ⟨rfl, rfl⟩))
        go_round
        case rel => exact ⟨k + 1, by omega, by go_num, by rw [HKN.out]; go_num⟩
        case measure => simp [intOf]; omega
    · have hkk : k = cs.length := by omega
      subst hkk
      have e1 : keptN now L cs.length = H.length := by
        rw [HH.out.filter, keptN, List.take_of_length_le (by rw [HH.out.len]; exact Nat.le_refl _)]
      have e2 : E.length = H.length := by have := HH.out.perm.length_eq; simpa using this.symm
      have he1 : ((E.length : Int) == (keptN now L cs.length : Int)) = true := by rw [e1, e2]; simp
      have he2 : ((H.length : Int) == (keptN now L cs.length : Int)) = true := by rw [e1]; simp
      clear e1 e2
      go_wp2_with (first
        | (go_at_call 31; refine (count_any HT.out).mono ?_; rintro e w' ⟨rfl, rfl⟩)
        | (go_at_call 17; refine (hlen_any HT.out).mono ?_; rintro e w' ⟨rfl, rfl⟩))
      go_ret
      exact ⟨rfl, rfl⟩
end
end Go.Proofs.Qxb6616160a.Tick
