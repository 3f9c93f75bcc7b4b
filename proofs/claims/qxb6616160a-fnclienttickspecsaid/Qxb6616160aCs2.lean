import Derived.Test.Qxb6616160aCs
namespace Go.Proofs.Qxb6616160a.Tick
set_option linter.unusedVariables false
set_option linter.unusedSimpArgs false
open Go.ChangeShapes Go.WideShapes Go.ChangeAt Go.RowKit

theorem bytes_ne_of {a b : ByteArray} (h : (a.toList == b.toList) = false) : a ≠ b := by
  intro e; subst e; simp at h

theorem distinct_any (w : World) (a : Option Addr) (cap : Nat) (cs : List (ByteArray × Int)) (hC : Cs w a cs) (hn : cs.length ≤ 4096) :
    Calls Try.prog 11 #[.slice a cs.length cap] w fun e w' => RetB (Apart cs) e ∧ ∃ n, w' = w.drewN n := by
  go_enter Try.func11, Try.ntmps11
  go_wp2
  go_loopw [3] (fun iv wr => ∃ (k : Nat) (n : Nat), k ≤ cs.length ∧ iv = .int .i64 k ∧ wr = w.drewN n ∧ Hid (∀ i j (hi : i < cs.length) (hj : j < cs.length), i < k → i < j → (cs[i]).1 ≠ (cs[j]).1)) (fun iv _ => cs.length - (intOf iv).toNat)
  case atStart => exact ⟨0, 0, Nat.zero_le _, rfl, rfl, fun i j _ _ h => by omega⟩
  case round =>
    obtain ⟨k, n, hk, rfl, rfl, HD⟩ := hrel
    by_cases hlt : k < cs.length
    · obtain ⟨b, off, rfl, h1, h2, hb⟩ := hC.cell k hlt
      have hlt' : (k : Int) < cs.length := by omega
      have HC := hC
      clear hC h2
      go_wp2
      go_loopw [4] (fun jv wr => ∃ (m : Nat) (n : Nat), k + 1 ≤ m ∧ m ≤ cs.length ∧ jv = .int .i64 m ∧ wr = w.drewN n ∧ Hid (∀ j (hj : j < cs.length), k < j → j < m → (cs[k]).1 ≠ (cs[j]).1)) (fun jv _ => cs.length - (intOf jv).toNat)
      case atStart => exact ⟨k + 1, n, Nat.le_refl _, hlt, by go_num, rfl, fun j _ h => by omega⟩
      case round =>
        obtain ⟨m, n2, hm1, hm2, rfl, rfl, HJ⟩ := hrel
        by_cases hltm : m < cs.length
        · obtain ⟨b2, off2, hbb, g1, g2, hb2⟩ := HC.cell m hltm
          obtain ⟨rfl, rfl⟩ : b2 = b ∧ off2 = off := by simp at hbb; exact ⟨hbb.1.symm, hbb.2.symm⟩
          have hltm' : (m : Int) < cs.length := by omega
          clear g2 hbb hb2
          have HNew : Hid ((cs[k]).1 ≠ (cs[m]).1 → ∀ j (hj : j < cs.length), k < j → j < m + 1 → (cs[k]).1 ≠ (cs[j]).1) := fun h0 j hj hkj hjm => by
            rcases Nat.lt_or_ge j m with h | h
            · exact HJ.out j hj hkj h
            · have : j = m := by omega
              subst this; exact h0
          have HNe : Hid ((((cs[k]).1.toList == (cs[m]).1.toList)) = false → (cs[k]).1 ≠ (cs[m]).1) := bytes_ne_of
          generalize (cs[k]).1 = x at *
          generalize (cs[m]).1 = y at *
          cases hxy : x.toList == y.toList with
          | true =>
            go_wp2_with fail
            go_quiet (fail)
            go_wp2
            go_ret
            exact ⟨RetB.mk _ (fun h => by cases h), n2 + nq, by simp⟩
          | false =>
            have HXY : Hid ((x.toList == y.toList) = false) := hxy
            go_wp2_with fail
            go_quiet (fail)
            go_wp2
            go_roundw
            case rel => exact ⟨m + 1, _, by omega, by omega, by go_num, rfl, HNew.out (HNe.out HXY.out)⟩
            case measure => simp [intOf]; omega
        · go_wp2
          go_roundw
          case rel =>
            refine ⟨k + 1, _, by omega, by go_num, rfl, fun i j hi hj hik hij => ?_⟩
            rcases Nat.lt_or_ge i k with h | h
            · exact HD.out i j hi hj h hij
            · have : i = k := by omega
              subst this; exact HJ.out j hj hij (by omega)
          case measure => simp [intOf]; omega
    · go_wp2
      go_ret
      exact ⟨RetB.mk _ (fun _ i j hi hj hij => HD.out i j hi hj (by omega) hij), _, rfl⟩

/-- The table as zBuild has it behind k clients. -/
structure Bd (B tb mb : Nat) (now most : Int) (cs : List (ByteArray × Int)) (k : Nat) (w0 : World) (H : List Cl) (E : List (Cl × Nat)) (clock : Nat) (s : Value) (w : World) : Prop where
  tab : Tab B tb mb now most (ents E) clock H s w
  ok : HeapOK (keyOf H) H.length
  perm : H.Perm (E.map (·.1))
  born : ∀ x ∈ E, x.2 < clock
  borns : (E.map (·.2)).Nodup
  are : E.map (fun x => (x.1.id, x.1.last)) = cs.take k
  below : Below B w0 w

theorem Bd.len {B tb mb : Nat} {now most : Int} {cs : List (ByteArray × Int)} {k : Nat} {w0 : World} {H : List Cl} {E : List (Cl × Nat)} {clock : Nat} {s : Value} {w : World}
    (h : Bd B tb mb now most cs k w0 H E clock s w) (hk : k ≤ cs.length) : H.length = k := by
  have h1 := h.perm.length_eq
  have h2 := congrArg List.length h.are
  simp at h1 h2
  omega

theorem Bd.new {B tb mb : Nat} {now most : Int} {cs : List (ByteArray × Int)} {k : Nat} {w0 : World} {H : List Cl} {E : List (Cl × Nat)} {clock : Nat} {s : Value} {w : World}
    (h : Bd B tb mb now most cs k w0 H E clock s w) (hk : k < cs.length) (hap : ∀ i j (hi : i < cs.length) (hj : j < cs.length), i < j → (cs[i]).1 ≠ (cs[j]).1) : ∀ x ∈ E, x.1.id ≠ (cs[k]).1 := by
  intro x hx e
  have hm : (x.1.id, x.1.last) ∈ cs.take k := by rw [← h.are]; exact List.mem_map.2 ⟨x, hx, rfl⟩
  obtain ⟨i, hi, he⟩ := List.getElem_of_mem hm
  rw [List.length_take] at hi
  rw [List.getElem_take] at he
  exact hap i k (by omega) hk (by omega) (by rw [he]; exact e)

theorem Bd.step {B tb mb : Nat} {now most : Int} {cs : List (ByteArray × Int)} {k : Nat} {w0 : World} {H : List Cl} {E : List (Cl × Nat)} {clock : Nat} {s : Value} {w : World}
    (h : Bd B tb mb now most cs k w0 H E clock s w) (hk : k < cs.length) {c : Cl} (hc1 : c.id = (cs[k]).1) (hc2 : c.last = (cs[k]).2) {H' : List Cl} {s' : Value} {w' : World} (hp : H'.Perm (c :: H)) (hok : HeapOK (keyOf H') H'.length)
    (hT : Tab B tb mb now most (ents (E ++ [(c, clock)])) (clock + 1) H' s' w') (hb : Below B w w') : Bd B tb mb now most cs (k + 1) w0 H' (E ++ [(c, clock)]) (clock + 1) s' w' := by
  refine ⟨hT, hok, ?_, ?_, ?_, ?_, h.below.trans hb⟩
  · rw [List.map_append]
    exact hp.trans ((h.perm.cons c).trans (List.perm_append_comm (l₁ := [c])))
  · intro x hx
    rcases List.mem_append.1 hx with h1 | h1
    · have := h.born x h1; omega
    · rw [List.mem_singleton.1 h1]; exact Nat.lt_succ_self _
  · rw [List.map_append, List.nodup_append]
    refine ⟨h.borns, by simp, fun a ha b hb' e => ?_⟩
    obtain ⟨x, hx, rfl⟩ := List.mem_map.1 ha
    have := h.born x hx
    simp at hb'
    omega
  · rw [List.map_append, h.are, List.take_succ_eq_append_getElem hk]
    simp only [List.map_cons, List.map_nil, hc1, hc2]

theorem build_any (w : World) (a : Option Addr) (cap : Nat) (cs : List (ByteArray × Int)) (now most : Int) (hC : Cs w a cs) (hn : cs.length ≤ 4096) (hap : ∀ i j (hi : i < cs.length) (hj : j < cs.length), i < j → (cs[i]).1 ≠ (cs[j]).1) :
    Calls Try.prog 13 #[.int .u64 now, .int .i64 most, .slice a cs.length cap] w fun e w' => ∃ B tb mb H E clock s, w.heap.size ≤ B ∧ e = .returned (.pointer (some ⟨tb, 0, none⟩)) ∧ Bd B tb mb now most cs cs.length w H E clock s w' := by
  go_enter Try.func13, Try.ntmps13
  go_wp2_with fail
  refine (new_tab now most w).mono ?_
  rintro e w1 ⟨rfl, hT, hb⟩
  have HT : Hid (Tab w.heap.size (w.heap.size + 1) w.heap.size now most (ents []) 0 [] (.slice none 0 0) w1) := hT
  have HB : Hid (Below w.heap.size w w1) := hb
  have HC := hC
  clear hT hb hC
  go_wp2_with fail
  go_loopw [8] (fun iv wr => ∃ (k : Nat) (H : List Cl) (E : List (Cl × Nat)) (clock : Nat) (s : Value), k ≤ cs.length ∧ iv = .int .i64 k ∧ Bd w.heap.size (w.heap.size + 1) w.heap.size now most cs k w H E clock s wr) (fun iv _ => cs.length - (intOf iv).toNat)
  case atStart => exact ⟨0, [], [], 0, _, Nat.zero_le _, rfl, ⟨HT.out, fun k _ h => by simp at h, List.Perm.refl _, fun x hx => by simp at hx, by simp, by simp, HB.out⟩⟩
  case round =>
    obtain ⟨k, H, E, clock, s, hk, rfl, hBd⟩ := hrel
    have HBd : Hid (Bd w.heap.size (w.heap.size + 1) w.heap.size now most cs k w H E clock s wr) := hBd
    clear hBd
    by_cases hlt : k < cs.length
    · obtain ⟨b, off, rfl, h1, h2, hb⟩ := (HC.kept HBd.out.below (Nat.le_refl _)).cell k hlt
      have hlt' : (k : Int) < cs.length := by omega
      have HNew := HBd.out.new hlt hap
      have HL : Hid (H.length = k) := HBd.out.len hk
      have HN : Hid (∀ x ∈ E, x.1.id ≠ (cs[k]).1) := HNew
      clear HNew
      obtain ⟨id, hid⟩ : ∃ id, id = (cs[k]).1 := ⟨_, rfl⟩
      obtain ⟨last, hlast⟩ : ∃ last, last = (cs[k]).2 := ⟨_, rfl⟩
      rw [← hid] at h1
      rw [← hlast] at h2
      have HI : Hid (id = (cs[k]).1) := hid
      have HLa : Hid (last = (cs[k]).2) := hlast
      clear hid hlast
      go_upto_region 5 with fail
      go_region_with (go_at_call 27; refine (add_tab (HBd.out.tab.kept (w' := wr.drew) fun _ _ => rfl) (by rw [HL.out]; omega) HBd.out.ok id last (fun x hx => by rw [HI.out]; exact HN.out x hx)).mono ?_; rintro e w3 ⟨rfl, H3, s3, hp3, hok3, hT3, hb3⟩)
      all_goals
        have HStep : Hid (Bd w.heap.size (w.heap.size + 1) w.heap.size now most cs (k + 1) w H3 (E ++ [(⟨wr.heap.size, id, last⟩, clock)]) (clock + 1) s3 w3) := HBd.out.step hlt HI.out HLa.out hp3 hok3 hT3 ((Below.refl _ wr).drew.trans hb3)
        clear hp3 hok3 hT3 hb3
        go_wp2_with fail
        go_roundw
        case rel => exact ⟨k + 1, H3, _, _, s3, by omega, by go_num, HStep.out⟩
        case measure => simp [intOf]; omega
    · go_wp2_with fail
      go_ret
      have : k = cs.length := by omega
      subst this
      exact ⟨_, _, _, H, E, clock, s, Nat.le_refl _, rfl, HBd.out⟩
end Go.Proofs.Qxb6616160a.Tick
