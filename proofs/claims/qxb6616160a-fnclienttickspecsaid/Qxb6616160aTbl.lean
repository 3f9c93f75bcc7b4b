import Derived.Test.Qxb6616160aHeld
namespace Go.Proofs.Qxb6616160a.Tick
set_option linter.unusedVariables false
set_option linter.unusedSimpArgs false
open Go.ChangeShapes Go.WideShapes Go.ChangeAt Go.RowKit

/-- A table that was made of the clients L (as cs lists them) and holds those of them whose last write is at q or later. -/
structure Tbl (B tb : Nat) (now most : Int) (H L : List Cl) (q : Int) (cs : List (ByteArray × Int)) (w : World) : Prop where
  st : St B tb now most H w
  lids : (L.map Cl.id).Nodup
  are : L.map (fun c => (c.id, c.last)) = cs
  mem : ∀ c, c ∈ H ↔ (c ∈ L ∧ q ≤ c.last)
  qle : q ≤ cutI now
  pos : ∀ c ∈ L, 0 ≤ c.last
  now0 : 0 ≤ now
  now1 : now ≤ 18446744073709551615

section
variable {B tb : Nat} {now most : Int} {H L : List Cl} {q : Int} {cs : List (ByteArray × Int)} {w : World}

theorem Tbl.kept (h : Tbl B tb now most H L q cs w) {w' : World} (hb : ∀ k, k < w.heap.size → w'.heap[k]? = w.heap[k]?) : Tbl B tb now most H L q cs w' :=
  ⟨h.st.kept hb, h.lids, h.are, h.mem, h.qle, h.pos, h.now0, h.now1⟩

theorem Tbl.keptB (h : Tbl B tb now most H L q cs w) {B' : Nat} {w' : World} (hb : Below B' w w') (hB : w.heap.size ≤ B') : Tbl B tb now most H L q cs w' :=
  h.kept fun k hk => hb.block k (by omega)

theorem Tbl.len (h : Tbl B tb now most H L q cs w) : H.length ≤ cs.length := by
  obtain ⟨mb, E, clock, s, hT, hok, hp, hid, hbc, hbn⟩ := h.st
  have hnd : H.Nodup := by
    refine hp.nodup_iff.2 (nodup_of_map (f := Cl.id) ?_)
    rw [List.map_map]; exact hid
  have h1 := sub_length hnd (fun c hc => ((h.mem c).1 hc).1)
  have h2 := congrArg List.length h.are
  simp at h2
  omega

theorem cutI_mono {a b : Int} (h : a ≤ b) : cutI a ≤ cutI b := by unfold cutI; split <;> split <;> omega
theorem le_maxI (a b : Int) : a ≤ maxI a b ∧ b ≤ maxI a b := by unfold maxI; split <;> omega
theorem cutI_nonneg (a : Int) : 0 ≤ cutI a := by unfold cutI; split <;> omega
theorem stale_iff (now last : Int) (h : 0 ≤ last) : staleB now last = false ↔ cutI now ≤ last := by
  unfold staleB cutI
  by_cases h9 : 900 < now
  · rw [if_pos h9]
    by_cases h1 : last < now <;> by_cases h2 : 900 < now - last <;> simp [h1, h2] <;> omega
  · rw [if_neg h9]
    by_cases h1 : last < now <;> by_cases h2 : 900 < now - last <;> simp [h1, h2] <;> omega

theorem tick14 (h : Tbl B tb now most H L q cs w) (hn : cs.length ≤ 4096) {at_ : Int} (hat : 0 ≤ at_) (hat' : at_ ≤ 18446744073709551615) (hmost : 0 ≤ most) (hmost' : most ≤ 9223372036854775807) :
    Calls Try.prog 14 #[.pointer (some ⟨tb, 0, none⟩), .int .u64 at_] w fun e w' => e = .returned (.tuple #[]) ∧
      ∃ H' most', Tbl B tb (maxI now at_) most' H' L (cutI (maxI now at_)) cs w' ∧ Below B w w' ∧ most' = (if spareB most H'.length then (H'.length : Int) else most) := by
  have hlen := h.len
  obtain ⟨mb, E, clock, s, hT, hok, hp, hid, hbc, hbn⟩ := h.st
  have hcall := tick_any (at_ := at_) hT hok hp hid hbc hbn (by omega) h.now0 h.now1 hat hat' hmost hmost'
  have HC : Hid (Calls Try.prog 28 #[.pointer (some ⟨tb, 0, none⟩), .int .u64 at_] w fun e w' => e = .returned (.tuple #[]) ∧ ∃ H' most', St B tb (maxI now at_) most' H' w' ∧ Below B w w' ∧ (∀ c, c ∈ H' ↔ (c ∈ H ∧ cutI (maxI now at_) ≤ c.last)) ∧ most' = (if spareB most H'.length then (H'.length : Int) else most)) := hcall
  have HT : Hid (Tbl B tb now most H L q cs w) := h
  clear h hT hok hp hid hbc hbn hcall
  go_enter Try.func14, Try.ntmps14
  go_wp2_with fail
  refine HC.out.mono ?_
  rintro e w1 ⟨rfl, H', most', hst, hb, hm, hmo⟩
  have HF : Hid (∃ H' most', Tbl B tb (maxI now at_) most' H' L (cutI (maxI now at_)) cs w1 ∧ Below B w w1 ∧ most' = (if spareB most H'.length then (H'.length : Int) else most)) := by
    have hmx := le_maxI now at_
    refine ⟨H', most', ⟨hst, HT.out.lids, HT.out.are, fun c => ?_, Int.le_refl _, HT.out.pos, by have := HT.out.now0; omega, ?_⟩, hb, hmo⟩
    · rw [hm c, HT.out.mem c]
      have h1 := HT.out.qle
      have h2 := cutI_mono hmx.1
      constructor
      · rintro ⟨⟨a, b⟩, c'⟩; exact ⟨a, c'⟩
      · rintro ⟨a, c'⟩; exact ⟨⟨a, by omega⟩, c'⟩
    · have := HT.out.now1
      unfold maxI; split <;> omega
  clear hst hb hm hmo
  go_wp2_with fail
  go_end0
  exact ⟨rfl, HF.out⟩

theorem build13 {a : Option Addr} {cap : Nat} (hC : Cs w a cs) (hn : cs.length ≤ 4096) (hap : ∀ i j (hi : i < cs.length) (hj : j < cs.length), i < j → (cs[i]).1 ≠ (cs[j]).1) (hn0 : 0 ≤ now) (hn1 : now ≤ 18446744073709551615) :
    Calls Try.prog 13 #[.int .u64 now, .int .i64 most, .slice a cs.length cap] w fun e w' => ∃ B tb H L, w.heap.size ≤ B ∧ e = .returned (.pointer (some ⟨tb, 0, none⟩)) ∧ Tbl B tb now most H L 0 cs w' ∧ Below B w w' := by
  refine (build_any w a cap cs now most hC hn hap).mono ?_
  rintro e w' ⟨B, tb, mb, H, E, clock, s, hB, rfl, hBd⟩
  have hare : (E.map (·.1)).map (fun c => (c.id, c.last)) = cs := by
    rw [List.map_map]
    have := hBd.are
    rw [List.take_length] at this
    exact this
  have hpos : ∀ c ∈ E.map (·.1), 0 ≤ c.last := by
    intro c hc
    have hm : (c.id, c.last) ∈ cs := by rw [← hare]; exact List.mem_map.2 ⟨c, hc, rfl⟩
    obtain ⟨i, hi, he⟩ := List.getElem_of_mem hm
    have := (hC.rng i hi).1
    rw [he] at this
    exact this
  have hids : (cs.map (·.1)).Nodup := by
    rw [List.Nodup, List.pairwise_iff_getElem]
    intro i j hi hj hij
    simp only [List.getElem_map]
    exact hap i j (by simpa using hi) (by simpa using hj) hij
  have hlids : ((E.map (·.1)).map Cl.id).Nodup := by
    have : (E.map (·.1)).map Cl.id = cs.map (·.1) := by rw [← hare, List.map_map, List.map_map, List.map_map]; rfl
    rw [this]; exact hids
  have hid : (E.map (·.1.id)).Nodup := by
    rw [List.map_map] at hlids
    exact hlids
  refine ⟨B, tb, H, E.map (·.1), hB, rfl, ⟨⟨mb, E, clock, s, hBd.tab, hBd.ok, hBd.perm, hid, hBd.born, hBd.borns⟩, hlids, hare, fun c => ?_, cutI_nonneg _, hpos, hn0, hn1⟩, hBd.below⟩
  rw [hBd.perm.mem_iff]
  exact ⟨fun h => ⟨h, hpos c h⟩, fun h => h.1⟩

theorem held16 (h : Tbl B tb now most H L (cutI now) cs w) {a : Option Addr} {cap : Nat} (hC : Cs w a cs) (hn : cs.length ≤ 4096) {M : Int} (hM : M = now) :
    Calls Try.prog 16 #[.pointer (some ⟨tb, 0, none⟩), .int .u64 M, .slice a cs.length cap] w fun e w' => e = .returned (.bool true) ∧ w' = w := by
  subst hM
  obtain ⟨mb, E, clock, s, hT, hok, hp, hid, hbc, hbn⟩ := h.st
  refine held_any hT (L := L) ⟨hid, hp, h.lids, h.are, fun c => ?_⟩ hC hn h.now0 h.now1
  rw [h.mem c]
  constructor
  · rintro ⟨h1, h2⟩; exact ⟨h1, (stale_iff M c.last (h.pos c h1)).2 h2⟩
  · rintro ⟨h1, h2⟩; exact ⟨h1, (stale_iff M c.last (h.pos c h1)).1 h2⟩

end
end Go.Proofs.Qxb6616160a.Tick
