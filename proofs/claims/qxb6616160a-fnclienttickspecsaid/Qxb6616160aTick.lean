import Derived.Test.Qxb6616160aCopy
import Derived.Maps.AppendAt
import Derived.Deep.RegionHeld3
namespace Go.Proofs.Qxb6616160a.Tick
set_option linter.unusedVariables false
set_option linter.unusedSimpArgs false
open Go.ChangeShapes Go.WideShapes Go.ChangeAt Go.RowKit
open Go.ChangeMaps (setBlock)

theorem grownBy_empty (w : World) (o : Obj) (w' : World) (h : (w.alloc o).grownBy w' (some w.heap.size)) : w.grownBy w' none :=
  ⟨h.os, h.tape, h.output, Nat.le_trans (by simp) h.size, fun k hk _ => (h.block k (by simp; omega) (by simp; omega)).trans (Below.heap_alloc w o k hk)⟩

theorem eql54_nil (w : World) : (binOp .eql 54 (.slice none 0 0) (.slice none 0 0)).run Try.prog w = .ok (.bool true) w := by kernel_rfl
theorem eql54_some (a : Addr) (n cap : Nat) (w : World) : (binOp .eql 54 (.slice (some a) n cap) (.slice none 0 0)).run Try.prog w = .ok (.bool false) w := by kernel_rfl

theorem clone_nil (w : World) : Calls Try.prog 35 #[.slice none 0 0] w fun e w' => e = .returned (.slice none 0 0) ∧ w' = w := by
  have he := eql54_nil w
  go_enter Try.func35, Try.ntmps35
  go_wp2
  go_ret
  exact ⟨rfl, rfl⟩

theorem clone_some (w : World) (B g n cap : Nat) (xs : List Value) (hown : w.ownsRow B 62 1 (.slice (some ⟨g, 0, none⟩) n cap) n xs) (hB : B ≤ w.heap.size) (hn : n ≤ 1000000) (h1 : ∀ u ∈ xs, u.oneCell' = true) :
    Calls Try.prog 35 #[.slice (some ⟨g, 0, none⟩) n cap] w fun e w' => ∃ s', e = .returned s' ∧ w'.ownsRow w.heap.size 62 1 s' n xs ∧ w.grownBy w' none := by
  obtain ⟨i0, hi, hz0, hz1, hz2⟩ := info_parts info62
  have hlt := (hown.lt g rfl).2
  have own0 : (w.alloc (.cells #[] 62)).ownsRow w.heap.size 62 1 (.slice (some ⟨w.heap.size, 0, none⟩) 0 0) 0 [] := World.ownsRow_lit w #[] 0 (Nat.le_refl _) (by unfold maxLen; omega) rfl
  have hxl : xs.length = n := by have := hown.1; omega
  have hnews : ∀ j u, xs[j]? = some u → (w.alloc (.cells #[] 62)).cell? ((⟨g, 0, none⟩ : Addr).add j) = some u := fun j u hj => by
    rw [cell_alloc_old _ _ _ (by unfold Addr.add; split <;> exact hlt)]
    exact hown.cells rfl j u hj
  have he := eql54_some ⟨g, 0, none⟩ n cap w
  have HO : Hid ((w.alloc (.cells #[] 62)).ownsRow w.heap.size 62 1 (.slice (some ⟨w.heap.size, 0, none⟩) 0 0) 0 []) := own0
  have HN : Hid (∀ j u, xs[j]? = some u → (w.alloc (.cells #[] 62)).cell? ((⟨g, 0, none⟩ : Addr).add j) = some u) := hnews
  have H1 : Hid (∀ u ∈ xs, u.oneCell' = true) := h1
  clear own0 hnews hown h1
  go_enter Try.func35, Try.ntmps35
  go_wp2_with (at_builtin; refine wpList_append_own_at _ rfl (.tmp 5) (.tmp 6) 54 rfl w.heap.size 62 i0 (.pointer none) 1 8 Try.underlying54 hi hz0 hz1 hz2 rfl (by omega) _ 0 [] rfl HO.out ⟨g, 0, none⟩ n cap xs rfl (by omega) HN.out H1.out (by unfold maxLen; omega) (by omega) (by simp) ?_)
  · intro v' w1 hown1 hgrow hnil hat
    have HG : Hid (w.grownBy w1 none) := grownBy_empty w _ w1 hgrow
    have HW : Hid (w1.ownsRow w.heap.size 62 1 v' n xs) := hown1
    clear hown1 hgrow hnil hat
    go_wp2
    go_ret
    exact ⟨v', rfl, HW.out, HG.out⟩

theorem own_base {w : World} {B B' : Nat} {e : TypeId} {size : Nat} {v : Value} {n : Nat} {xs : List Value} (h : w.ownsRow B e size v n xs) (hb : B' ≤ B) : w.ownsRow B' e size v n xs := by
  refine ⟨h.1, ?_⟩
  rcases h.2 with h2 | ⟨g, cap, cur, hv, hg, r⟩
  · exact .inl h2
  · exact .inr ⟨g, cap, cur, hv, by omega, r⟩

theorem clone_any (w : World) (B n : Nat) (s : Value) (xs : List Value) (hown : w.ownsRow B 62 1 s n xs) (hB : B ≤ w.heap.size) (hn : n ≤ 1000000) (h1 : ∀ u ∈ xs, u.oneCell' = true) :
    Calls Try.prog 35 #[s] w fun e w' => ∃ s', e = .returned s' ∧ w'.ownsRow w.heap.size 62 1 s' n xs ∧ w.grownBy w' none := by
  rcases hown.2 with ⟨rfl, rfl⟩ | ⟨g, cap, cur, rfl, _⟩
  · refine (clone_nil w).mono ?_
    rintro e w' ⟨rfl, rfl⟩
    refine ⟨_, rfl, ?_, ⟨rfl, rfl, rfl, Nat.le_refl _, fun _ _ _ => rfl⟩⟩
    have : xs = [] := List.length_eq_zero_iff.1 (by have := hown.1; omega)
    subst this
    exact World.ownsRow_nil _ _ _ _
  · exact clone_some w B g n cap xs hown hB hn h1

theorem run_makeMap (w : World) : (Instr.makeMap 52 none).run Try.prog w = .ok (.map (some w.heap.size)) (w.alloc (.map #[] 0)) := rfl
theorem run_makeMap_hint (n : Int) (w : World) : (Instr.makeMap 52 (some (.int .i64 n))).run Try.prog w = .ok (.map (some w.heap.size)) (w.alloc (.map #[] 0)) := by kernel_rfl

theorem new_raw (now most : Int) (w : World) : Calls Try.prog 26 #[.int .u64 now, .int .i64 most] w fun e w' => e = .returned (.pointer (some ⟨w.heap.size + 1, 0, none⟩)) ∧
    w' = (w.alloc (.map #[] 0)).alloc (.cells #[.int .u64 now, .map (some w.heap.size), .slice none 0 0, .int .i64 most] 56) := by
  have hmm := run_makeMap w
  go_enter Try.func26, Try.ntmps26
  go_wp2
  go_ret
  exact ⟨rfl, rfl⟩

theorem new_tab (now most : Int) (w : World) : Calls Try.prog 26 #[.int .u64 now, .int .i64 most] w fun e w' => e = .returned (.pointer (some ⟨w.heap.size + 1, 0, none⟩)) ∧
    Tab w.heap.size (w.heap.size + 1) w.heap.size now most (ents []) 0 [] (.slice none 0 0) w' ∧ Below w.heap.size w w' := by
  refine (new_raw now most w).mono ?_
  rintro e w' ⟨rfl, rfl⟩
  refine ⟨rfl, ⟨?_, ?_, World.ownsRow_nil _ _ _ _, fun i hi => by simp at hi, by omega, Nat.le_refl _, fun c hc => by simp at hc⟩, ?_⟩
  · have := heap_alloc_new (w.alloc (.map #[] 0)) (.cells #[.int .u64 now, .map (some w.heap.size), .slice none 0 0, .int .i64 most] 56)
    simpa using this
  · rw [Below.heap_alloc _ _ _ (by simp)]; exact heap_alloc_new _ _
  · exact ((Below.refl _ w).alloc (Nat.le_refl _) _).alloc (by simp) _

section
variable {B tb mb : Nat} {now most : Int} {es : Array MapEntry} {clock : Nat} {H : List Cl} {s : Value} {w : World}

theorem Tab.put (h : Tab B tb mb now most es clock H s w) (es' : Array MapEntry) (clock' : Nat) : Tab B tb mb now most es' clock' H s (setBlock w mb (.map es' clock')) := by
  refine ⟨by rw [heap_setBlock_other _ _ _ _ h.tb_mb]; exact h.tab, heap_setBlock_at _ _ _ h.lts.2.1, ?_, fun i hi => by rw [heap_setBlock_other _ _ _ _ (h.cl_mb hi)]; exact h.cl i hi, h.btb, h.bmb, h.bcl⟩
  exact ownsRow_of_heap h.own fun g hg => heap_setBlock_other _ _ _ _ (fun e => h.row_mb (by rw [hg, e]))

theorem below_setBlock {B : Nat} {a w : World} (h : Below B a w) {b : Nat} (hb : B ≤ b) (o : Obj) : Below B a (setBlock w b o) :=
  h.trans ⟨rfl, rfl, rfl, by rw [size_setBlock]; exact Nat.le_refl _, fun k hk => heap_setBlock_other _ _ _ _ (by omega)⟩

theorem add_tab {E : List (Cl × Nat)} (h : Tab B tb mb now most (ents E) clock H s w) (hn : H.length + 1 ≤ 1000000) (hok : HeapOK (keyOf H) H.length)
    (id : ByteArray) (last : Int) (hid : ∀ x ∈ E, x.1.id ≠ id) :
    Calls Try.prog 27 #[.pointer (some ⟨tb, 0, none⟩), .string id, .int .u64 last] w fun e w' => e = .returned (.tuple #[]) ∧
      ∃ H' s', H'.Perm (⟨w.heap.size, id, last⟩ :: H) ∧ HeapOK (keyOf H') H'.length ∧ Tab B tb mb now most (ents (E ++ [(⟨w.heap.size, id, last⟩, clock)])) (clock + 1) H' s' w' ∧ Below B w w' := by
  have hB : B ≤ w.heap.size := Nat.le_of_lt (Nat.lt_of_le_of_lt h.btb h.lts.1)
  have hT1 : Tab B tb mb now most (ents E) clock H s (w.alloc (.cells #[.string id, .int .u64 0, .int .u64 0, .int .u64 0, .int .u8 0, .int .u64 0, .int .u64 last, .int .i64 0] 61)) := h.kept fun k hk => Below.heap_alloc _ _ _ hk
  have hup := run_update_new mb clock E id (.pointer (some ⟨w.heap.size, 0, none⟩)) _ hT1.map hid
  generalize hw2 : setBlock (w.alloc (.cells #[.string id, .int .u64 0, .int .u64 0, .int .u64 0, .int .u8 0, .int .u64 0, .int .u64 last, .int .i64 0] 61)) mb (.map ((ents E).push ⟨.string id, .pointer (some ⟨w.heap.size, 0, none⟩), clock⟩) (clock + 1)) = w2 at hup
  have hT2 : Tab B tb mb now most (ents (E ++ [(⟨w.heap.size, id, last⟩, clock)])) (clock + 1) H s w2 := by
    subst hw2; rw [ents_snoc]; exact hT1.put _ _
  have hc2 : w2.heap[w.heap.size]? = some (.cells (Cl.cells ⟨w.heap.size, id, last⟩ 0) 61 (0, 0)) := by
    subst hw2
    rw [heap_setBlock_other _ _ _ _ (by have := h.lts.2.1; omega)]
    exact heap_alloc_new _ _
  have hb2 : Below B w w2 := by
    subst hw2
    exact below_setBlock ((Below.refl B w).alloc hB _) h.bmb _
  have ht1 := hT1.cell_tab.2.1
  have HT2 : Hid (Tab B tb mb now most (ents (E ++ [(⟨w.heap.size, id, last⟩, clock)])) (clock + 1) H s w2) := hT2
  have HC2 : Hid (w2.heap[w.heap.size]? = some (.cells (Cl.cells ⟨w.heap.size, id, last⟩ 0) 61 (0, 0))) := hc2
  have HB2 : Hid (Below B w w2) := hb2
  have HT : Hid (Tab B tb mb now most (ents E) clock H s w) := h
  clear hw2 hT1 hT2 hc2 hb2 h
  go_enter Try.func27, Try.ntmps27
  go_wp2_with fail
  refine (push_tab HT2.out hn hok (c := ⟨w.heap.size, id, last⟩) (k0 := 0) HC2.out hB (fun i hi => by have := HT.out.lts.2.2 i hi; exact Nat.ne_of_lt this)).mono ?_
  rintro e w3 ⟨rfl, H', s', hp, hok', hT3, hb3⟩
  have HF : Hid (H'.Perm (⟨w.heap.size, id, last⟩ :: H) ∧ HeapOK (keyOf H') H'.length ∧ Tab B tb mb now most (ents (E ++ [(⟨w.heap.size, id, last⟩, clock)])) (clock + 1) H' s' w3 ∧ Below B w w3) := ⟨hp, hok', hT3, HB2.out.trans hb3⟩
  clear hp hok' hT3 hb3 hup
  go_wp2_with fail
  go_end0
  exact ⟨rfl, H', s', HF.out⟩
end
end Go.Proofs.Qxb6616160a.Tick
