import Derived.Test.Qxb6616238aInst
namespace Go.Proofs.Qxb6616238a.Grow
set_option linter.unusedVariables false
set_option linter.unusedSimpArgs false
set_option maxRecDepth 100000
open Go.ChangeShapes Go.WideShapes Go.ChangeAt Go.RowKit
open Go.ChangeMaps (setBlock)
open Go.MapKept (run_checkKey run_findKey)

theorem lookup63 (mb : Nat) (k : Int) (w : World) (hm : w.heap[mb]? = some (.map #[] 0)) : (Instr.lookup 63 (.map (some mb)) (.int .i64 k) false).run Try.prog w = .ok (.pointer none) w := by
  have h1 : (Instr.findKey 3 (.int .i64 k) (#[] : Array MapEntry).toList).run Try.prog w = .ok none w := run_findKey Try.underlying3 rfl
  have h2 := Go.MapKept.run_getObj_map (P := Try.prog) hm
  have h3 : ∀ b, (Instr.checkKey b 10000 3 (.int .i64 k)).run Try.prog w = .ok () w := fun b => run_checkKey Try.underlying3 (k := .int .i64 k) rfl b 9999
  have h4 : (zeroValue 32).run Try.prog w = .ok (.pointer none) w := by kernel_rfl
  simp only [Instr.lookup, Sem.run_bind, run_underlying Try.underlying63, Result.andThen_ok, h2, h3, h1, h4, Sem.run_pure]
  rfl
theorem update63 (mb : Nat) (k : Int) (v : Value) (w : World) (hm : w.heap[mb]? = some (.map #[] 0)) : (Instr.mapUpdate 63 (.map (some mb)) (.int .i64 k) v).run Try.prog w = .ok () (setBlock w mb (.map #[⟨.int .i64 k, v, 0⟩] 1)) := by
  have h1 : (Instr.findKey 3 (.int .i64 k) (#[] : Array MapEntry).toList).run Try.prog w = .ok none w := run_findKey Try.underlying3 rfl
  have h2 := Go.MapKept.run_getObj_map (P := Try.prog) hm
  have h3 : (Instr.checkKey false 10000 3 (.int .i64 k)).run Try.prog w = .ok () w := run_checkKey Try.underlying3 (k := .int .i64 k) rfl false 9999
  have h4 := Go.MapKept.run_setObj_map (P := Try.prog) (.map #[⟨.int .i64 k, v, 0⟩] 1) hm
  simp only [Instr.mapUpdate, Sem.run_bind, run_underlying Try.underlying63, Result.andThen_ok, h2, h3, h1]
  exact h4
theorem eql32 (w : World) : (binOp .eql 32 (.pointer none) (.pointer none)).run Try.prog w = .ok (.bool true) w := by kernel_rfl

theorem built88 (nb : Nat) (k : Int) : ∃ ci : Array Value, Try.prog.built 88 [(0, .pointer (some ⟨nb, 0, none⟩)), (1, .int .i64 k)] = some ci ∧ ci.size = 20 ∧ ci[0]? = some (.pointer (some ⟨nb, 0, none⟩)) ∧ ci[1]? = some (.int .i64 k) ∧ ci[5]? = some (.int .i64 0) ∧ ci[8]? = some (.slice none 0 0) ∧ ci[12]? = some (.int .i64 0) :=
  ⟨(Try.prog.built 88 [(0, .pointer (some ⟨nb, 0, none⟩)), (1, .int .i64 k)]).getD #[], by kernel_rfl, by kernel_rfl, by kernel_rfl, by kernel_rfl, by kernel_rfl, by kernel_rfl, by kernel_rfl⟩

theorem setBlock_other (w : World) (b : Nat) (o : Obj) (k : Nat) (h : k ≠ b) : (setBlock w b o).heap[k]? = w.heap[k]? := by
  unfold setBlock
  simp only
  rw [Array.getElem?_setIfInBounds_ne (Ne.symm h)]
theorem setBlock_size (w : World) (b : Nat) (o : Obj) : (setBlock w b o).heap.size = w.heap.size := by simp [setBlock]

set_option maxHeartbeats 1000000 in
theorem inst42 (B nb : Nat) (k : Int) (w : World) (h : NodeAt B nb w) :
    Calls Try.prog 42 #[.pointer (some ⟨nb, 0, none⟩), .int .i64 k] w fun e w' => ∃ ib ci cn, e = .returned (.pointer (some ⟨ib, 0, none⟩)) ∧ InstP B ib nb ci cn (.slice none 0 0) (.slice none 0 0) k 0 0 [] [] w' ∧ Below B w w' := by
  obtain ⟨hge, cs, mb, hb, hsz, h14, h17, hmb, hmh⟩ := h
  have hnsz := lt_of_some hb
  have hmsz := lt_of_some hmh
  have hc17 : w.cell? ⟨nb, 17, none⟩ = some (.map (some mb)) := by rw [cell_of_row w nb 17 cs _ _ hb]; exact h17
  obtain ⟨ci, hbu, d1, d2, d3, d4, d5, d6⟩ := built88 nb k
  have hl := lookup63 mb k w hmh
  have hb1 : (w.alloc (.cells ci 88)).heap[nb]? = some (.cells cs 69 (0, 0)) := by rw [heap_alloc_old w _ hnsz]; exact hb
  have hc17' : (w.alloc (.cells ci 88)).cell? ⟨nb, 17, none⟩ = some (.map (some mb)) := by rw [cell_of_row _ nb 17 cs _ _ hb1]; exact h17
  have hu := update63 mb k (.pointer (some ⟨w.heap.size, 0, none⟩)) (w.alloc (.cells ci 88)) (by rw [heap_alloc_old w _ hmsz]; exact hmh)
  have he := eql32 w
  have hmn : nb ≠ mb := fun e => by rw [e, hmh] at hb; cases hb
  have HI : Hid (InstP B w.heap.size nb ci cs (.slice none 0 0) (.slice none 0 0) k 0 0 [] [] (setBlock (w.alloc (.cells ci 88)) mb (.map #[⟨.int .i64 k, .pointer (some ⟨w.heap.size, 0, none⟩), 0⟩] 1))) := by
    refine ⟨by omega, hge, by omega, ?_, d1, d2, d3, d4, d5, d6, ?_, hsz, h14, World.ownsRow_nil _ _ _ _, World.ownsRow_nil _ _ _ _, by simp [Value.ownBlock], by simp [Value.ownBlock], by simp [Value.ownBlock], by simp [Value.ownBlock], by simp [Value.ownBlock], by simp⟩
    · rw [setBlock_other _ _ _ _ (by omega)]; exact heap_alloc_new _ _
    · rw [setBlock_other _ _ _ _ hmn]; exact hb1
  have HB : Hid (Below B w (setBlock (w.alloc (.cells ci 88)) mb (.map #[⟨.int .i64 k, .pointer (some ⟨w.heap.size, 0, none⟩), 0⟩] 1))) := by
    have h1 := (Below.refl B w).alloc (by omega) (.cells ci 88)
    exact ⟨h1.os, h1.tape, h1.output, by rw [setBlock_size]; exact h1.size, fun k' hk => by rw [setBlock_other _ _ _ _ (by omega)]; exact h1.block k' hk⟩
  clear d1 d2 d3 d4 d5 d6 hb h14 h17 hmh hb1
  go_enter Try.func42, Try.ntmps42
  go_wp2_with (refine wpList_built _ rfl 88 _ rfl ci ?hc ?_; case hc => (simp; exact hbu))
  go_ret
  exact ⟨_, _, _, rfl, HI.out, HB.out⟩

set_option maxHeartbeats 1000000 in
theorem newInst_any (num seen lift : Int) (w : World) :
    Calls Try.prog 32 #[.int .i64 num, .int .i64 seen, .int .i64 lift] w fun e w' => ∃ ib nb ci cn, e = .returned (.pointer (some ⟨ib, 0, none⟩)) ∧ InstP w.heap.size ib nb ci cn (.slice none 0 0) (.slice none 0 0) num seen lift [] [] w' ∧ Ext w w' := by
  go_enter Try.func32, Try.ntmps32
  go_wp2_with fail
  refine (new_any 1 (by decide) w).mono ?_
  rintro e w1 ⟨nb, rfl, hN, hx⟩
  have HX : Hid (Ext w w1) := hx
  clear hx
  go_wp2_with fail
  refine (inst42 w.heap.size nb num w1 hN).mono ?_
  rintro e w2 ⟨ib, ci, cn, rfl, hI, hx2⟩
  have HX2 : Hid (Ext w w2) := Below.trans HX.out hx2
  clear hx2 HX hN
  have hc5 : w2.cell? ⟨ib, 5, none⟩ = some (.int .i64 0) := by rw [hI.icell]; exact hI.c5
  have hf5 : w2.frozen? ⟨ib, 5, none⟩ = false := hI.ifr 5
  have hoth : ∀ k, k ≠ ib → ((w2.setCell ⟨ib, 5, none⟩ (.int .i64 seen)).setCell ⟨ib, 12, none⟩ (.int .i64 lift)).heap[k]? = w2.heap[k]? := fun k hk => by
    rw [heap_setCell_other _ ⟨ib, 12, none⟩ k _ hk, heap_setCell_other _ ⟨ib, 5, none⟩ k _ hk]
  have h1 := heap_setCell_same w2 ib 5 ci 88 (.int .i64 seen) hI.hi
  have h2 := heap_setCell_same _ ib 12 _ 88 (.int .i64 lift) h1
  have hc12 : (w2.setCell ⟨ib, 5, none⟩ (.int .i64 seen)).cell? ⟨ib, 12, none⟩ = some (.int .i64 0) := by rw [cell_of_row _ ib 12 _ _ _ h1, set_get_ne _ (by decide)]; exact hI.c12
  have hf12 : (w2.setCell ⟨ib, 5, none⟩ (.int .i64 seen)).frozen? ⟨ib, 12, none⟩ = false := frozen_of_row _ ib 12 _ _ h1
  have HI : Hid (InstP w.heap.size ib nb ((ci.setIfInBounds 5 (.int .i64 seen)).setIfInBounds 12 (.int .i64 lift)) cn (.slice none 0 0) (.slice none 0 0) num seen lift [] [] ((w2.setCell ⟨ib, 5, none⟩ (.int .i64 seen)).setCell ⟨ib, 12, none⟩ (.int .i64 lift))) := by
    refine hI.upd (by simp) h2 (by simp [hI.cz]) (by rw [set_get_ne _ (by decide), set_get_ne _ (by decide)]) (by rw [set_get_ne _ (by decide), set_get_ne _ (by decide)]) (by rw [set_get_ne _ (by decide), set_get_eq _ (by rw [hI.cz]; decide)]) (by rw [set_get_ne _ (by decide), set_get_ne _ (by decide)]; exact hI.c8) (set_get_eq _ (by simp [hI.cz])) (by rw [hoth nb (Ne.symm hI.ne)]; exact hI.hn) hI.nz hI.n14 (fun k hk h3 _ _ _ => hoth k h3) (World.ownsRow_nil _ _ _ _) (World.ownsRow_nil _ _ _ _) (.inl rfl) (.inl rfl) hI.ep (fun b r hb => by cases hb)
  have HB : Hid (Ext w ((w2.setCell ⟨ib, 5, none⟩ (.int .i64 seen)).setCell ⟨ib, 12, none⟩ (.int .i64 lift))) := Below.setCell (Below.setCell HX2.out (p := ⟨ib, 5, none⟩) hI.iB _) (p := ⟨ib, 12, none⟩) hI.iB _
  clear hI h1 h2 hoth HX2
  go_wp2_with fail
  go_ret
  exact ⟨_, _, _, _, rfl, HI.out, HB.out⟩
end Go.Proofs.Qxb6616238a.Grow
