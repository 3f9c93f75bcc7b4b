import Derived.Test.Qxb6616238aSee2
import Derived.BigQuiet
namespace Go.Proofs.Qxb6616238a.Grow
set_option linter.unusedVariables false
set_option linter.unusedSimpArgs false
set_option maxRecDepth 100000
open Go.ChangeShapes Go.WideShapes Go.ChangeAt Go.RowKit Go.Lib

def toT (x : Option Int) : Bool × Int := match x with | none => (false, 0) | some r => (true, r)

theorem ext_drewN (w : World) (n : Nat) : Ext w (w.drewN n) := ⟨rfl, rfl, rfl, Nat.le_refl _, fun _ _ => rfl⟩

set_option maxHeartbeats 2000000 in
theorem estAt_any (B ib nb : Nat) (ci cn : Array Value) (ev pv : Value) (num seen lift : Int) (ts : List Pl) (ps : List Msg3) (w : World) (h : InstP B ib nb ci cn ev pv num seen lift ts ps w) (k : Nat) (hk : k < ts.length) (hts : ts.length ≤ 65536) :
    Calls Try.prog 38 #[.pointer (some ⟨ib, 0, none⟩), .int .i64 k] w fun e w' => e = .returned (.tuple #[.bool (toT (Option.map Prod.snd ts[k])).1, .int .i64 (toT (Option.map Prod.snd ts[k])).2]) ∧ Ext w w' := by
  have h8 : w.cell? ⟨ib, 8, none⟩ = some ev := by rw [h.icell]; exact h.c8
  obtain ⟨g, vc, rfl⟩ : ∃ g vc, ev = .slice (some ⟨g, 0, none⟩) ts.length vc := by
    rcases h.he.2 with ⟨rfl, e⟩ | ⟨g, cap, cur, e, _⟩
    · omega
    · exact ⟨g, cap, e⟩
  have hcell : w.cell? ⟨g, k, none⟩ = some (plv ts[k]) := by
    rw [h.he.cellAt k (by omega), List.getElem?_map, List.getElem?_eq_getElem hk]
    rfl
  have htl : ∀ b rd, ts[k] = some (b, rd) → w.cell? ⟨b, 1, none⟩ = some (.int .i64 rd) := fun b rd e => (h.tl b rd (by rw [← e]; exact List.getElem_mem _)).2.2.2.2.2.2
  have hk' : (k : Int) < ts.length := by omega
  clear h
  generalize ts[k] = t at *
  cases t with
  | none =>
    have hcell' : w.cell? ⟨g, k, none⟩ = some (.pointer none) := hcell
    clear hcell htl
    go_enter Try.func38, Try.ntmps38
    go_wp2_with fail
    go_ret2
    exact ⟨rfl, Ext.refl w⟩
  | some p =>
    obtain ⟨b, rd⟩ := p
    have hcell' : w.cell? ⟨g, k, none⟩ = some (.pointer (some ⟨b, 0, none⟩)) := hcell
    have hrd := htl b rd rfl
    clear hcell htl
    go_enter Try.func38, Try.ntmps38
    go_wp2_with fail
    go_quiet (fail)
    go_wp2_with fail
    go_ret2
    exact ⟨rfl, ext_drewN w _⟩

theorem size95' : (Try.prog.info? 95).map (·.size) = some 21 := by kernel_rfl
def p21 (x : Msg3) : List Value := (pc x).take 21
theorem p21_len (x : Msg3) : (p21 x).length = 21 := by rw [p21, List.length_take, pc_length]; rfl

set_option maxHeartbeats 2000000 in
theorem pendAt_any (B ib nb : Nat) (ci cn : Array Value) (ev pv : Value) (num seen lift : Int) (ts : List Pl) (ps : List Msg3) (w : World) (h : InstP B ib nb ci cn ev pv num seen lift ts ps w) (k : Nat) (hk : k < ps.length) (hps : ps.length ≤ 65536) :
    Calls Try.prog 40 #[.pointer (some ⟨ib, 0, none⟩), .int .i64 k] w fun e w' => e = .returned (.tuple #[.int .u8 ps[k].1, .int .i64 ps[k].2.1, .int .i64 ps[k].2.2]) ∧ Ext w w' := by
  have h0 : w.cell? ⟨ib, 0, none⟩ = some (.pointer (some ⟨nb, 0, none⟩)) := by rw [h.icell]; exact h.c0
  have h14 : w.cell? ⟨nb, 14, none⟩ = some pv := by rw [h.ncell]; exact h.n14
  rcases own_pv h.hp with ⟨rfl, rfl⟩ | ⟨g, cap, rfl, hR, hB, hm⟩
  · simp at hk
  have hk' : (k : Int) < ps.length := by omega
  have hrg : w.rangeAt g (k * 23) (p21 ps[k]) := by
    have := hR.range (j := k) (by simpa using hk)
    have e : ps.toArray[k]! = ps[k] := by rw [getElem!_pos ps.toArray k (by simpa using hk)]; simp
    rw [e] at this
    intro j v hv
    refine this j v ?_
    rw [p21, List.getElem?_take] at hv
    split at hv
    · exact hv
    · cases hv
  clear h hR
  generalize ps[k] = x at *
  have hi : (Try.prog.info? 95).map (·.size) = some (p21 x).length := by rw [p21_len]; exact size95'
  have hia : (Try.prog.info? 95).map (·.size) = some (p21 x).toArray.size := by rw [List.size_toArray]; exact hi
  have hone : (p21 x).toArray.all (·.oneCell') = true := all_oneCell_toArray (fun u hu => pc_one x u (List.mem_of_mem_take hu))
  have hsx : (p21 x).toArray.size = 21 := by rw [List.size_toArray, p21_len]
  have e0 : (w.alloc (.cells (p21 x).toArray 95)).cell? ⟨w.heap.size, 0, none⟩ = some (.int .u8 x.1) := by rw [cell_of_row _ _ 0 _ _ _ (heap_alloc_new w _)]; rfl
  have e4 : (w.alloc (.cells (p21 x).toArray 95)).cell? ⟨w.heap.size, 4, none⟩ = some (.int .i64 x.2.1) := by rw [cell_of_row _ _ 4 _ _ _ (heap_alloc_new w _)]; rfl
  have e7 : (w.alloc (.cells (p21 x).toArray 95)).cell? ⟨w.heap.size, 7, none⟩ = some (.int .i64 x.2.2) := by rw [cell_of_row _ _ 7 _ _ _ (heap_alloc_new w _)]; rfl
  have HX : Hid (Ext w (w.alloc (.cells (p21 x).toArray 95))) := Ext.alloc w _
  go_enter Try.func40, Try.ntmps40
  go_wp2_with first | (refine wpList_load_mid rfl 95 (.tmp 17) rfl g (k * 23) rfl (p21 x) _ hrg Try.underlying95 rfl hi ?_) | (refine store_new _ rfl 95 (.tmp 7) (.tmp 18) rfl _ (p21 x).toArray rfl rfl hia (by rw [hsx]; rfl) hone ?_)
  generalize w.alloc (.cells (p21 x).toArray 95) = w1 at *
  go_quiet (fail)
  go_wp2_with fail
  go_ret3
  exact ⟨rfl, Ext.trans HX.out (ext_drewN w1 _)⟩
end Go.Proofs.Qxb6616238a.Grow
