import Derived.Test.Qxb6616160aRows
import Derived.Test.Qxb6616160aPlain
import Derived.WalkKit
import Derived.ProofKit
import Derived.OpenShut
import Derived.RegionTactic
import Derived.Deep.QuietTactic
import Derived.BigQuiet
import Derived.BigRegion
import Derived.Deep.AppendLies
namespace Go.Proofs.Qxb6616160a.Tick
set_option linter.unusedVariables false
open Go.ChangeShapes Go.WideShapes Go.ChangeAt Go.RowKit

/-! ### Small laws on worlds -/
theorem cell_alloc_old (w : World) (o : Obj) (a : Addr) (h : a.block < w.heap.size) : (w.alloc o).cell? a = w.cell? a := World.cell?_of_block (Below.heap_alloc w o a.block h)
theorem frozen_alloc_old (w : World) (o : Obj) (a : Addr) (h : a.block < w.heap.size) : (w.alloc o).frozen? a = w.frozen? a := World.frozen?_of_block (Below.heap_alloc w o a.block h)
theorem cell_set_other (w : World) (a b : Addr) (v : Value) (h : b.block ≠ a.block) : (w.setCell a v).cell? b = w.cell? b := World.cell?_of_block (Below.heap_setCell w a v b.block h)
theorem frozen_set_other (w : World) (a b : Addr) (v : Value) (h : b.block ≠ a.block) : (w.setCell a v).frozen? b = w.frozen? b := World.frozen?_of_block (Below.heap_setCell w a v b.block h)
theorem size_set (w : World) (a : Addr) (v : Value) : (w.setCell a v).heap.size = w.heap.size := by simp [World.setCell]

/-! ### The methods of *clientHeap by name -/
theorem m_push (v : Value) (w : World) : (method 196 65 v "Push").run Try.prog w = .ok (61, v) w := by kernel_rfl
theorem m_pop (v : Value) (w : World) : (method 196 65 v "Pop").run Try.prog w = .ok (60, v) w := by kernel_rfl
theorem m_len0 (a : Addr) (w : World) : (method 196 65 (.pointer (some a)) "Len").run Try.prog w = ((loadVar 54 a).bind fun v => .pure (55, v)).run Try.prog w := by kernel_rfl
theorem m_less0 (a : Addr) (w : World) : (method 196 65 (.pointer (some a)) "Less").run Try.prog w = ((loadVar 54 a).bind fun v => .pure (56, v)).run Try.prog w := by kernel_rfl
theorem m_swap0 (a : Addr) (w : World) : (method 196 65 (.pointer (some a)) "Swap").run Try.prog w = ((loadVar 54 a).bind fun v => .pure (57, v)).run Try.prog w := by kernel_rfl
theorem load54 (a : Addr) (s : Value) (w : World) (h : w.cell? a = some s) : (loadVar 54 a).run Try.prog w = .ok s w := by
  simp [loadVar, go_sem, h]
theorem m_len (a : Addr) (s : Value) (w : World) (h : w.cell? a = some s) : (method 196 65 (.pointer (some a)) "Len").run Try.prog w = .ok (55, s) w := by
  rw [m_len0, show (loadVar 54 a).bind (fun v => Sem.pure (55, v)) = (loadVar 54 a >>= fun v => Sem.pure (55, v)) from rfl, Sem.run_bind, load54 a s w h]; rfl
theorem m_less (a : Addr) (s : Value) (w : World) (h : w.cell? a = some s) : (method 196 65 (.pointer (some a)) "Less").run Try.prog w = .ok (56, s) w := by
  rw [m_less0, show (loadVar 54 a).bind (fun v => Sem.pure (56, v)) = (loadVar 54 a >>= fun v => Sem.pure (56, v)) from rfl, Sem.run_bind, load54 a s w h]; rfl
theorem m_swap (a : Addr) (s : Value) (w : World) (h : w.cell? a = some s) : (method 196 65 (.pointer (some a)) "Swap").run Try.prog w = .ok (57, s) w := by
  rw [m_swap0, show (loadVar 54 a).bind (fun v => Sem.pure (57, v)) = (loadVar 54 a >>= fun v => Sem.pure (57, v)) from rfl, Sem.run_bind, load54 a s w h]; rfl

/-! ### Leaf walks over bare cells -/
theorem len_raw (a : Option Addr) (n c : Nat) (w : World) :
    Calls Try.prog 55 #[.slice a n c] w fun e w' => e = .returned (.int .i64 n) ∧ w' = w := by
  go_enter Try.func55, Try.ntmps55
  go_wp2
  go_ret
  exact ⟨rfl, rfl⟩

theorem less_raw (hb n cap i j ci cj : Nat) (li lj : Int) (w : World) (hi : i < n) (hj : j < n) (hn : n ≤ 1000000)
    (h1 : w.cell? ⟨hb, i, none⟩ = some (.pointer (some ⟨ci, 0, none⟩)))
    (h2 : w.cell? ⟨hb, j, none⟩ = some (.pointer (some ⟨cj, 0, none⟩)))
    (h3 : w.cell? ⟨ci, 6, none⟩ = some (.int .u64 li))
    (h4 : w.cell? ⟨cj, 6, none⟩ = some (.int .u64 lj)) :
    Calls Try.prog 56 #[.slice (some ⟨hb, 0, none⟩) n cap, .int .i64 i, .int .i64 j] w fun e w' => e = .returned (.bool (decide (li < lj))) ∧ ∃ n, w' = w.drewN n := by
  have hi' : (i : Int) < n := by omega
  have hj' : (j : Int) < n := by omega
  go_enter Try.func56, Try.ntmps56
  go_wp2
  go_quiet (fail)
  go_wp2
  go_ret
  exact ⟨rfl, _, rfl⟩

theorem swap_raw (hb n cap i j ci cj : Nat) (xi xj : Value) (w : World) (hi : i < n) (hj : j < n) (hn : n ≤ 1000000) (hij : i ≠ j)
    (hbi : hb ≠ ci) (hbj : hb ≠ cj) (hcc : ci ≠ cj)
    (h1 : w.cell? ⟨hb, i, none⟩ = some (.pointer (some ⟨ci, 0, none⟩)))
    (h2 : w.cell? ⟨hb, j, none⟩ = some (.pointer (some ⟨cj, 0, none⟩)))
    (h3 : w.cell? ⟨ci, 7, none⟩ = some xi)
    (h4 : w.cell? ⟨cj, 7, none⟩ = some xj)
    (f1 : w.frozen? ⟨hb, i, none⟩ = false) (f2 : w.frozen? ⟨hb, j, none⟩ = false) (f3 : w.frozen? ⟨ci, 7, none⟩ = false) (f4 : w.frozen? ⟨cj, 7, none⟩ = false) :
    Calls Try.prog 57 #[.slice (some ⟨hb, 0, none⟩) n cap, .int .i64 i, .int .i64 j] w fun e w' => e = .returned (.tuple #[]) ∧
      ∃ m, w' = (((((w.setCell ⟨hb, i, none⟩ (.pointer (some ⟨cj, 0, none⟩))).setCell ⟨hb, j, none⟩ (.pointer (some ⟨ci, 0, none⟩))).setCell ⟨cj, 7, none⟩ (.int .i64 i)).setCell ⟨ci, 7, none⟩ (.int .i64 j))).drewN m := by
  have hi' : (i : Int) < n := by omega
  have hj' : (j : Int) < n := by omega
  have hji : j ≠ i := Ne.symm hij
  have hib : ci ≠ hb := Ne.symm hbi
  have hjb : cj ≠ hb := Ne.symm hbj
  have hcc' : cj ≠ ci := Ne.symm hcc
  go_enter Try.func57, Try.ntmps57
  go_wp2
  go_region
  go_wp2
  go_region
  go_wp2
  go_end0
  exact ⟨rfl, 2, rfl⟩

theorem swap_same (hb n cap i ci : Nat) (xi : Value) (w : World) (hi : i < n) (hn : n ≤ 1000000)
    (hbi : hb ≠ ci)
    (h1 : w.cell? ⟨hb, i, none⟩ = some (.pointer (some ⟨ci, 0, none⟩)))
    (h3 : w.cell? ⟨ci, 7, none⟩ = some xi)
    (f1 : w.frozen? ⟨hb, i, none⟩ = false) (f3 : w.frozen? ⟨ci, 7, none⟩ = false) :
    Calls Try.prog 57 #[.slice (some ⟨hb, 0, none⟩) n cap, .int .i64 i, .int .i64 i] w fun e w' => e = .returned (.tuple #[]) ∧
      ∃ m, w' = ((((w.setCell ⟨hb, i, none⟩ (.pointer (some ⟨ci, 0, none⟩))).setCell ⟨hb, i, none⟩ (.pointer (some ⟨ci, 0, none⟩))).setCell ⟨ci, 7, none⟩ (.int .i64 i)).setCell ⟨ci, 7, none⟩ (.int .i64 i)).drewN m := by
  have hi' : (i : Int) < n := by omega
  have hib : ci ≠ hb := Ne.symm hbi
  go_enter Try.func57, Try.ntmps57
  go_wp2
  go_region
  go_wp2
  go_region
  go_wp2
  go_end0
  exact ⟨rfl, 2, rfl⟩

theorem hpop_raw (tb hb n cap cn : Nat) (w : World) (hn : n + 1 ≤ 1000000) (hbt : hb ≠ tb) (hcap : n + 1 ≤ cap) 
    (h0 : w.cell? ⟨tb, 2, none⟩ = some (.slice (some ⟨hb, 0, none⟩) (n + 1) cap))
    (h1 : w.cell? ⟨hb, n, none⟩ = some (.pointer (some ⟨cn, 0, none⟩)))
    (f0 : w.frozen? ⟨tb, 2, none⟩ = false) (f1 : w.frozen? ⟨hb, n, none⟩ = false) :
    Calls Try.prog 60 #[.pointer (some ⟨tb, 2, none⟩)] w fun e w' => e = .returned (.iface 62 (.pointer (some ⟨cn, 0, none⟩))) ∧
      w' = (w.setCell ⟨hb, n, none⟩ (.pointer none)).setCell ⟨tb, 2, none⟩ (.slice (some ⟨hb, 0, none⟩) n cap) := by
  have htb : tb ≠ hb := Ne.symm hbt
  go_enter Try.func60, Try.ntmps60
  go_wp2
  go_ret
  exact ⟨rfl, rfl⟩

theorem assert62 (v : Value) (w : World) : (Instr.typeAssert (.iface 62 v) 20 62 false).run Try.prog w = .ok v w := by kernel_rfl
theorem info62 : (Try.prog.info? 62).map (fun i => (i.zero, i.size, i.bytes)) = some (some (.pointer none), 1, 8) := by kernel_rfl

theorem hpush_raw (B tb cb n : Nat) (s : Value) (xs : List Value) (a : Option Addr) (c : Nat) (hs : s = .slice a n c) (x : Value) (w : World) (hn : n + 1 ≤ 1000000)
    (hct : cb ≠ tb) (hB : B ≤ w.heap.size) (hbt : tb < w.heap.size) (hst : s.ownBlock ≠ some tb)
    (h0 : w.cell? ⟨tb, 2, none⟩ = some s) (h1 : w.cell? ⟨cb, 7, none⟩ = some x)
    (f0 : w.frozen? ⟨tb, 2, none⟩ = false) (f1 : w.frozen? ⟨cb, 7, none⟩ = false)
    (hown : (w.setCell ⟨cb, 7, none⟩ (.int .i64 n)).ownsRow B 62 1 s n xs) :
    Calls Try.prog 61 #[.pointer (some ⟨tb, 2, none⟩), .iface 62 (.pointer (some ⟨cb, 0, none⟩))] w fun e w' => e = .returned (.tuple #[]) ∧
      ∃ g cap w1, w1.ownsRow B 62 1 (.slice (some ⟨g, 0, none⟩) (n + 1) cap) (n + 1) (xs ++ [.pointer (some ⟨cb, 0, none⟩)]) ∧
        ((w.setCell ⟨cb, 7, none⟩ (.int .i64 n)).alloc (.cells #[.pointer (some ⟨cb, 0, none⟩)] 62)).grownBy w1 s.ownBlock ∧
        (s.ownBlock = some g ∨ g = w.heap.size + 1) ∧ w' = w1.setCell ⟨tb, 2, none⟩ (.slice (some ⟨g, 0, none⟩) (n + 1) cap) := by
  subst hs
  obtain ⟨i0, hi, hz0, hz1, hz2⟩ := info_parts info62
  have htc : tb ≠ cb := Ne.symm hct
  have hta := assert62 (.pointer (some ⟨cb, 0, none⟩)) w
  go_enter Try.func61, Try.ntmps61
  go_wp2_with (at_builtin; refine wpList_append_lies _ rfl (.tmp 17) (.tmp 19) 54 rfl B 62 i0 (.pointer none) 1 8 Try.underlying54 hi hz0 hz1 hz2 rfl (by omega) _ n xs rfl (hown.alloc _) ⟨w.heap.size, 0, none⟩ 1 1 [.pointer (some ⟨cb, 0, none⟩)] rfl rfl ?c1 ?c2 (by omega) ?c3 ?c4 ?c5 (w.heap.size + 1) (by simp) ?_)
  case c1 =>
    have hh := heap_alloc_new (w.setCell ⟨cb, 7, none⟩ (.int .i64 n)) (.cells #[.pointer (some ⟨cb, 0, none⟩)] 62)
    rw [size_set] at hh
    exact World.news_of_block hh
  case c2 => intro u hu; simp at hu; subst hu; rfl
  case c3 => unfold maxLen; omega
  case c4 => omega
  case c5 => simp; omega
  · intro g cap w1 hown1 hgrow hat hlt
    have hc1 : w1.cell? ⟨tb, 2, none⟩ = some (.slice a n c) := by
      rw [hgrow.cell_far _ (by simp; omega) (fun h => hst h.symm), cell_alloc_old _ _ _ (by rw [size_set]; exact hbt), cell_set_other _ _ _ _ htc]; exact h0
    have hf1 : w1.frozen? ⟨tb, 2, none⟩ = false := by
      rw [hgrow.frozen_far _ (by simp; omega) (fun h => hst h.symm), frozen_alloc_old _ _ _ (by rw [size_set]; exact hbt), frozen_set_other _ _ _ _ htc]; exact f0
    have HG : Hid (((w.setCell ⟨cb, 7, none⟩ (.int .i64 n)).alloc (.cells #[.pointer (some ⟨cb, 0, none⟩)] 62)).grownBy w1 (Value.slice a n c).ownBlock) := hgrow
    have HA : Hid ((Value.slice a n c).ownBlock = some g ∨ g = w.heap.size + 1) := hat
    have HO : Hid (w1.ownsRow B 62 1 (.slice (some ⟨g, 0, none⟩) (n + 1) cap) (n + 1) (xs ++ [.pointer (some ⟨cb, 0, none⟩)])) := hown1
    clear hown1 hgrow hat hlt hown h0 h1 f0 f1 hst
    go_wp2
    go_end0
    exact ⟨rfl, g, cap, w1, HO.out, HG.out, HA.out, rfl⟩
end Go.Proofs.Qxb6616160a.Tick
