import Derived.Test.Qxb6616238aRows
import Derived.WalkKit
import Derived.ProofKit
import Derived.OpenShut
import Derived.ShutString
namespace Go.Proofs.Qxb6616238a.fnMaxSizeOneByteEveryEightNodes
open Go.ChangeShapes Go.WideShapes Go.ChangeAt Go.RowKit
open Go.ChangeMaps (open_string shut_string)
set_option linter.unusedVariables false

theorem own : ownKnob Try.prog.godebug = none := by kernel_rfl

theorem votersSize_any (n : Int) (w : World) (h0 : 0 ≤ n) (h1 : n ≤ 1000000) :
    Calls Try.prog 30 #[.int .i64 n] w fun e w' => e = .returned (.int .i64 ((n + 7) / 8)) ∧ w' = w := by
  go_enter Try.func30, Try.ntmps30
  go_wp2
  go_ret
  exact ⟨rfl, rfl⟩

def maxSize (n : Int) : Int := 48 + (n + 7) / 8 + 1024
theorem maxSize_any (n : Int) (w : World) (h0 : 0 ≤ n) (h1 : n ≤ 1000000) :
    Calls Try.prog 9 #[.int .i64 n] w fun e w' => e = .returned (.int .i64 (maxSize n)) ∧ w' = w := by
  have hd : 0 ≤ (n + 7) / 8 ∧ (n + 7) / 8 ≤ 1000000 := by omega
  go_enter Try.func9, Try.ntmps9
  go_wp2_with (go_at_call 30; refine (votersSize_any _ _ (by omega) (by omega)).mono ?_; rintro e w' ⟨rfl, rfl⟩)
  go_ret
  exact ⟨rfl, rfl⟩
theorem maxSize_bd (n : Int) (h0 : 0 ≤ n) (h1 : n ≤ 1000000) : 0 ≤ maxSize n ∧ maxSize n ≤ 2000000 := by unfold maxSize; omega

theorem walk (a0 : Int) (a1 : Int) (w0 : (Lit.int .i64 a0).wf = true) (w1 : (Lit.int .i64 a1).wf = true) (w : World) :
    Calls Try.prog 3 #[.int .i64 a0, .int .i64 a1] w fun e w' => e = .returned (.bool true) ∧ Grown w w' := by
  obtain ⟨ha0, ha0'⟩ := bounds_i64 w0
  obtain ⟨ha1, ha1'⟩ := bounds_i64 w1
  clear w0 w1
  by_cases c0 : a0 < 0
  · go_enter Try.func3, Try.ntmps3
    go_wp2
    go_ret
    exact ⟨rfl, Grown.refl _⟩
  by_cases c1 : 1024 < a0
  · go_enter Try.func3, Try.ntmps3
    go_wp2
    go_ret
    exact ⟨rfl, Grown.refl _⟩
  by_cases c2 : a1 < 0
  · go_enter Try.func3, Try.ntmps3
    go_wp2
    go_ret
    exact ⟨rfl, Grown.refl _⟩
  by_cases c3 : (1024 - a0) / 8 < a1
  · go_enter Try.func3, Try.ntmps3
    go_wp2
    go_ret
    exact ⟨rfl, Grown.refl _⟩
  have b1 := maxSize_bd a0 (by omega) (by omega)
  have b2 := maxSize_bd 0 (by omega) (by omega)
  have b3 := maxSize_bd (a0 + 8 * a1) (by omega) (by omega)
  have e1 : (maxSize (a0 + 8 * a1) - maxSize a0 == a1) = true := by
    rw [beq_iff_eq]; unfold maxSize; omega
  have e2 : a0 ≤ 8 * (maxSize a0 - maxSize 0) := by unfold maxSize; omega
  have e3 : 8 * (maxSize a0 - maxSize 0 - 1) < a0 := by unfold maxSize; omega
  go_enter Try.func3, Try.ntmps3
  go_wp2_with (go_at_call 9; refine (maxSize_any _ _ (by omega) (by omega)).mono ?_; rintro e w' ⟨rfl, rfl⟩)
  go_ret
  exact ⟨rfl, Grown.refl _⟩

set_option maxRecDepth 100000 in
theorem lifted (os : Os) (started : os.Started) (H : Type) (enc : TypeId × Value → H) :
    ReturnsInHanded {} Try.checked os 3 .any (Rows.fnMaxSizeOneByteEveryEightNodesSpec.pre6 enc Try.prog Try.f3 Rows.fnMaxSizeOneByteEveryEightNodesRow.domain false) (Rows.fnMaxSizeOneByteEveryEightNodesSpec.post enc Try.prog Try.f3 false true false false) := by
  refine returnsInHanded_of_change (C := Try.checked) own started (by kernel_rfl) Try.func3
    (ChangeSpec.witness6 (enc := enc) (C := Try.checked) false ⟨#[], #[.int .i64 0, .int .i64 0], []⟩ 8 (by kernel_rfl) (by kernel_rfl) (by kernel_rfl) (by kernel_rfl)) ?_
  intro W base args ds gs before hval0 hW hcnd _
  have hval : ∀ (j : Nat) t v, Try.f3.params[j]? = some t → args[j]? = some v → Value.okWide Try.prog W .any base t v := hval0
  have hW' := hW
  obtain ⟨p, q, hA0, hV, rfl, hfz, hnd⟩ := hW
  have hA : DataW.TrodAll enc Try.prog W 0 (fun _ => true) true Try.f3.params.toList args.toList ds p := hA0
  rw [Try.params3] at hA hval
  obtain ⟨v0, vs0, d0, ds0, p0, q0, hargs, rfl, rfl, h0, r0⟩ := trodAll_cons hA
  obtain ⟨v1, vs1, d1, ds1, p1, q1, rfl, rfl, rfl, h1, r1⟩ := trodAll_cons r0
  obtain ⟨rfl, rfl, rfl⟩ := trodAll_nil r1
  obtain rfl : args = #[v0, v1] := by cases args; simp_all
  obtain ⟨rfl, rfl⟩ := trodVars_none hV
  obtain ⟨a0, rfl, rfl, rfl, w0⟩ := open_int Try.underlying3 (hval 0 3 v0 rfl rfl) h0
  obtain ⟨a1, rfl, rfl, rfl, w1⟩ := open_int Try.underlying3 (hval 1 3 v1 rfl rfl) h1
  clear hA0 hval0
  simp only [List.append_nil] at hW'
  refine (walk a0 a1 w0 w1 W).mono fun e W' ⟨he, hg⟩ => ?_
  subst he
  exact ⟨_, rfl, post_of_same (pa := []) (pv := []) hW' (fun _ _ _ => (trodAll_cons_mk (shut_bool Try.underlying4 _) trodAll_mk0)) (fun sp _ => (trodAll_cons_mk (shut_int Try.underlying3 w0) (trodAll_cons_mk (shut_int Try.underlying3 w1) trodAll_mk0))) (fun _ _ => rfl) rfl
    (hg.frame _) hg.2.1 (ok_one (by kernel_rfl) rfl (okWide_bool_mk Try.underlying4 _))⟩

theorem over : Rows.fnMaxSizeOneByteEveryEightNodesRow.holds Try.pinned (OpenSpec.ofChange Rows.fnMaxSizeOneByteEveryEightNodesSpec) :=
  OpenClaim.holds_of_wide 3 Try.f3 rfl rfl rfl rfl rfl rfl rfl ⟨rfl, rfl, rfl, rfl, rfl⟩ rfl rfl rfl rfl rfl (by kernel_rfl) Try.func3 (by kernel_rfl)
    (of_decide_eq_true (by kernel_rfl)) (by unfold Func.isWrapper; first | (rw [if_pos (by decide +kernel)]; kernel_rfl) | (rw [if_neg (by decide +kernel)]; exact ⟨rfl, rfl⟩))
    (fun os started H enc _ => lifted os started H enc)

theorem proved : Rows.FnMaxSizeOneByteEveryEightNodesSaid :=
  over
end Go.Proofs.Qxb6616238a.fnMaxSizeOneByteEveryEightNodes

namespace Go.Proofs.Qxb6616238a
theorem fnMaxSizeOneByteEveryEightNodes_proved : Rows.FnMaxSizeOneByteEveryEightNodesSaid := fnMaxSizeOneByteEveryEightNodes.proved
end Go.Proofs.Qxb6616238a
