import Derived.Test.Qxb6616160aRows
import Derived.WalkKit
import Derived.ProofKit
import Derived.OpenShut
import Derived.ShutString
namespace Go.Proofs.Qxb6616160a.fnRoomSpareRenewed
open Go.ChangeShapes Go.WideShapes Go.ChangeAt Go.RowKit
open Go.ChangeMaps (open_string shut_string)
set_option linter.unusedVariables false

theorem own : ownKnob Try.prog.godebug = none := by kernel_rfl

def spareB (m n : Int) : Bool := decide (1024 ≤ m) && decide (n ≤ m / 4)

theorem renew_any (b : Nat) (n x : Int) (w : World) (hc : w.cell? ⟨b, 0, none⟩ = some (.int .i64 x)) (hf : w.frozen? ⟨b, 0, none⟩ = false) :
    Calls Try.prog 23 #[.pointer (some ⟨b, 0, none⟩), .int .i64 n] w fun e w' => e = .returned (.tuple #[]) ∧ w' = w.setCell ⟨b, 0, none⟩ (.int .i64 n) := by
  go_enter Try.func23, Try.ntmps23
  go_wp2
  go_end0
  exact ⟨rfl, rfl⟩

theorem renewed_any (n : Int) (w : World) :
    Calls Try.prog 6 #[.int .i64 n] w fun e w' => e = .returned (.agg #[.int .i64 n]) ∧ w' = (w.alloc (.cells #[.int .i64 n] 23)).alloc (.cells #[.int .i64 n] 23) := by
  go_enter Try.func6, Try.ntmps6
  go_wp2_with (go_at_call 23; refine (renew_any _ _ 0 _ ?_ ?_).mono ?_; (simp); (simp); rintro e w' ⟨rfl, rfl⟩)
  exact bodyPost_ret (v := .agg #[.int .i64 n]) (by simp [results, Try.results6, go_sem]) rfl ⟨rfl, rfl⟩

theorem spare_any (m n : Int) (w : World) (h0 : 0 ≤ m) (h1 : m ≤ 9223372036854775807) :
    Calls Try.prog 24 #[.agg #[.int .i64 m], .int .i64 n] w fun e w' => e = .returned (.bool (spareB m n)) ∧ w' = w.alloc (.cells #[.int .i64 m] 23) := by
  by_cases c2 : 1024 ≤ m
  · by_cases c4 : n ≤ m / 4
    · have hb : spareB m n = true := by simp [spareB, c2, c4]
      rw [hb]; clear hb
      go_enter Try.func24, Try.ntmps24
      go_wp2
      go_ret
      exact ⟨rfl, rfl⟩
    · have hb : spareB m n = false := by simp [spareB, c2, c4]
      rw [hb]; clear hb
      go_enter Try.func24, Try.ntmps24
      go_wp2
      go_ret
      exact ⟨rfl, rfl⟩
  · have hb : spareB m n = false := by simp [spareB, c2]
    rw [hb]; clear hb
    go_enter Try.func24, Try.ntmps24
    go_wp2
    go_ret
    exact ⟨rfl, rfl⟩

theorem zzspare_any (m n : Int) (w : World) (h0 : 0 ≤ m) (h1 : m ≤ 9223372036854775807) :
    Calls Try.prog 7 #[.agg #[.int .i64 m], .int .i64 n] w fun e w' => e = .returned (.bool (spareB m n)) ∧ w' = (w.alloc (.cells #[.int .i64 m] 23)).alloc (.cells #[.int .i64 m] 23) := by
  go_enter Try.func7, Try.ntmps7
  go_wp2_with (go_at_call 24; refine (spare_any _ _ _ h0 h1).mono ?_; rintro e w' ⟨rfl, rfl⟩)
  go_ret
  exact ⟨rfl, rfl⟩

theorem model_any (m n : Int) (w : World) (h0 : 0 ≤ m) (h1 : m ≤ 9223372036854775807) (h2 : 0 ≤ n) (h3 : n ≤ 9223372036854775807) :
    Calls Try.prog 8 #[.int .i64 m, .int .i64 n] w fun e w' => e = .returned (.bool (spareB m n)) ∧ w' = w := by
  by_cases c2 : m < 1024
  · have hb : spareB m n = false := by simp [spareB]; omega
    rw [hb]; clear hb
    go_enter Try.func8, Try.ntmps8
    go_wp2
    go_ret
    exact ⟨rfl, rfl⟩
  by_cases c3 : m < n
  · have hb : spareB m n = false := by simp [spareB]; omega
    rw [hb]; clear hb
    go_enter Try.func8, Try.ntmps8
    go_wp2
    go_ret
    exact ⟨rfl, rfl⟩
  by_cases c4 : n ≤ (m - n) / 3
  · have hb : spareB m n = true := by simp [spareB]; omega
    rw [hb]; clear hb
    go_enter Try.func8, Try.ntmps8
    go_wp2
    go_ret
    exact ⟨rfl, rfl⟩
  · have hb : spareB m n = false := by simp [spareB]; omega
    rw [hb]; clear hb
    go_enter Try.func8, Try.ntmps8
    go_wp2
    go_ret
    exact ⟨rfl, rfl⟩

theorem spareB_self (m : Int) (h : 0 ≤ m) : spareB m m = false := by simp [spareB]; omega

theorem walk (a0 : Int) (a1 : Int) (w0 : (Lit.int .i64 a0).wf = true) (w1 : (Lit.int .i64 a1).wf = true) (w : World) :
    Calls Try.prog 3 #[.int .i64 a0, .int .i64 a1] w fun e w' => e = .returned (.bool true) ∧ Grown w w' := by
  obtain ⟨ha0, ha0'⟩ := bounds_i64 w0
  obtain ⟨ha1, ha1'⟩ := bounds_i64 w1
  clear w0 w1
  by_cases c0 : a0 < 0
  · go_enter Try.func3, Try.ntmps3
    go_wp2
    go_ret
    exact ⟨rfl, by repeat (first | exact Grown.refl _ | apply Grown.drew | apply Grown.alloc)⟩
  by_cases c1 : a1 < 0
  · go_enter Try.func3, Try.ntmps3
    go_wp2
    go_ret
    exact ⟨rfl, by repeat (first | exact Grown.refl _ | apply Grown.drew | apply Grown.alloc)⟩
  have hself := spareB_self a0 (by omega)
  go_enter Try.func3, Try.ntmps3
  go_wp2_with (first
    | (go_at_call 6; refine (renewed_any _ _).mono ?_; rintro e w' ⟨rfl, rfl⟩)
    | (go_at_call 7; refine (zzspare_any _ _ _ (by omega) (by omega)).mono ?_; rintro e w' ⟨rfl, rfl⟩)
    | (go_at_call 8; refine (model_any _ _ _ (by omega) (by omega) (by omega) (by omega)).mono ?_; rintro e w' ⟨rfl, rfl⟩))
  go_ret
  exact ⟨rfl, by repeat (first | exact Grown.refl _ | apply Grown.drew | apply Grown.alloc)⟩

set_option maxRecDepth 100000 in
theorem lifted (os : Os) (started : os.Started) (H : Type) (enc : TypeId × Value → H) :
    ReturnsInHanded {} Try.checked os 3 .any (Rows.fnRoomSpareRenewedSpec.pre6 enc Try.prog Try.f3 Rows.fnRoomSpareRenewedRow.domain false) (Rows.fnRoomSpareRenewedSpec.post enc Try.prog Try.f3 false true false false) := by
  refine returnsInHanded_of_change (C := Try.checked) own started (by kernel_rfl) Try.func3
    (ChangeSpec.witness6 (enc := enc) (C := Try.checked) false ⟨#[], #[.int .i64 0, .int .i64 0], []⟩ 8 (by kernel_rfl) (by kernel_rfl) (by kernel_rfl) (by kernel_rfl)) ?_
  intro W base args ds gs before hval0 hW hcnd _
  have hval : ∀ (j : Nat) t v, Try.f3.params[j]? = some t → args[j]? = some v → Value.okWide Try.prog W .any base t v := hval0
  have hW' := hW
  obtain ⟨p, q, hA0, hV, rfl, hfz, hnd⟩ := hW
  have hA : DataW.TrodAll enc Try.prog W 0 (fun _ => true) true Try.f3.params.toList args.toList ds p := hA0
  rw [Try.params3] at hA hval
  obtain ⟨v0, vs0, d0, ds0, p0, q0, hargs, rfl, rfl, h0, r0⟩ := trodAll_cons hA
  obtain ⟨v1, vs1, d1, ds1, p1, q1, rfl, rfl, rfl, h1, r1⟩ := trodAll_cons r0
  obtain ⟨rfl, rfl, rfl⟩ := trodAll_nil r1
  obtain rfl : args = #[v0, v1] := by cases args; simp_all
  obtain ⟨rfl, rfl⟩ := trodVars_none hV
  obtain ⟨a0, rfl, rfl, rfl, w0⟩ := open_int Try.underlying3 (hval 0 3 v0 rfl rfl) h0
  obtain ⟨a1, rfl, rfl, rfl, w1⟩ := open_int Try.underlying3 (hval 1 3 v1 rfl rfl) h1
  clear hA0 hval0
  simp only [List.append_nil] at hW'
  refine (walk a0 a1 w0 w1 W).mono fun e W' ⟨he, hg⟩ => ?_
  subst he
  exact ⟨_, rfl, post_of_same (pa := []) (pv := []) hW' (fun _ _ _ => (trodAll_cons_mk (shut_bool Try.underlying4 _) trodAll_mk0)) (fun sp _ => (trodAll_cons_mk (shut_int Try.underlying3 w0) (trodAll_cons_mk (shut_int Try.underlying3 w1) trodAll_mk0))) (fun _ _ => rfl) rfl
    (hg.frame _) hg.2.1 (ok_one (by kernel_rfl) rfl (okWide_bool_mk Try.underlying4 _))⟩

theorem over : Rows.fnRoomSpareRenewedRow.holds Try.pinned (OpenSpec.ofChange Rows.fnRoomSpareRenewedSpec) :=
  OpenClaim.holds_of_wide 3 Try.f3 rfl rfl rfl rfl rfl rfl rfl ⟨rfl, rfl, rfl, rfl, rfl⟩ rfl rfl rfl rfl rfl (by kernel_rfl) Try.func3 (by kernel_rfl)
    (of_decide_eq_true (by kernel_rfl)) (by unfold Func.isWrapper; first | (rw [if_pos (by decide +kernel)]; kernel_rfl) | (rw [if_neg (by decide +kernel)]; exact ⟨rfl, rfl⟩))
    (fun os started H enc _ => lifted os started H enc)

theorem proved : Rows.FnRoomSpareRenewedSaid :=
  over
end Go.Proofs.Qxb6616160a.fnRoomSpareRenewed

namespace Go.Proofs.Qxb6616160a
theorem fnRoomSpareRenewed_proved : Rows.FnRoomSpareRenewedSaid := fnRoomSpareRenewed.proved
end Go.Proofs.Qxb6616160a
