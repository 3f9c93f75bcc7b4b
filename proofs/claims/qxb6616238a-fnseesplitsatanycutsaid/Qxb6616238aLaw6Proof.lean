import Derived.Test.Qxb6616238aLaw6W
import Derived.Test.Qxb6616238aOpenS
import Derived.Below
namespace Go.Proofs.Qxb6616238a.Grow
open Go.ChangeShapes Go.WideShapes Go.ChangeAt Go.RowKit
open Go.ChangeMaps (open_string shut_string)
set_option linter.unusedVariables false

set_option maxRecDepth 100000 in
theorem lifted6 (os : Os) (started : os.Started) (H : Type) (enc : TypeId × Value → H) :
    ReturnsInHanded {} Try.checked os 6 .any (Rows.fnSeeSplitsAtAnyCutSpec.pre6 enc Try.prog Try.f6 Rows.fnSeeSplitsAtAnyCutRow.domain false) (Rows.fnSeeSplitsAtAnyCutSpec.post enc Try.prog Try.f6 false true false false) := by
  refine returnsInHanded_of_change (C := Try.checked) ownS started (by kernel_rfl) Try.func6
    (ChangeSpec.witness6 (enc := enc) (C := Try.checked) false ⟨#[], #[.int .i64 0, .int .i64 0, .int .i64 0, .int .i64 0, .slice none 0 0, .slice none 0 0, .int .i64 0, .int .i64 0], []⟩ 8 (by kernel_rfl) (by kernel_rfl) (by kernel_rfl) (by kernel_rfl)) ?_
  intro W base args ds gs before hval0 hW hcnd _
  have hval : ∀ (j : Nat) t v, Try.f6.params[j]? = some t → args[j]? = some v → Value.okWide Try.prog W .any base t v := hval0
  have hW' := hW
  obtain ⟨p, q, hA0, hV, rfl, hfz, hnd⟩ := hW
  have hA : DataW.TrodAll enc Try.prog W 0 (fun _ => true) true Try.f6.params.toList args.toList ds p := hA0
  rw [Try.params6] at hA hval
  obtain ⟨v0, vs0, d0, ds0, p0, q0, hargs, rfl, rfl, h0, r0⟩ := trodAll_cons hA
  obtain ⟨v1, vs1, d1, ds1, p1, q1, rfl, rfl, rfl, h1, r1⟩ := trodAll_cons r0
  obtain ⟨v2, vs2, d2, ds2, p2, q2, rfl, rfl, rfl, h2, r2⟩ := trodAll_cons r1
  obtain ⟨v3, vs3, d3, ds3, p3, q3, rfl, rfl, rfl, h3, r3⟩ := trodAll_cons r2
  obtain ⟨v4, vs4, d4, ds4, p4, q4, rfl, rfl, rfl, h4, r4⟩ := trodAll_cons r3
  obtain ⟨v5, vs5, d5, ds5, p5, q5, rfl, rfl, rfl, h5, r5⟩ := trodAll_cons r4
  obtain ⟨v6, vs6, d6, ds6, p6, q6, rfl, rfl, rfl, h6, r6⟩ := trodAll_cons r5
  obtain ⟨v7, vs7, d7, ds7, p7, q7, rfl, rfl, rfl, h7, r7⟩ := trodAll_cons r6
  obtain ⟨rfl, rfl, rfl⟩ := trodAll_nil r7
  obtain rfl : args = #[v0, v1, v2, v3, v4, v5, v6, v7] := by cases args; simp_all
  obtain ⟨rfl, rfl⟩ := trodVars_none hV
  obtain ⟨a0, rfl, rfl, rfl, w0⟩ := open_int Try.underlying3 (hval 0 3 v0 rfl rfl) h0
  obtain ⟨a1, rfl, rfl, rfl, w1⟩ := open_int Try.underlying3 (hval 1 3 v1 rfl rfl) h1
  obtain ⟨a2, rfl, rfl, rfl, w2⟩ := open_int Try.underlying3 (hval 2 3 v2 rfl rfl) h2
  have b2 := bounds_i64 w2
  obtain ⟨a3, rfl, rfl, rfl, w3⟩ := open_int Try.underlying3 (hval 3 3 v3 rfl rfl) h3
  obtain ⟨a4, len4, cap4, rfl⟩ := okWide_slice Try.underlying29 (hval 4 29 v4 rfl rfl)
  have k4 := h4
  have lt4 : ∀ x ∈ p4, x.block < W.heap.size := by obtain ⟨m, hm⟩ := k4; exact DataW.trod_lt m _ _ _ hm
  obtain ⟨es, hel, hT, hc4, hm4, _, _⟩ : ∃ es : List (Bool × Int), es.length = len4 ∧ TRow W a4 es ∧ len4 ≤ cap4 ∧ cap4 ≤ 9223372036854775807 ∧ (a4 = none → cap4 = 0) ∧ ∀ ad, a4 = some ad → 0 < cap4 → ad.spot = none := by
    obtain ⟨fuel, hf⟩ := h4
    exact open_T hf
  subst hel
  obtain ⟨a5, len5, cap5, rfl⟩ := okWide_slice Try.underlying30 (hval 5 30 v5 rfl rfl)
  have k5 := h5
  have lt5 : ∀ x ∈ p5, x.block < W.heap.size := by obtain ⟨m, hm⟩ := k5; exact DataW.trod_lt m _ _ _ hm
  obtain ⟨ps, hpl, hP, hc5, hm5, _, _⟩ : ∃ ps : List (Int × Int × Int), ps.length = len5 ∧ PRow W a5 ps ∧ len5 ≤ cap5 ∧ cap5 ≤ 9223372036854775807 ∧ (a5 = none → cap5 = 0) ∧ ∀ ad, a5 = some ad → 0 < cap5 → ad.spot = none := by
    obtain ⟨fuel, hf⟩ := h5
    exact open_P hf
  subst hpl
  obtain ⟨a6, rfl, rfl, rfl, w6⟩ := open_int Try.underlying3 (hval 6 3 v6 rfl rfl) h6
  obtain ⟨a7, rfl, rfl, rfl, w7⟩ := open_int Try.underlying3 (hval 7 3 v7 rfl rfl) h7
  clear hA0 hval0
  refine (law6_any a0 a1 a2 a3 a6 a7 a4 a5 es ps cap4 cap5 W hT hP hc4 hc5 hm4 hm5 (by omega)).mono fun e W' ⟨he, bel⟩ => ?_
  subst he
  exact ⟨_, rfl, _, _, _, [], _, [], hW', trodAll_mk1 (shut_bool Try.underlying4 _), (trodAll_cons_mk (shut_int Try.underlying3 w0) (trodAll_cons_mk (shut_int Try.underlying3 w1) (trodAll_cons_mk (shut_int Try.underlying3 w2) (trodAll_cons_mk (shut_int Try.underlying3 w3) (trodAll_cons_mk (Below.trod laidOutS (by kernel_rfl) (of_decide_eq_true (by kernel_rfl)) k4 bel lt4) (trodAll_cons_mk (Below.trod laidOutS (by kernel_rfl) (of_decide_eq_true (by kernel_rfl)) k5 bel lt5) (trodAll_cons_mk (shut_int Try.underlying3 w6) (trodAll_cons_mk (shut_int Try.underlying3 w7) trodAll_mk0)))))))), rfl, Below.frame bel _, fun h => by cases h⟩

theorem over6 : Rows.fnSeeSplitsAtAnyCutRow.holds Try.pinned (OpenSpec.ofChange Rows.fnSeeSplitsAtAnyCutSpec) :=
  OpenClaim.holds_of_wide 6 Try.f6 rfl rfl rfl rfl rfl rfl rfl ⟨rfl, rfl, rfl, rfl, rfl⟩ rfl rfl rfl rfl rfl (by kernel_rfl) Try.func6 (by kernel_rfl)
    (of_decide_eq_true (by kernel_rfl)) (by unfold Func.isWrapper; first | (rw [if_pos (by decide +kernel)]; kernel_rfl) | (rw [if_neg (by decide +kernel)]; exact ⟨rfl, rfl⟩))
    (fun os started H enc _ => lifted6 os started H enc)
end Go.Proofs.Qxb6616238a.Grow

namespace Go.Proofs.Qxb6616238a
theorem fnSeeSplitsAtAnyCut_proved : Rows.FnSeeSplitsAtAnyCutSaid := Grow.over6
end Go.Proofs.Qxb6616238a
