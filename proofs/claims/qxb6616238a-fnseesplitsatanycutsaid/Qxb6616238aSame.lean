import Derived.Test.Qxb6616238aModel
namespace Go.Proofs.Qxb6616238a.Grow
set_option linter.unusedVariables false
set_option linter.unusedSimpArgs false
set_option maxRecDepth 100000
open Go.ChangeShapes Go.WideShapes Go.ChangeAt Go.RowKit Go.Lib

set_option maxHeartbeats 4000000 in
theorem sameT_any (a b : Option Addr) (ac bc : Nat) (es : List (Bool × Int)) (w : World) (hA : TRow w a es) (hB : TRow w b es) (hes : es.length ≤ 65536) :
    Calls Try.prog 19 #[.slice a es.length ac, .slice b es.length bc] w fun e w' => e = .returned (.bool true) ∧ Ext w w' := by
  have HA : Hid (TRow w a es) := hA
  have HB : Hid (TRow w b es) := hB
  clear hA hB
  go_enter Try.func19, Try.ntmps19
  go_wp2_with fail
  go_loopw [5] (fun kv wr => ∃ k : Nat, k ≤ es.length ∧ kv = .int .i64 k ∧ Hid (Ext w wr)) (fun kv _ => es.length - (intOf kv).toNat)
  case atStart => exact ⟨0, Nat.zero_le _, rfl, Ext.refl w⟩
  case round =>
    obtain ⟨k, hk, rfl, HX⟩ := hrel
    by_cases hlt : k < es.length
    · have hlt' : (k : Int) < es.length := by omega
      obtain ⟨g, o, rfl, hs1, hs2, hg⟩ := (HA.out.kept HX.out) k hlt
      obtain ⟨g', o', rfl, hr1, hr2, hg'⟩ := (HB.out.kept HX.out) k hlt
      generalize es[k] = x at *
      obtain ⟨bb, rd⟩ := x
      have HX' : ∀ n, Hid (Ext w (wr.drewN n)) := fun n => Ext.trans HX.out (ext_drewN wr n)
      simp only at hs1 hs2 hr1 hr2
      cases bb
      all_goals
        go_wp2_with fail
        go_quiet (fail)
        go_wp2_with fail
        go_quiet (fail)
        go_wp2_with fail
        go_roundw
        case rel => exact ⟨k + 1, by omega, by go_num, HX' _⟩
        case measure => simp [intOf]; omega
    · have hke : k = es.length := by omega
      subst hke
      go_wp2_with fail
      go_ret
      exact ⟨rfl, HX.out⟩

set_option maxHeartbeats 4000000 in
theorem sameP_any (a b : Option Addr) (ac bc : Nat) (ps : List Msg3) (w : World) (hA : PRow w a ps) (hB : PRow w b ps) (hps : ps.length ≤ 65536) :
    Calls Try.prog 20 #[.slice a ps.length ac, .slice b ps.length bc] w fun e w' => e = .returned (.bool true) ∧ Ext w w' := by
  have HA : Hid (PRow w a ps) := hA
  have HB : Hid (PRow w b ps) := hB
  clear hA hB
  go_enter Try.func20, Try.ntmps20
  go_wp2_with fail
  go_loopw [5] (fun kv wr => ∃ k : Nat, k ≤ ps.length ∧ kv = .int .i64 k ∧ Hid (Ext w wr)) (fun kv _ => ps.length - (intOf kv).toNat)
  case atStart => exact ⟨0, Nat.zero_le _, rfl, Ext.refl w⟩
  case round =>
    obtain ⟨k, hk, rfl, HX⟩ := hrel
    by_cases hlt : k < ps.length
    · have hlt' : (k : Int) < ps.length := by omega
      obtain ⟨g, o, rfl, hs1, hs2, hs3, hg⟩ := (HA.out.kept HX.out) k hlt
      obtain ⟨g', o', rfl, hr1, hr2, hr3, hg'⟩ := (HB.out.kept HX.out) k hlt
      generalize ps[k] = x at *
      obtain ⟨t, ii, rd⟩ := x
      have HX' : ∀ n, Hid (Ext w (wr.drewN n)) := fun n => Ext.trans HX.out (ext_drewN wr n)
      simp only at hs1 hs2 hs3 hr1 hr2 hr3
      go_wp2_with fail
      go_quiet (fail)
      go_wp2_with fail
      go_roundw
      case rel => exact ⟨k + 1, by omega, by go_num, HX' _⟩
      case measure => simp [intOf]; omega
    · have hke : k = ps.length := by omega
      subst hke
      go_wp2_with fail
      go_ret
      exact ⟨rfl, HX.out⟩
end Go.Proofs.Qxb6616238a.Grow
