import Derived.Test.Qxb6616238aBuild
import Derived.Deep.SlicePairs
import Derived.Deep.Strs
import Derived.ChangeOld
import Derived.ShutString
namespace Go.Proofs.Qxb6616238a.Grow
set_option linter.unusedVariables false
set_option maxRecDepth 100000
open Go.ChangeShapes Go.WideShapes Go.ChangeAt Go.RowKit
open Go.ChangeMaps (open_string shut_string)

theorem ownS : ownKnob Try.prog.godebug = none := by kernel_rfl
theorem laidOutS : laidOutB Try.prog = true := by kernel_rfl

theorem addr_plainS (b off j : Nat) : (⟨b, off, none⟩ : Addr).add j = ⟨b, off + j, none⟩ := by
  unfold Addr.add
  split
  · simp_all
  · rfl

theorem cell_ltS {w : World} {a : Addr} {v : Value} (h : w.cell? a = some v) : a.block < w.heap.size := by
  rcases Nat.lt_or_ge a.block w.heap.size with hl | hl
  · exact hl
  · simp [World.cell?, Array.getElem?_eq_none hl] at h

theorem cell_spotS {w : World} {a : Addr} {v : Value} (h : w.cell? a = some v) : a.spot = none := by
  unfold World.cell? at h
  cases hs : a.spot with
  | none => rfl
  | some n =>
    rw [hs] at h
    split at h <;> simp at h

theorem open_T {H : Type} {enc : TypeId × Value → H} {w : World} {base fuel : Nat} {held : Bool} {a : Option Addr} {len cap : Nat} {x : DataW H × List MemPlace}
    (h : DataW.trod enc Try.prog w base (fun _ => true) held fuel 29 [.slice a len cap] = some x) : ∃ es : List (Bool × Int), es.length = len ∧ TRow w a es ∧ len ≤ cap ∧ cap ≤ 9223372036854775807 ∧ (a = none → cap = 0) ∧ ∀ ad, a = some ad → 0 < cap → ad.spot = none := by
  rcases Go.Deep.open_slice_pairs Try.underlying29 Try.underlying72 (by kernel_rfl) rfl rfl (by kernel_rfl) (by kernel_rfl) h with ⟨hcs, _⟩ | ⟨a', len', cap', m, n, V0, V1, D0, D1, P0, P1, hcs, _, hl, hm, hmm, _, hx⟩
  · simp at hcs
    obtain ⟨rfl, rfl, rfl⟩ := hcs
    exact ⟨[], rfl, fun i hi => by simp at hi, Nat.le_refl _, by omega, fun _ => rfl, fun ad e => by cases e⟩
  · simp at hcs
    obtain ⟨rfl, rfl, rfl⟩ := hcs
    simp at hmm
    subst hmm
    have each : ∀ i, i < len → ∃ q : Bool × Int, V0 i = .bool q.1 ∧ V1 i = .int .i64 q.2 := by
      intro i hi
      obtain ⟨_, _, h3, h4⟩ := hx i (by omega)
      obtain ⟨s, hs, _⟩ := DataW.trod_bool Try.underlying4 h3
      obtain ⟨z, hz, _, hw⟩ := DataW.trod_int Try.underlying3 h4
      simp at hs hz
      exact ⟨(s, z), hs, hz⟩
    obtain ⟨q, hq⟩ := Go.Deep.choose_lt each
    refine ⟨(List.range len).map q, by simp, fun i hi => ?_, hl, by unfold maxLen at hm; omega, fun e => (by cases e), fun ad e hc => ?_⟩
    · simp at hi
      obtain ⟨h1, h2, _, _⟩ := hx i (by omega)
      obtain ⟨e1, e2⟩ := hq i hi
      obtain ⟨h01, _, _, _⟩ := hx 0 (by omega)
      have hsp : a'.spot = none := by
        have := cell_spotS h01
        simpa [Addr.add] using this
      obtain ⟨b, off, spot⟩ := a'
      simp at hsp
      subst hsp
      rw [addr_plainS] at h1 h2
      refine ⟨b, off, rfl, ?_, ?_, cell_ltS h1⟩
      · rw [h1, e1]; simp
      · rw [show off + i * 2 + 1 = off + (i * 2 + 1) by omega, h2, e2]; simp
    · obtain ⟨h01, _, _, _⟩ := hx 0 (by omega)
      simp at e
      subst e
      have := cell_spotS h01
      simpa [Addr.add] using this

theorem open_P {H : Type} {enc : TypeId × Value → H} {w : World} {base fuel : Nat} {held : Bool} {a : Option Addr} {len cap : Nat} {x : DataW H × List MemPlace}
    (h : DataW.trod enc Try.prog w base (fun _ => true) held fuel 30 [.slice a len cap] = some x) : ∃ ps : List (Int × Int × Int), ps.length = len ∧ PRow w a ps ∧ len ≤ cap ∧ cap ≤ 9223372036854775807 ∧ (a = none → cap = 0) ∧ ∀ ad, a = some ad → 0 < cap → ad.spot = none := by
  rcases Go.Deep.open_slice Try.underlying30 h with ⟨hcs, _⟩ | ⟨a', len', cap', m, n, D, Pl, hcs, _, hl, hm, hmm, _, hx⟩
  · simp at hcs
    obtain ⟨rfl, rfl, rfl⟩ := hcs
    exact ⟨[], rfl, fun i hi => by simp at hi, Nat.le_refl _, by omega, fun _ => rfl, fun ad e => by cases e⟩
  · simp at hcs
    obtain ⟨rfl, rfl, rfl⟩ := hcs
    simp at hmm
    subst hmm
    have ce : Try.prog.cellsOf 76 = 3 := by kernel_rfl
    have c5 : Try.prog.cellsOf 5 = 1 := by kernel_rfl
    have c3 : Try.prog.cellsOf 3 = 1 := by kernel_rfl
    have each : ∀ i, i < m → ∃ q : Int × Int × Int, w.cell? (a'.add (i * 3)) = some (.int .u8 q.1) ∧ w.cell? (a'.add (i * 3 + 1)) = some (.int .i64 q.2.1) ∧ w.cell? (a'.add (i * 3 + 2)) = some (.int .i64 q.2.2) := by
      intro i hi
      obtain ⟨cs', h1, h2⟩ := hx i hi
      rw [ce] at h1
      obtain ⟨_, hlen, hcell⟩ := World.cells?_some h1
      obtain ⟨y0, y1, y2, k, _, _, g0, g1, g2⟩ := Go.Deep.trod_struct3 Try.underlying76 h2
      match cs', hlen with
      | [v0, v1, v2], _ =>
        simp [c5, c3] at g0 g1 g2
        obtain ⟨z0, hz0, _, _⟩ := DataW.trod_int Try.underlying5 g0
        obtain ⟨z1, hz1, _, _⟩ := DataW.trod_int Try.underlying3 g1
        obtain ⟨z2, hz2, _, _⟩ := DataW.trod_int Try.underlying3 g2
        simp at hz0 hz1 hz2
        subst hz0; subst hz1; subst hz2
        have e0 := hcell 0 (by omega)
        have e1 := hcell 1 (by omega)
        have e2 := hcell 2 (by omega)
        rw [Go.Deep.add_add] at e0 e1 e2
        exact ⟨(z0, z1, z2), by simpa using e0, by simpa using e1, by simpa using e2⟩
    obtain ⟨q, hq⟩ := Go.Deep.choose_lt each
    refine ⟨(List.range len).map q, by simp, fun i hi => ?_, hl, by unfold maxLen at hm; omega, fun e => (by cases e), fun ad e hc => ?_⟩
    · simp at hi
      obtain ⟨h1, h2, h3⟩ := hq i (by omega)
      obtain ⟨h01, _⟩ := hq 0 (by omega)
      have hsp : a'.spot = none := by
        have := cell_spotS h01
        simpa [Addr.add] using this
      obtain ⟨b, off, spot⟩ := a'
      simp at hsp
      subst hsp
      rw [addr_plainS] at h1 h2 h3
      refine ⟨b, off, rfl, ?_, ?_, ?_, cell_ltS h1⟩
      · rw [h1]; simp
      · rw [show off + i * 3 + 1 = off + (i * 3 + 1) by omega, h2]; simp
      · rw [show off + i * 3 + 2 = off + (i * 3 + 2) by omega, h3]; simp
    · obtain ⟨h01, _⟩ := hq 0 (by omega)
      simp at e
      subst e
      have := cell_spotS h01
      simpa [Addr.add] using this
end Go.Proofs.Qxb6616238a.Grow
