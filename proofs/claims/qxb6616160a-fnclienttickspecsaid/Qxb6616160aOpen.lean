import Derived.Test.Qxb6616160aCs
import Derived.Deep.SlicePairs
import Derived.ChangeOld
import Derived.ShutString
namespace Go.Proofs.Qxb6616160a.Tick
set_option linter.unusedVariables false
open Go.ChangeShapes Go.WideShapes Go.ChangeAt Go.RowKit
open Go.ChangeMaps (open_string shut_string)

theorem own : ownKnob Try.prog.godebug = none := by kernel_rfl
theorem laidOut : laidOutB Try.prog = true := by kernel_rfl

theorem addr_plain (b off j : Nat) : (⟨b, off, none⟩ : Addr).add j = ⟨b, off + j, none⟩ := by
  unfold Addr.add
  split
  · simp_all
  · rfl

theorem cell_lt {w : World} {a : Addr} {v : Value} (h : w.cell? a = some v) : a.block < w.heap.size := by
  rcases Nat.lt_or_ge a.block w.heap.size with hl | hl
  · exact hl
  · simp [World.cell?, Array.getElem?_eq_none hl] at h

theorem cell_spot {w : World} {a : Addr} {v : Value} (h : w.cell? a = some v) : a.spot = none := by
  unfold World.cell? at h
  cases hs : a.spot with
  | none => rfl
  | some n =>
    rw [hs] at h
    split at h <;> simp at h

theorem open_cs {H : Type} {enc : TypeId × Value → H} {w : World} {base fuel : Nat} {held : Bool} {a : Option Addr} {len cap : Nat} {x : DataW H × List MemPlace}
    (h : DataW.trod enc Try.prog w base (fun _ => true) held fuel 28 [.slice a len cap] = some x) : ∃ cs : List (ByteArray × Int), cs.length = len ∧ Cs w a cs ∧ len ≤ 9223372036854775807 := by
  rcases Go.Deep.open_slice_pairs Try.underlying28 Try.underlying45 (by kernel_rfl) rfl rfl (by kernel_rfl) (by kernel_rfl) h with ⟨hcs, _⟩ | ⟨a', len', cap', m, n, V0, V1, D0, D1, P0, P1, hcs, _, hl, hm, hmm, _, hx⟩
  · simp at hcs
    obtain ⟨rfl, rfl, rfl⟩ := hcs
    exact ⟨[], rfl, ⟨fun i hi => by simp at hi, fun i hi => by simp at hi, fun i hi => by simp at hi⟩, by omega⟩
  · simp at hcs
    obtain ⟨rfl, rfl, rfl⟩ := hcs
    simp at hmm
    subst hmm
    have each : ∀ i, i < len → ∃ q : ByteArray × Int, V0 i = .string q.1 ∧ q.1.size ≤ maxLen ∧ V1 i = .int .u64 q.2 ∧ (Lit.int .u64 q.2).wf = true := by
      intro i hi
      obtain ⟨_, _, h3, h4⟩ := hx i (by omega)
      obtain ⟨s, hs, _, hsz⟩ := DataW.trod_string Try.underlying9 h3
      obtain ⟨z, hz, _, hw⟩ := DataW.trod_int Try.underlying27 h4
      simp at hs hz
      exact ⟨(s, z), hs, hsz, hz, hw⟩
    obtain ⟨q, hq⟩ := Go.Deep.choose_lt each
    refine ⟨(List.range len).map q, by simp, ⟨fun i hi => ?_, fun i hi => ?_, fun i hi => ?_⟩, by unfold maxLen at hm; omega⟩
    · simp at hi
      obtain ⟨h1, h2, _, _⟩ := hx i (by omega)
      obtain ⟨e1, _, e2, _⟩ := hq i hi
      obtain ⟨h01, _, _, _⟩ := hx 0 (by omega)
      have hsp : a'.spot = none := by
        have := cell_spot h01
        simpa [Addr.add] using this
      obtain ⟨b, off, spot⟩ := a'
      simp at hsp
      subst hsp
      rw [addr_plain] at h1 h2
      refine ⟨b, off, rfl, ?_, ?_, cell_lt h1⟩
      · rw [h1, e1]; simp
      · rw [show off + i * 2 + 1 = off + (i * 2 + 1) by omega, h2, e2]; simp
    · simp at hi
      obtain ⟨_, _, _, hw⟩ := hq i hi
      have := bounds_u64 hw
      simpa using this
    · simp at hi
      obtain ⟨_, hsz, _, _⟩ := hq i hi
      unfold maxLen at hsz
      simpa using hsz
end Go.Proofs.Qxb6616160a.Tick
