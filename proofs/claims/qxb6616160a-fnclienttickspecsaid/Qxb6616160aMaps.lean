import Derived.Test.Qxb6616160aHeap2
namespace Go.Proofs.Qxb6616160a.Tick
set_option linter.unusedVariables false
open Go.ChangeShapes Go.WideShapes Go.ChangeAt Go.RowKit
open Go.ChangeMaps (setBlock)
open Go.MapKept (bytes_beq run_checkKey run_findKey findNow_spec IsKey)

/-! ### The map's entries -/
def ent (x : Cl × Nat) : MapEntry := ⟨.string x.1.id, x.1.ptr, x.2⟩
def ents (E : List (Cl × Nat)) : Array MapEntry := (E.map ent).toArray

theorem ents_key (E : List (Cl × Nat)) : ∀ x ∈ E.map ent, IsKey .string x.key := by
  intro x hx
  obtain ⟨y, _, rfl⟩ := List.mem_map.1 hx
  trivial

theorem find_none {E : List (Cl × Nat)} {id : ByteArray} (h : ∀ x ∈ E, x.1.id ≠ id) : Instr.findNow .string (.string id) (E.map ent) 0 = some none := by
  rcases findNow_spec (k := .string id) (d := .string) trivial (E.map ent) 0 (ents_key E) with ⟨h1, _⟩ | ⟨j, e, _, h2, h3⟩
  · exact h1
  · rw [List.getElem?_map] at h2
    cases hx : E[j]? with
    | none => rw [hx] at h2; cases h2
    | some x =>
      rw [hx] at h2
      simp only [Option.map_some, Option.some.injEq] at h2
      subst h2
      simp only [ent, Value.string.injEq] at h3
      exact absurd h3 (h x (List.mem_of_getElem? hx))

theorem find_some {E : List (Cl × Nat)} {j : Nat} {x : Cl × Nat} (hn : (E.map (·.1.id)).Nodup) (h : E[j]? = some x) : Instr.findNow .string (.string x.1.id) (E.map ent) 0 = some (some (j, x.1.ptr)) := by
  rcases findNow_spec (k := .string x.1.id) (d := .string) trivial (E.map ent) 0 (ents_key E) with ⟨_, h1⟩ | ⟨j', e, h1, h2, h3⟩
  · exact absurd rfl (h1 (ent x) (List.mem_map.2 ⟨x, List.mem_of_getElem? h, rfl⟩))
  · rw [List.getElem?_map] at h2
    cases hy : E[j']? with
    | none => rw [hy] at h2; cases h2
    | some y =>
      rw [hy] at h2
      simp only [Option.map_some, Option.some.injEq] at h2
      subst h2
      simp only [ent, Value.string.injEq] at h3
      have hjj : j' = j := by
        have hl : j < E.length := (List.getElem?_eq_some_iff.1 h).1
        have hl' : j' < E.length := (List.getElem?_eq_some_iff.1 hy).1
        have e1 : (E.map (·.1.id))[j]'(by simpa using hl) = x.1.id := by
          simp [(List.getElem?_eq_some_iff.1 h).2]
        have e2 : (E.map (·.1.id))[j']'(by simpa using hl') = x.1.id := by
          simp [(List.getElem?_eq_some_iff.1 hy).2, h3]
        have hp := List.pairwise_iff_getElem.1 hn
        rcases Nat.lt_trichotomy j' j with q | q | q
        · exact absurd (e2.trans e1.symm) (hp j' j _ _ q)
        · exact q
        · exact absurd (e1.trans e2.symm) (hp j j' _ _ q)
      subst hjj
      rw [h] at hy
      cases hy
      simpa [ent] using h1

theorem run_update_new (mb clock : Nat) (E : List (Cl × Nat)) (id : ByteArray) (v : Value) (w : World) (hm : w.heap[mb]? = some (.map (ents E) clock)) (hf : ∀ x ∈ E, x.1.id ≠ id) :
    (Instr.mapUpdate 52 (.map (some mb)) (.string id) v).run Try.prog w = .ok () (setBlock w mb (.map ((ents E).push ⟨.string id, v, clock⟩) (clock + 1))) := by
  have h1 : (Instr.findKey 9 (.string id) (ents E).toList).run Try.prog w = .ok none w := run_findKey Try.underlying9 (find_none hf)
  have h2 := Go.MapKept.run_getObj_map (P := Try.prog) hm
  have h3 : (Instr.checkKey false 10000 9 (.string id)).run Try.prog w = .ok () w := run_checkKey Try.underlying9 (k := .string id) trivial false 9999
  have h4 := Go.MapKept.run_setObj_map (P := Try.prog) (.map ((ents E).push ⟨.string id, v, clock⟩) (clock + 1)) hm
  simp only [Instr.mapUpdate, Sem.run_bind, run_underlying Try.underlying52, Result.andThen_ok, h2, h3, h1, h4]
  rfl

theorem run_lookup_none (mb clock : Nat) (E : List (Cl × Nat)) (id : ByteArray) (w : World) (hm : w.heap[mb]? = some (.map (ents E) clock)) (hf : ∀ x ∈ E, x.1.id ≠ id) :
    (Instr.lookup 52 (.map (some mb)) (.string id) false).run Try.prog w = .ok (.pointer none) w := by
  have h1 : (Instr.findKey 9 (.string id) (ents E).toList).run Try.prog w = .ok none w := run_findKey Try.underlying9 (find_none hf)
  have h2 := Go.MapKept.run_getObj_map (P := Try.prog) hm
  have h3 : ∀ b, (Instr.checkKey b 10000 9 (.string id)).run Try.prog w = .ok () w := fun b => run_checkKey Try.underlying9 (k := .string id) trivial b 9999
  have h4 : (zeroValue 62).run Try.prog w = .ok (.pointer none) w := by kernel_rfl
  simp only [Instr.lookup, Sem.run_bind, run_underlying Try.underlying52, Result.andThen_ok, h2, h3, h1, h4, Sem.run_pure]
  rfl

theorem run_lookup_some (mb clock : Nat) (E : List (Cl × Nat)) (j : Nat) (x : Cl × Nat) (w : World) (hm : w.heap[mb]? = some (.map (ents E) clock)) (hn : (E.map (·.1.id)).Nodup) (hx : E[j]? = some x) :
    (Instr.lookup 52 (.map (some mb)) (.string x.1.id) false).run Try.prog w = .ok x.1.ptr w := by
  have h1 : (Instr.findKey 9 (.string x.1.id) (ents E).toList).run Try.prog w = .ok (some (j, x.1.ptr)) w := run_findKey Try.underlying9 (find_some hn hx)
  have h2 := Go.MapKept.run_getObj_map (P := Try.prog) hm
  have h3 : ∀ b, (Instr.checkKey b 10000 9 (.string x.1.id)).run Try.prog w = .ok () w := fun b => run_checkKey Try.underlying9 (k := .string x.1.id) trivial b 9999
  simp only [Instr.lookup, Sem.run_bind, run_underlying Try.underlying52, Result.andThen_ok, h2, h3, h1, Sem.run_pure]
  rfl

theorem run_delete (mb clock : Nat) (E : List (Cl × Nat)) (j : Nat) (x : Cl × Nat) (ty : TypeId) (w : World) (hm : w.heap[mb]? = some (.map (ents E) clock)) (hn : (E.map (·.1.id)).Nodup) (hx : E[j]? = some x) :
    (Builtin.delete_ #[52, 9] ty #[.map (some mb), .string x.1.id]).run Try.prog w = .ok (.tuple #[]) (setBlock w mb (.map (ents (E.eraseIdx j)) clock)) := by
  have h1 : (Instr.findKey 9 (.string x.1.id) (ents E).toList).run Try.prog w = .ok (some (j, x.1.ptr)) w := run_findKey Try.underlying9 (find_some hn hx)
  have h2 := Go.MapKept.run_getObj_map (P := Try.prog) hm
  have h3 : ∀ b, (Instr.checkKey b 10000 9 (.string x.1.id)).run Try.prog w = .ok () w := fun b => run_checkKey Try.underlying9 (k := .string x.1.id) trivial b 9999
  have h4 := Go.MapKept.run_setObj_map (P := Try.prog) (.map ((ents E).eraseIdxIfInBounds j) clock) hm
  have hl : j < E.length := (List.getElem?_eq_some_iff.1 hx).1
  have e : (ents E).eraseIdxIfInBounds j = ents (E.eraseIdx j) := by
    apply Array.toList_inj.1
    simp [ents, Array.eraseIdxIfInBounds, hl, Go.ChangeMaps.map_eraseIdx]
  simp only [Builtin.delete_, ← e]
  simp only [List.getElem?_toArray, List.getElem?_cons_zero, List.getElem?_cons_succ, Sem.run_bind, run_underlying Try.underlying52, Result.andThen_ok, h2, h3, h1, h4, Sem.run_pure]
  rfl
end Go.Proofs.Qxb6616160a.Tick
