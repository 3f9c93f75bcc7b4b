import Derived.Test.Qxb6616160aMaps
import Derived.Maps.RangeRun
namespace Go.Proofs.Qxb6616160a.Tick
set_option linter.unusedVariables false
set_option linter.unusedSimpArgs false
open Go.ChangeShapes Go.WideShapes Go.ChangeAt Go.RowKit
open Go.ChangeMaps (setBlock)

theorem heap_setBlock (w : World) (b : Nat) (o : Obj) (k : Nat) : (setBlock w b o).heap[k]? = if k = b then (if b < w.heap.size then some o else none) else w.heap[k]? := by
  unfold setBlock
  simp only [Array.getElem?_setIfInBounds]
  by_cases h : b = k
  · subst h; simp
  · rw [if_neg h, if_neg (fun e => h e.symm)]

theorem heap_setBlock_at (w : World) (b : Nat) (o : Obj) (h : b < w.heap.size) : (setBlock w b o).heap[b]? = some o := by
  rw [heap_setBlock, if_pos rfl, if_pos h]
theorem heap_setBlock_other (w : World) (b : Nat) (o : Obj) (k : Nat) (h : k ≠ b) : (setBlock w b o).heap[k]? = w.heap[k]? := by
  rw [heap_setBlock, if_neg h]
theorem size_setBlock (w : World) (b : Nat) (o : Obj) : (setBlock w b o).heap.size = w.heap.size := by simp [setBlock]

def seenAt (w : World) (it : Nat) : Nat := match w.heap[it]? with | some (.mapIter _ _ seen _) => seen.size | _ => 0

def reborn (L : List (Cl × Nat)) : List (Cl × Nat) := (L.map (·.1)).zipIdx

/-- The round's state of maps.Copy: it has copied the entries L. -/
structure Cop (w0 : World) (mb mb2 it clock : Nat) (E L : List (Cl × Nat)) (w : World) : Prop where
  iter : w.heap[it]? = some (.mapIter (some mb) clock (L.map (·.2)).toArray clock)
  src : w.heap[mb]? = some (.map (ents E) clock)
  dst : w.heap[mb2]? = some (.map (ents (reborn L)) L.length)
  sub : ∀ x ∈ L, x ∈ E
  nodup : (L.map (·.2)).Nodup
  os : w.os = w0.os
  tape : w.tape = w0.tape
  output : w.output = w0.output
  size : w.heap.size = w0.heap.size + 1
  old : ∀ k, k < w0.heap.size → k ≠ mb2 → w.heap[k]? = w0.heap[k]?

theorem reborn_snoc (L : List (Cl × Nat)) (x : Cl × Nat) : reborn (L ++ [x]) = reborn L ++ [(x.1, L.length)] := by
  simp [reborn, List.zipIdx_append]

theorem ents_snoc (L : List (Cl × Nat)) (x : Cl × Nat) : ents (L ++ [x]) = (ents L).push (ent x) := by
  simp [ents]

theorem reborn_mem {L : List (Cl × Nat)} {y : Cl × Nat} (h : y ∈ reborn L) : ∃ x ∈ L, x.1 = y.1 := by
  obtain ⟨c, i⟩ := y
  have := List.mem_zipIdx h
  obtain ⟨_, h2, h3⟩ := this
  simp only [Nat.sub_zero, List.getElem_map] at h3
  exact ⟨_, List.getElem_mem _, h3.symm⟩

theorem nodup_inj {α β : Type} {f : α → β} : ∀ {l : List α}, (l.map f).Nodup → ∀ {x y : α}, x ∈ l → y ∈ l → f x = f y → x = y
  | [], _, _, _, hx, _, _ => by cases hx
  | a :: l, h, x, y, hx, hy, e => by
    rw [List.map_cons, List.nodup_cons] at h
    rcases List.mem_cons.1 hx with hxa | hx'
    · rcases List.mem_cons.1 hy with hya | hy'
      · rw [hxa, hya]
      · exact absurd (List.mem_map.2 ⟨y, hy', by rw [← e, hxa]⟩) h.1
    · rcases List.mem_cons.1 hy with hya | hy'
      · exact absurd (List.mem_map.2 ⟨x, hx', by rw [e, hya]⟩) h.1
      · exact nodup_inj h.2 hx' hy' e

theorem nodup_of_map {α β : Type} {f : α → β} : ∀ {l : List α}, (l.map f).Nodup → l.Nodup
  | [], _ => List.nodup_nil
  | a :: l, h => by
    rw [List.map_cons, List.nodup_cons] at h
    exact List.nodup_cons.2 ⟨fun m => h.1 (List.mem_map.2 ⟨a, m, rfl⟩), nodup_of_map h.2⟩

theorem sub_length {α : Type} : ∀ {l r : List α}, l.Nodup → (∀ x ∈ l, x ∈ r) → l.length ≤ r.length
  | [], _, _, _ => Nat.zero_le _
  | a :: l, r, h, hs => by
    rw [List.nodup_cons] at h
    obtain ⟨s, t, rfl⟩ := List.append_of_mem (hs a (List.mem_cons_self ..))
    have := sub_length (l := l) (r := s ++ t) h.2 (fun x hx => by
      have := hs x (List.mem_cons_of_mem _ hx)
      rcases List.mem_append.1 this with h1 | h1
      · exact List.mem_append_left _ h1
      · rcases List.mem_cons.1 h1 with rfl | h2
        · exact absurd hx h.1
        · exact List.mem_append_right _ h2)
    simp at this ⊢
    omega

theorem Cop.next {w0 wr : World} {mb mb2 it clock : Nat} {E L : List (Cl × Nat)} (hC : Cop w0 mb mb2 it clock E L wr) (hit : it = w0.heap.size) (hne : mb ≠ mb2) (hlt : mb < w0.heap.size) (hlt2 : mb2 < w0.heap.size)
    (hb : ∀ x ∈ E, x.2 < clock) (hbn : (E.map (·.2)).Nodup) (hid : (E.map (·.1.id)).Nodup) :
    (L.Perm E ∧ (Instr.next (.pointer (some ⟨it, 0, none⟩)) false 0).run Try.prog wr = .ok (.tuple #[.bool false]) wr) ∨
    ∃ x W1 W2, (Instr.next (.pointer (some ⟨it, 0, none⟩)) false 0).run Try.prog wr = .ok (.tuple #[.bool true, .string x.1.id, x.1.ptr]) W1 ∧
      (Instr.entry (.pointer (some ⟨it, 0, none⟩))).run Try.prog W1 = .ok (.tuple #[.string x.1.id, x.1.ptr]) W1 ∧
      (Instr.mapUpdate 52 (.map (some mb2)) (.string x.1.id) x.1.ptr).run Try.prog W1 = .ok () W2 ∧ Cop w0 mb mb2 it clock E (L ++ [x]) W2 ∧ L.length < E.length := by
  subst hit
  have hE := nodup_of_map hbn
  have hL := nodup_of_map hC.nodup
  have hbe : (ents E).toList = E.map ent := by simp [ents]
  rcases run_next_at (P := Try.prog) wr 0 w0.heap.size mb clock clock (L.map (·.2)).toArray (ents E) clock hC.iter hC.src
    (fun x hx => by rw [hbe] at hx; obtain ⟨y, hy, rfl⟩ := List.mem_map.1 hx; exact hb y hy) (Nat.le_refl _) with ⟨h0, hr⟩ | ⟨e, he, w1, hw1, hr⟩
  · refine .inl ⟨?_, hr⟩
    refine (List.perm_ext_iff_of_nodup hL hE).2 fun x => ⟨hC.sub x, fun hx => ?_⟩
    have hemp : leftOf (ents E) (L.map (·.2)).toArray = #[] := Array.eq_empty_of_size_eq_zero h0
    have hnot : ¬ ent x ∈ leftOf (ents E) (L.map (·.2)).toArray := by rw [hemp]; simp
    have hin : x.2 ∈ L.map (·.2) := by
      apply Classical.byContradiction
      intro hn
      apply hnot
      unfold leftOf
      rw [Array.mem_filter]
      refine ⟨by rw [← Array.mem_toList_iff, hbe]; exact List.mem_map.2 ⟨x, hx, rfl⟩, ?_⟩
      simp only [ent, List.contains_toArray, Bool.not_eq_true', List.contains_eq_mem, decide_eq_false_iff_not]
      exact hn
    obtain ⟨y, hy, hyx⟩ := List.mem_map.1 hin
    rw [← nodup_inj hbn (hC.sub y hy) hx hyx]
    exact hy
  · right
    have hmem : e ∈ (ents E).toList ∧ e.born ∉ L.map (·.2) := by
      unfold leftOf at he
      rw [Array.mem_toList_iff, Array.mem_filter] at he
      refine ⟨Array.mem_toList_iff.2 he.1, ?_⟩
      have := he.2
      simpa using this
    rw [hbe] at hmem
    obtain ⟨⟨x, hx, rfl⟩, hxn⟩ : (∃ x, x ∈ E ∧ ent x = e) ∧ e.born ∉ L.map (·.2) := ⟨List.mem_map.1 hmem.1, hmem.2⟩
    have hxb : (ent x).born = x.2 := rfl
    have hw1h : w1.heap = wr.heap := by rcases hw1 with rfl | rfl <;> rfl
    have hw1s : w1.os = wr.os ∧ w1.tape = wr.tape ∧ w1.output = wr.output := by rcases hw1 with rfl | rfl <;> exact ⟨rfl, rfl, rfl⟩
    have hsz : w1.heap.size = w0.heap.size + 1 := by rw [hw1h]; exact hC.size
    have hWit : (setBlock w1 w0.heap.size (.mapIter (some mb) clock ((L.map (·.2)).toArray.push x.2) clock)).heap[w0.heap.size]? = some (.mapIter (some mb) clock ((L.map (·.2)).toArray.push x.2) clock) :=
      heap_setBlock_at _ _ _ (by omega)
    have hWo : ∀ k, k < w0.heap.size → (setBlock w1 w0.heap.size (.mapIter (some mb) clock ((L.map (·.2)).toArray.push x.2) clock)).heap[k]? = wr.heap[k]? := fun k hk => by
      rw [heap_setBlock_other _ _ _ _ (by omega), hw1h]
    have hxL : ∀ y ∈ reborn L, y.1.id ≠ x.1.id := fun y hy e => by
      obtain ⟨z, hz, hzy⟩ := reborn_mem hy
      have : z = x := nodup_inj hid (hC.sub z hz) hx (by show z.1.id = x.1.id; rw [hzy]; exact e)
      subst this
      exact hxn (List.mem_map.2 ⟨z, hz, rfl⟩)
    have hdst2 := (hWo mb2 hlt2).trans hC.dst
    refine ⟨x, _, _, hr, run_entry_at _ _ mb clock (L.map (fun y : Cl × Nat => y.2)).toArray (ents E) clock (ent x) hWit ((hWo mb hlt).trans hC.src) (by rw [hbe]; exact List.mem_map.2 ⟨x, hx, rfl⟩) (by rw [hbe, List.map_map]; exact hbn),
      run_update_new mb2 L.length (reborn L) x.1.id x.1.ptr _ hdst2 hxL, ⟨?_, ?_, ?_, ?_, ?_, hw1s.1.trans hC.os, hw1s.2.1.trans hC.tape, hw1s.2.2.trans hC.output, ?_, ?_⟩, ?_⟩
    · rw [heap_setBlock_other _ _ _ _ (by omega), hxb, hWit]
      simp
    · rw [heap_setBlock_other _ _ _ _ hne]; exact (hWo mb hlt).trans hC.src
    · rw [heap_setBlock_at _ _ _ (by rw [size_setBlock]; omega), reborn_snoc, ents_snoc, List.length_append, List.length_singleton]
      rfl
    · intro y hy
      rcases List.mem_append.1 hy with h | h
      · exact hC.sub y h
      · rw [List.mem_singleton.1 h]; exact hx
    · rw [List.map_append]
      rw [List.nodup_append]
      refine ⟨hC.nodup, by simp, fun a ha b hb' e => ?_⟩
      simp at hb'
      subst e hb'
      exact hxn ha
    · rw [size_setBlock, size_setBlock]; exact hsz
    · intro k hk hk2
      rw [heap_setBlock_other _ _ _ _ hk2]; exact (hWo k hk).trans (hC.old k hk hk2)
    · have hxL' : x ∉ L := fun h => hxn (List.mem_map.2 ⟨x, h, rfl⟩)
      have := sub_length (l := x :: L) (r := E) (List.nodup_cons.2 ⟨hxL', hL⟩) (fun y hy => by
        rcases List.mem_cons.1 hy with rfl | h
        · exact hx
        · exact hC.sub y h)
      simp at this
      omega

theorem copy_any (w : World) (mb mb2 clock : Nat) (E : List (Cl × Nat)) (hsrc : w.heap[mb]? = some (.map (ents E) clock)) (hdst : w.heap[mb2]? = some (.map #[] 0)) (hne : mb ≠ mb2)
    (hb : ∀ x ∈ E, x.2 < clock) (hbn : (E.map (·.2)).Nodup) (hid : (E.map (·.1.id)).Nodup) :
    Calls Try.prog 34 #[.map (some mb2), .map (some mb)] w fun e w' => e = .returned (.tuple #[]) ∧ ∃ L, L.Perm E ∧ Cop w mb mb2 w.heap.size clock E L w' := by
  have hrange : (Instr.range 52 (.map (some mb))).run Try.prog w = .ok (.pointer (some ⟨w.heap.size, 0, none⟩)) (w.alloc (.mapIter (some mb) clock #[] clock)) := by
    have h2 := Go.MapKept.run_getObj_map (P := Try.prog) hsrc
    simp only [Instr.range, Sem.run_bind, run_underlying Try.underlying52, Result.andThen_ok, h2]
    rfl
  go_enter Try.func34, Try.ntmps34
  go_wp2_with fail
  have hlt : mb < w.heap.size := by
    rcases Nat.lt_or_ge mb w.heap.size with h | h
    · exact h
    · rw [Array.getElem?_eq_none h] at hsrc; cases hsrc
  have hlt2 : mb2 < w.heap.size := by
    rcases Nat.lt_or_ge mb2 w.heap.size with h | h
    · exact h
    · rw [Array.getElem?_eq_none h] at hdst; cases hdst
  go_loopw [4] (fun _ wr => ∃ L, Cop w mb mb2 w.heap.size clock E L wr) (fun _ wr => E.length - seenAt wr w.heap.size)
  case atStart =>
    refine ⟨[], ?_, ?_, ?_, by simp, by simp, rfl, rfl, rfl, by simp, fun k hk _ => Below.heap_alloc _ _ _ hk⟩
    · exact heap_alloc_new _ _
    · rw [Below.heap_alloc _ _ _ hlt]; exact hsrc
    · rw [Below.heap_alloc _ _ _ hlt2]; exact hdst
  case round =>
    obtain ⟨L, hC⟩ := hrel
    have hsa : seenAt wr w.heap.size = L.length := by simp [seenAt, hC.iter]
    have HSA : Hid (seenAt wr w.heap.size = L.length) := hsa
    rcases hC.next rfl hne hlt hlt2 hb hbn hid with ⟨hp, hr⟩ | ⟨x, W1, W2, hr1, hr2, hr3, hC2, hlen⟩
    · clear hrange hsrc hdst hb hbn hid hsa
      go_wp2_with fail
      go_end0
      exact ⟨rfl, L, hp, hC⟩
    · have hsa2 : seenAt W2 w.heap.size = L.length + 1 := by simp [seenAt, hC2.iter]
      have HSB : Hid (seenAt W2 w.heap.size = L.length + 1) := hsa2
      clear hrange hsrc hdst hb hbn hid hsa hsa2
      go_wp2_with fail
      go_roundw
      case rel => exact ⟨_, hC2⟩
      case measure => rw [HSA.out, HSB.out]; omega
end Go.Proofs.Qxb6616160a.Tick
