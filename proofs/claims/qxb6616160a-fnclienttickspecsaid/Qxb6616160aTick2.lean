import Derived.Test.Qxb6616160aTick
import Derived.Deep.DeepCutAuto
import Derived.Deep.CutBlock
import Derived.Deep.DrawnRows
namespace Go.Proofs.Qxb6616160a.Tick
set_option linter.unusedVariables false
set_option linter.unusedSimpArgs false
open Go.ChangeShapes Go.WideShapes Go.ChangeAt Go.RowKit
open Go.ChangeMaps (setBlock)
attribute [local go_sem ↓] Go.wp_at_zero Go.wp_at_succ

/-- A client table as a caller sees it: its clock, its room, its clients in the heap's order. -/
def St (B tb : Nat) (now most : Int) (H : List Cl) (w : World) : Prop :=
  ∃ mb E clock s, Tab B tb mb now most (ents E) clock H s w ∧ HeapOK (keyOf H) H.length ∧ H.Perm (E.map (·.1)) ∧ (E.map (·.1.id)).Nodup ∧ (∀ x ∈ E, x.2 < clock) ∧ (E.map (·.2)).Nodup

def maxI (a b : Int) : Int := if a < b then b else a
def cutI (m : Int) : Int := if 900 < m then m - 900 else 0

theorem Tab.tick {B tb mb : Nat} {now most : Int} {es : Array MapEntry} {clock : Nat} {H : List Cl} {s : Value} {w : World} (h : Tab B tb mb now most es clock H s w) (n' : Int) :
    Tab B tb mb n' most es clock H s (w.setCell ⟨tb, 0, none⟩ (.int .u64 n')) := by
  refine ⟨by rw [heap_setCell_same _ _ 0 _ _ _ h.tab]; rfl, by rw [heap_setCell_other _ _ _ _ h.tb_mb.symm]; exact h.map, ?_, fun i hi => by rw [heap_setCell_other _ _ _ _ (h.cl_tb hi)]; exact h.cl i hi, h.btb, h.bmb, h.bcl⟩
  exact ownsRow_of_heap h.own fun g hg => heap_setCell_other _ _ _ _ (fun e => h.row_tb (by rw [hg, e]))

def spareB (m n : Int) : Bool := decide (1024 ≤ m) && decide (n ≤ m / 4)

theorem renew_any (b o : Nat) (n : Int) (x : Value) (w : World) (hc : w.cell? ⟨b, o, none⟩ = some x) (hf : w.frozen? ⟨b, o, none⟩ = false) :
    Calls Try.prog 23 #[.pointer (some ⟨b, o, none⟩), .int .i64 n] w fun e w' => e = .returned (.tuple #[]) ∧ w' = w.setCell ⟨b, o, none⟩ (.int .i64 n) := by
  go_enter Try.func23, Try.ntmps23
  go_wp2
  go_end0
  exact ⟨rfl, rfl⟩

theorem spare_any (m n : Int) (w : World) (h0 : 0 ≤ m) (h1 : m ≤ 9223372036854775807) :
    Calls Try.prog 24 #[.agg #[.int .i64 m], .int .i64 n] w fun e w' => e = .returned (.bool (spareB m n)) ∧ w' = w.alloc (.cells #[.int .i64 m] 23) := by
  by_cases c2 : 1024 ≤ m
  · by_cases c4 : n ≤ m / 4
    · have hb : spareB m n = true := by simp [spareB, c2, c4]
      rw [hb]; clear hb
      go_enter Try.func24, Try.ntmps24
      go_wp2
      go_ret
      exact ⟨rfl, rfl⟩
    · have hb : spareB m n = false := by simp [spareB, c2, c4]
      rw [hb]; clear hb
      go_enter Try.func24, Try.ntmps24
      go_wp2
      go_ret
      exact ⟨rfl, rfl⟩
  · have hb : spareB m n = false := by simp [spareB, c2]
    rw [hb]; clear hb
    go_enter Try.func24, Try.ntmps24
    go_wp2
    go_ret
    exact ⟨rfl, rfl⟩

theorem Tab.moved {B tb mb mb2 : Nat} {now most : Int} {es es2 : Array MapEntry} {clock clock2 : Nat} {H : List Cl} {s s2 : Value} {w : World} (h : Tab B tb mb now most es clock H s w)
    (hm : w.heap[mb2]? = some (.map es2 clock2)) (hB : B ≤ mb2) (ho : w.ownsRow B 62 1 s2 H.length (H.map Cl.ptr)) :
    Tab B tb mb2 now most es2 clock2 H s2 ((w.setCell ⟨tb, 1, none⟩ (.map (some mb2))).setCell ⟨tb, 2, none⟩ s2) := by
  have hne : mb2 ≠ tb := fun e => by rw [e, h.tab] at hm; simp at hm
  have hs2 : s2.ownBlock ≠ some tb := fun e => by
    obtain ⟨cur, hc⟩ := own_block ho e
    rw [h.tab] at hc; simp at hc
  refine ⟨?_, by rw [heap_setCell_other _ _ _ _ hne, heap_setCell_other _ _ _ _ hne]; exact hm, ?_, fun i hi => by rw [heap_setCell_other _ _ _ _ (h.cl_tb hi), heap_setCell_other _ _ _ _ (h.cl_tb hi)]; exact h.cl i hi, h.btb, hB, h.bcl⟩
  · have b1 := heap_setCell_same _ _ 1 _ _ (.map (some mb2)) h.tab
    rw [heap_setCell_same _ _ 2 _ _ s2 b1]; rfl
  · exact ownsRow_of_heap ho fun g hg => by rw [heap_setCell_other _ _ _ _ (fun e => hs2 (by rw [hg, e])), heap_setCell_other _ _ _ _ (fun e => hs2 (by rw [hg, e]))]

theorem Tab.room {B tb mb : Nat} {now most : Int} {es : Array MapEntry} {clock : Nat} {H : List Cl} {s : Value} {w : World} (h : Tab B tb mb now most es clock H s w) (n' : Int) :
    Tab B tb mb now n' es clock H s (w.setCell ⟨tb, 3, none⟩ (.int .i64 n')) := by
  refine ⟨by rw [heap_setCell_same _ _ 3 _ _ _ h.tab]; rfl, by rw [heap_setCell_other _ _ _ _ h.tb_mb.symm]; exact h.map, ?_, fun i hi => by rw [heap_setCell_other _ _ _ _ (h.cl_tb hi)]; exact h.cl i hi, h.btb, h.bmb, h.bcl⟩
  exact ownsRow_of_heap h.own fun g hg => heap_setCell_other _ _ _ _ (fun e => h.row_tb (by rw [hg, e]))

/-- The loop of tick: what is left of the heap. -/
structure Lp (B tb mb : Nat) (M most : Int) (clock : Nat) (H : List Cl) (cut : Int) (w0 : World) (H' : List Cl) (E' : List (Cl × Nat)) (s' : Value) (w : World) : Prop where
  tab : Tab B tb mb M most (ents E') clock H' s' w
  ok : HeapOK (keyOf H') H'.length
  perm : H'.Perm (E'.map (·.1))
  ids : (E'.map (·.1.id)).Nodup
  born : ∀ x ∈ E', x.2 < clock
  borns : (E'.map (·.2)).Nodup
  below : Below B w0 w
  sub : ∀ c ∈ H', c ∈ H
  kept : ∀ c ∈ H, cut ≤ c.last → c ∈ H'

theorem Lp.le_len {B tb mb : Nat} {M most : Int} {clock : Nat} {H : List Cl} {cut : Int} {w0 : World} {H' : List Cl} {E' : List (Cl × Nat)} {s' : Value} {w : World}
    (h : Lp B tb mb M most clock H cut w0 H' E' s' w) : H'.length ≤ H.length := by
  refine sub_length ?_ h.sub
  refine h.perm.nodup_iff.2 ?_
  refine nodup_of_map (f := Cl.id) ?_
  rw [List.map_map]
  exact h.ids

def lenAt (w : World) (tb : Nat) : Nat := match w.cell? ⟨tb, 2, none⟩ with | some (.slice _ n _) => n | _ => 0

theorem Lp.lenAt_eq {B tb mb : Nat} {M most : Int} {clock : Nat} {H : List Cl} {cut : Int} {w0 : World} {H' : List Cl} {E' : List (Cl × Nat)} {s' : Value} {w : World}
    (h : Lp B tb mb M most clock H cut w0 H' E' s' w) : lenAt w tb = H'.length := by
  obtain ⟨a, cap, hs, _⟩ := h.tab.form'
  have := h.tab.cell_tab.2.2.1
  subst hs
  simp [lenAt, this]

theorem Lp.moved {B tb mb : Nat} {M most : Int} {clock : Nat} {H : List Cl} {cut : Int} {w0 : World} {H' : List Cl} {E' : List (Cl × Nat)} {s' : Value} {w w' : World}
    (h : Lp B tb mb M most clock H cut w0 H' E' s' w) (hb : ∀ k, k < w.heap.size → w'.heap[k]? = w.heap[k]?) (hb' : Below B w w') : Lp B tb mb M most clock H cut w0 H' E' s' w' :=
  ⟨h.tab.kept hb, h.ok, h.perm, h.ids, h.born, h.borns, h.below.trans hb', h.sub, h.kept⟩

theorem Lp.st {B tb mb : Nat} {M most : Int} {clock : Nat} {H : List Cl} {cut : Int} {w0 : World} {H' : List Cl} {E' : List (Cl × Nat)} {s' : Value} {w : World}
    (h : Lp B tb mb M most clock H cut w0 H' E' s' w) : St B tb M most H' w := ⟨mb, E', clock, s', h.tab, h.ok, h.perm, h.ids, h.born, h.borns⟩

theorem Lp.fin {B tb mb : Nat} {M most : Int} {clock : Nat} {H : List Cl} {cut : Int} {w0 : World} {H' : List Cl} {E' : List (Cl × Nat)} {s' : Value} {w : World}
    (h : Lp B tb mb M most clock H cut w0 H' E' s' w) (hg : ∀ c ∈ H', cut ≤ c.last) (c : Cl) : c ∈ H' ↔ (c ∈ H ∧ cut ≤ c.last) :=
  ⟨fun hc => ⟨h.sub c hc, hg c hc⟩, fun hc => h.kept c hc.1 hc.2⟩

theorem run_lenmap (mb : Nat) (es : Array MapEntry) (clock : Nat) (w : World) (hm : w.heap[mb]? = some (.map es clock)) : (Builtin.len_ #[52] 3 #[.map (some mb)]).run Try.prog w = .ok (.int .i64 es.size) w := by
  have h2 := Go.MapKept.run_getObj_map (P := Try.prog) hm
  simp [Builtin.len_, h2, goInt]

theorem St.kept {B tb : Nat} {now most : Int} {H : List Cl} {w w' : World} (h : St B tb now most H w) (hb : ∀ k, k < w.heap.size → w'.heap[k]? = w.heap[k]?) : St B tb now most H w' := by
  obtain ⟨mb, E, clock, s, hT, r⟩ := h
  exact ⟨mb, E, clock, s, hT.kept hb, r⟩

theorem Lp.st_moved {B tb mb mb2 : Nat} {M most most' : Int} {clock : Nat} {H : List Cl} {cut : Int} {w0 : World} {H' : List Cl} {E' L : List (Cl × Nat)} {s' s2 : Value} {w w2 : World}
    (h : Lp B tb mb M most clock H cut w0 H' E' s' w) (hT : Tab B tb mb2 M most' (ents (reborn L)) L.length H' s2 w2) (hp : L.Perm E') : St B tb M most' H' w2 := by
  have e1 : (reborn L).map (·.1) = L.map (·.1) := by simp [reborn]
  have e2 : (reborn L).map (·.2) = List.range' 0 L.length := by simp [reborn]
  refine ⟨mb2, reborn L, L.length, s2, hT, h.ok, ?_, ?_, ?_, ?_⟩
  · rw [e1]; exact h.perm.trans (hp.map _).symm
  · have : (reborn L).map (·.1.id) = ((reborn L).map (·.1)).map Cl.id := by rw [List.map_map]; rfl
    rw [this, e1, List.map_map]
    exact ((hp.map (fun x : Cl × Nat => x.1.id)).nodup_iff).2 h.ids
  · intro x hx
    have : x.2 ∈ (reborn L).map (·.2) := List.mem_map.2 ⟨x, hx, rfl⟩
    rw [e2, List.mem_range'] at this
    omega
  · rw [e2]; exact List.nodup_range'

theorem pop_tab' {B tb mb : Nat} {now most : Int} {es : Array MapEntry} {clock : Nat} {s : Value} {w : World} {c : Cl} {T : List Cl} (h : Tab B tb mb now most es clock (c :: T) s w) (hn : T.length + 1 ≤ 1000000) (hok : HeapOK (keyOf (c :: T)) (T.length + 1)) :
    Calls Try.prog 33 #[.iface 65 (.pointer (some ⟨tb, 2, none⟩))] w fun e w' => e = .returned (.iface 62 (.pointer (some ⟨c.blk, 0, none⟩))) ∧
      ∃ H' s', H'.Perm T ∧ HeapOK (keyOf H') H'.length ∧ Tab B tb mb now most es clock H' s' w' ∧ Below B w w' ∧ ∃ k, w'.heap[c.blk]? = some (.cells (c.cells k) 61 (0, 0)) :=
  pop_tab h hn hok

theorem Lp.find {B tb mb : Nat} {M most : Int} {clock : Nat} {H : List Cl} {cut : Int} {w0 : World} {c : Cl} {T : List Cl} {E' : List (Cl × Nat)} {s' : Value} {w : World}
    (h : Lp B tb mb M most clock H cut w0 (c :: T) E' s' w) : ∃ j b : Nat, E'[j]? = some (c, b) := by
  have hm : c ∈ E'.map (·.1) := h.perm.mem_iff.1 (List.mem_cons_self ..)
  obtain ⟨⟨c', b⟩, hx, rfl⟩ := List.mem_map.1 hm
  obtain ⟨j, hj⟩ := List.getElem?_of_mem hx
  exact ⟨j, b, hj⟩

theorem Lp.all_ge {B tb mb : Nat} {M most : Int} {clock : Nat} {H : List Cl} {cut : Int} {w0 : World} {c : Cl} {T : List Cl} {E' : List (Cl × Nat)} {s' : Value} {w : World}
    (h : Lp B tb mb M most clock H cut w0 (c :: T) E' s' w) (hc : ¬ c.last < cut) : ∀ c' ∈ c :: T, cut ≤ c'.last := by
  intro c' hc'
  obtain ⟨i, hi, rfl⟩ := List.getElem_of_mem hc'
  have := heap_min h.ok i i (Nat.le_refl _) hi
  rw [keyOf_lt hi, keyOf_lt (by simp : 0 < (c :: T).length)] at this
  rw [List.getElem_cons_zero] at this
  omega

theorem Lp.popped {B tb mb : Nat} {M most : Int} {clock : Nat} {H : List Cl} {cut : Int} {w0 : World} {c : Cl} {T : List Cl} {E' : List (Cl × Nat)} {s' : Value} {w : World}
    (h : Lp B tb mb M most clock H cut w0 (c :: T) E' s' w) (hc : c.last < cut) {j b : Nat} (hj : E'[j]? = some (c, b)) {H3 : List Cl} {s3 : Value} {w3 : World} (hp : H3.Perm T) (hok : HeapOK (keyOf H3) H3.length)
    (hT : Tab B tb mb M most (ents E') clock H3 s3 w3) (hb : Below B w w3) : Lp B tb mb M most clock H cut w0 H3 (E'.eraseIdx j) s3 (setBlock w3 mb (.map (ents (E'.eraseIdx j)) clock)) := by
  have hl : j < E'.length := (List.getElem?_eq_some_iff.1 hj).1
  have hget : E'[j] = (c, b) := (List.getElem?_eq_some_iff.1 hj).2
  have hpe : ((c, b) :: E'.eraseIdx j).Perm E' := by
    rw [List.eraseIdx_eq_take_drop_succ]
    have e : E' = E'.take j ++ (c, b) :: E'.drop (j + 1) := by
      rw [← hget, ← List.drop_eq_getElem_cons hl, List.take_append_drop]
    exact List.perm_middle.symm.trans (by rw [← e])
  have hsubl : (E'.eraseIdx j).Sublist E' := List.eraseIdx_sublist E' j
  refine ⟨hT.put _ _, hok, ?_, (hsubl.map _).nodup h.ids, fun x hx => h.born x (hsubl.subset hx), (hsubl.map _).nodup h.borns, below_setBlock (h.below.trans hb) hT.bmb _, ?_, ?_⟩
  · have h1 : (c :: T).Perm (c :: (E'.eraseIdx j).map (·.1)) := h.perm.trans (hpe.map (·.1)).symm
    exact hp.trans h1.cons_inv
  · intro c' hc'
    exact h.sub c' (List.mem_cons_of_mem _ (hp.mem_iff.1 hc'))
  · intro c' hc' hcut
    have := h.kept c' hc' hcut
    rcases List.mem_cons.1 this with rfl | h1
    · omega
    · exact hp.mem_iff.2 h1

set_option maxHeartbeats 4000000 in
set_option maxRecDepth 100000 in
theorem tick_any {B tb mb : Nat} {now most at_ : Int} {E : List (Cl × Nat)} {clock : Nat} {H : List Cl} {s : Value} {w : World} (h : Tab B tb mb now most (ents E) clock H s w) (hok : HeapOK (keyOf H) H.length) (hp : H.Perm (E.map (·.1))) (hid : (E.map (·.1.id)).Nodup) (hbc : ∀ x ∈ E, x.2 < clock) (hbn : (E.map (·.2)).Nodup)
    (hn : H.length ≤ 1000000) (hnow : 0 ≤ now) (hnow' : now ≤ 18446744073709551615) (hat : 0 ≤ at_) (hat' : at_ ≤ 18446744073709551615) (hmost : 0 ≤ most) (hmost' : most ≤ 9223372036854775807) :
    Calls Try.prog 28 #[.pointer (some ⟨tb, 0, none⟩), .int .u64 at_] w fun e w' => e = .returned (.tuple #[]) ∧ ∃ H' most', St B tb (maxI now at_) most' H' w' ∧ Below B w w' ∧ (∀ c, c ∈ H' ↔ (c ∈ H ∧ cutI (maxI now at_) ≤ c.last)) ∧ most' = (if spareB most H'.length then (H'.length : Int) else most) := by
  have HH : Hid (Tab B tb mb now most (ents E) clock H s w) := h
  have c0 := h.cell_tab.1
  have f0 := h.frozen_tab 0
  clear h
  go_enter Try.func28, Try.ntmps28
  go_upto_region 0 with fail
  go_cut [] (fun wx => wx = w.setCell ⟨tb, 0, none⟩ (.int .u64 (maxI now at_)))
  case first =>
    by_cases hm : now < at_
    · have HE : Hid (maxI now at_ = at_) := if_pos hm
      go_wp2_with fail
      go_meet
      case rel => rw [HE.out]
    · have HE : Hid (maxI now at_ = now) := if_neg hm
      go_wp2_with fail
      go_meet
      case rel => rw [HE.out]
  case rest =>
    subst hcut
    have hM : Hid (0 ≤ maxI now at_ ∧ maxI now at_ ≤ 18446744073709551615) := by
      show 0 ≤ maxI now at_ ∧ maxI now at_ ≤ 18446744073709551615
      unfold maxI; split <;> omega
    have HT : Hid (Tab B tb mb (maxI now at_) most (ents E) clock H s (w.setCell ⟨tb, 0, none⟩ (.int .u64 (maxI now at_)))) := HH.out.tick _
    have HB : Hid (Below B w (w.setCell ⟨tb, 0, none⟩ (.int .u64 (maxI now at_)))) := (Below.refl B w).setCell HH.out.btb _
    clear c0 f0 hnow hnow' hat hat' HH
    generalize w.setCell ⟨tb, 0, none⟩ (.int .u64 (maxI now at_)) = w1 at *
    generalize hMe : maxI now at_ = M at *
    have HME : Hid (maxI now at_ = M) := hMe
    clear hMe
    have c0 := HT.out.cell_tab.1
    go_upto_region 1 with fail
    go_cut [4] (fun c wx => c = .int .u64 (cutI M) ∧ ∃ n, wx = w1.drewN n)
    case first =>
      obtain ⟨hM0, hM1⟩ := hM.out
      by_cases hm : 900 < M
      · have HE : Hid (cutI M = M - 900) := if_pos hm
        go_quiet (fail)
        go_wp2_with fail
        go_meet
        case rel => exact ⟨by rw [HE.out], _, rfl⟩
      · have HE : Hid (cutI M = 0) := if_neg hm
        go_quiet (fail)
        go_wp2_with fail
        go_meet
        case rel => exact ⟨by rw [HE.out], _, rfl⟩
    case rest =>
      obtain ⟨rfl, n1, rfl⟩ := hcut
      generalize hcut : cutI M = cut at *
      have HC : Hid (cutI M = cut) := hcut
      clear hcut c0
      have HT1 : Hid (Tab B tb mb M most (ents E) clock H s (w1.drewN n1)) := HT.out.kept fun _ _ => rfl
      have HB1 : Hid (Below B w (w1.drewN n1)) := below_drewN HB.out n1
      generalize w1.drewN n1 = w2 at *
      clear HT HB
      have hL0 : Lp B tb mb M most clock H cut w H E s w2 := ⟨HT1.out, hok, hp, hid, hbc, hbn, HB1.out, fun c hc => hc, fun c hc _ => hc⟩
      have HL0 : Hid (Lp B tb mb M most clock H cut w H E s w2) := hL0
      clear hL0 hok hp hid hbc hbn
      go_upto_block 0 with fail
      go_cut [] (fun wx => ∃ H' E' s', Lp B tb mb M most clock H cut w H' E' s' wx ∧ ∀ c ∈ H', cut ≤ c.last)
      case first =>
        go_wp2_with fail
        go_loopw [43] (fun _ wr => ∃ H' E' s', Lp B tb mb M most clock H cut w H' E' s' wr) (fun _ wr => lenAt wr tb)
        case atStart => exact ⟨H, E, s, HL0.out⟩
        case round =>
          obtain ⟨H', E', s', hL⟩ := hrel
          have ht := hL.tab.cell_tab.2.2.1
          have hlen : H'.length ≤ 1000000 := Nat.le_trans hL.le_len hn
          cases H' with
          | nil =>
            obtain ⟨a, cap, hs, hle⟩ := hL.tab.form'
            subst hs
            have HL : Hid (Lp B tb mb M most clock H cut w [] E' (.slice a 0 cap) wr) := hL
            rw [List.length_nil] at ht
            clear hL
            go_wp2_with fail
            go_meet
            case rel => exact ⟨[], E', _, HL.out, by simp⟩
          | cons c T =>
            obtain ⟨g, cap, hs⟩ := hL.tab.form (by simp)
            rw [List.length_cons] at hs
            subst hs
            have hT' : Tab B tb mb M most (ents E') clock (c :: T) (.slice (some ⟨g, 0, none⟩) (c :: T).length cap) wr := hL.tab
            have hr0 := hT'.cell_row (i := 0) (by simp)
            have hl0 := hT'.cell_last (i := 0) (by simp)
            rw [List.getElem_cons_zero] at hr0 hl0
            have HL : Hid (Lp B tb mb M most clock H cut w (c :: T) E' (.slice (some ⟨g, 0, none⟩) (T.length + 1) cap) wr) := hL
            have hmap := hT'.cell_tab.2.1
            have hlenT : T.length + 1 ≤ 1000000 := by simpa using hlen
            clear hL hT' hlen
            by_cases hlt : c.last < cut
            · obtain ⟨j, b, hj⟩ : ∃ j b : Nat, E'[j]? = some (c, b) := HL.out.find
              have HLT : Hid (c.last < cut) := hlt
              go_upto_region 3 with fail
              go_region_with (go_at_call 33; refine (pop_tab' (HL.out.tab.kept (w' := wr.drew) fun _ _ => rfl) hlenT HL.out.ok).mono ?_; rintro e w3 ⟨rfl, H3, s3, hp3, hok3, hT3, hb3, k3, hc3⟩; have hm3 := hT3.cell_tab.2.1; have hid3 : w3.cell? ⟨c.blk, 0, none⟩ = some (.string c.id) := (by rw [cell_of_row w3 _ 0 _ _ _ hc3]; rfl); have hdel := run_delete mb clock E' j (c, b) 0 w3 hT3.map HL.out.ids hj; have hta := assert62 (.pointer (some ⟨c.blk, 0, none⟩)) w3)
              all_goals
                have HP : Hid (Lp B tb mb M most clock H cut w H3 (E'.eraseIdx j) s3 (setBlock w3 mb (.map (ents (E'.eraseIdx j)) clock))) := HL.out.popped HLT.out hj hp3 hok3 hT3 ((Below.refl B wr).drew.trans hb3)
                have HLE : Hid (H3.length = T.length) := hp3.length_eq
                clear hp3 hok3 hT3 hb3 hc3 hm3 hid3 hdel hta
                go_wp2_with fail
                go_roundw
                case rel => exact ⟨H3, _, s3, HP.out⟩
                case measure =>
                  rw [HP.out.lenAt_eq, HL.out.lenAt_eq, HLE.out, List.length_cons]
                  omega
            · have HG : Hid (∀ c' ∈ c :: T, cut ≤ c'.last) := HL.out.all_ge hlt
              go_wp2_with fail
              go_meet
              case rel => exact ⟨c :: T, E', _, HL.out, HG.out⟩
      case rest =>
        obtain ⟨H', E', s', hL, hge⟩ := hcut
        obtain ⟨a, cap, hs, hle⟩ := hL.tab.form'
        subst hs
        have HL : Hid (Lp B tb mb M most clock H cut w H' E' (.slice a H'.length cap) wc) := hL
        have HG : Hid (∀ c ∈ H', cut ≤ c.last) := hge
        have hc2 := hL.tab.cell_tab.2.2.1
        have hc3 := hL.tab.cell_tab.2.2.2
        have hlen : H'.length ≤ 1000000 := Nat.le_trans hL.le_len hn
        clear hL hge hle
        go_upto_region 4 with fail
        go_cut [66] (fun b wx => b = .bool (spareB most H'.length) ∧ wx = (wc.alloc (.cells #[.int .i64 most] 23)).drew)
        case first =>
          go_region_with (go_at_call 24; refine (spare_any most H'.length wc.drew hmost hmost').mono ?_; rintro e w3 ⟨rfl, rfl⟩)
          all_goals
            go_wp2_with fail
            go_meet
            case rel => exact ⟨rfl, rfl⟩
        case rest =>
          obtain ⟨rfl, rfl⟩ := hcut
          have HL4 : Hid (Lp B tb mb M most clock H cut w H' E' (.slice a H'.length cap) (wc.alloc (.cells #[.int .i64 most] 23)).drew) :=
            HL.out.moved (fun k hk => Below.heap_alloc _ _ _ hk) (((Below.refl B wc).alloc (by have := HL.out.tab.btb; have := HL.out.tab.lts.1; omega) _).drew)
          generalize (wc.alloc (.cells #[.int .i64 most] 23)).drew = w4 at *
          clear HL hc2 hc3
          cases hsp : spareB most H'.length with
          | false =>
            have HSP : Hid (spareB most H'.length = false) := hsp
            clear hsp
            go_wp2_with fail
            go_end0
            refine ⟨rfl, H', most, ?_, HL4.out.below, ?_, by rw [HSP.out]; rfl⟩
            · rw [HME.out]; exact HL4.out.st
            · rw [HME.out, HC.out]; exact HL4.out.fin HG.out
          | true =>
            have HSP : Hid (spareB most H'.length = true) := hsp
            clear hsp
            have hc1 := HL4.out.tab.cell_tab.2.1
            have hlm := run_lenmap mb (ents E') clock w4 HL4.out.tab.map
            have hmm := run_makeMap_hint (ents E').size w4
            have HT5 : Hid (Tab B tb mb M most (ents E') clock H' (.slice a H'.length cap) (w4.alloc (.map #[] 0))) := HL4.out.tab.kept fun k hk => Below.heap_alloc _ _ _ hk
            have hc1' := HT5.out.cell_tab.2.1
            have HN5 : Hid ((w4.alloc (.map #[] 0)).heap[w4.heap.size]? = some (.map #[] 0)) := heap_alloc_new _ _
            have HB5 : Hid (Below B w (w4.alloc (.map #[] 0))) := HL4.out.below.alloc (by have := HL4.out.tab.btb; have := HL4.out.tab.lts.1; omega) _
            go_wp2_with fail
            refine (copy_any (w4.alloc (.map #[] 0)) mb w4.heap.size clock E' HT5.out.map HN5.out (Nat.ne_of_lt HL4.out.tab.lts.2.1) HL4.out.born HL4.out.borns HL4.out.ids).mono ?_
            rintro e w6 ⟨rfl, L, hLp, hC⟩
            have HT6 : Hid (Tab B tb mb M most (ents E') clock H' (.slice a H'.length cap) w6) :=
              HL4.out.tab.kept fun k hk => (hC.old k (by simp; omega) (by omega)).trans (Below.heap_alloc _ _ _ hk)
            have HB6 : Hid (Below B w w6) := HB5.out.trans ⟨hC.os, hC.tape, hC.output, by rw [hC.size]; omega, fun k hk => hC.old k (by have := HL4.out.tab.btb; have := HL4.out.tab.lts.1; simp; omega) (by have := HL4.out.tab.btb; have := HL4.out.tab.lts.1; omega)⟩
            have HD6 : Hid (w6.heap[w4.heap.size]? = some (.map (ents (reborn L)) L.length)) := hC.dst
            have HLp : Hid (L.Perm E') := hLp
            have hc2 := HT6.out.cell_tab.2.2.1
            clear hc1 hlm hmm hc1' HN5 HB5 hC hLp
            go_wp2_with fail
            refine (clone_any w6 B H'.length _ (H'.map Cl.ptr) HT6.out.own (by have := HT6.out.btb; have := HT6.out.lts.1; omega) hlen (fun u hu => by obtain ⟨c, _, rfl⟩ := List.mem_map.1 hu; rfl)).mono ?_
            rintro e w7 ⟨s2, rfl, ho7, hg7⟩
            have HT7 : Hid (Tab B tb mb M most (ents E') clock H' (.slice a H'.length cap) w7) := HT6.out.kept fun k hk => hg7.block k hk (by simp)
            have HB7 : Hid (Below B w w7) := HB6.out.grown hg7 (by have := HT6.out.btb; have := HT6.out.lts.1; omega) (fun k hk => by cases hk)
            have HD7 : Hid (w7.heap[w4.heap.size]? = some (.map (ents (reborn L)) L.length)) := by
              show w7.heap[w4.heap.size]? = _
              rw [hg7.block _ (by
                have := HD6.out
                rcases Nat.lt_or_ge w4.heap.size w6.heap.size with h | h
                · exact h
                · rw [Array.getElem?_eq_none h] at this; cases this) (by simp)]
              exact HD6.out
            have HO7 : Hid (w7.ownsRow B 62 1 s2 H'.length (H'.map Cl.ptr)) := own_base ho7 (by have := HT6.out.btb; have := HT6.out.lts.1; omega)
            have HM8 : Hid (Tab B tb w4.heap.size M most (ents (reborn L)) L.length H' s2 ((w7.setCell ⟨tb, 1, none⟩ (.map (some w4.heap.size))).setCell ⟨tb, 2, none⟩ s2)) :=
              HT7.out.moved HD7.out (by have := HL4.out.tab.btb; have := HL4.out.tab.lts.1; omega) HO7.out
            have hc71 := HT7.out.cell_tab.2.1
            have hc72 := HT7.out.cell_tab.2.2.1
            have hf71 := HT7.out.frozen_tab 1
            have hf72 := HT7.out.frozen_tab 2
            obtain ⟨a2, cap2, hs2, _⟩ := HM8.out.form'
            subst hs2
            have HB8 : Hid (Below B w ((w7.setCell ⟨tb, 1, none⟩ (.map (some w4.heap.size))).setCell ⟨tb, 2, none⟩ (.slice a2 H'.length cap2))) := (HB7.out.setCell HT7.out.btb _).setCell HT7.out.btb _
            clear hc2 ho7 hg7
            go_upto_region 8 with fail
            generalize (w7.setCell ⟨tb, 1, none⟩ (.map (some w4.heap.size))).setCell ⟨tb, 2, none⟩ (.slice a2 H'.length cap2) = w8 at *
            clear hc71 hc72 hf71 hf72 HO7 HD7 HB7 HT7
            have hc82 := HM8.out.cell_tab.2.2.1
            have hc83 := HM8.out.cell_tab.2.2.2
            have hf83 := HM8.out.frozen_tab 3
            have HR : Hid (St B tb M (H'.length : Int) H' (w8.setCell ⟨tb, 3, none⟩ (.int .i64 H'.length))) := HL4.out.st_moved (HM8.out.room _) HLp.out
            have HBR : Hid (Below B w (w8.setCell ⟨tb, 3, none⟩ (.int .i64 H'.length))) := HB8.out.setCell HM8.out.btb _
            go_region_with (go_at_call 23; refine (renew_any tb 3 H'.length (.int .i64 most) w8.drew hc83 hf83).mono ?_; rintro e w9 ⟨rfl, rfl⟩)
            all_goals
              go_wp2_with fail
              go_end0
              refine ⟨rfl, H', H'.length, ?_, HBR.out.drew, ?_, by rw [HSP.out]; rfl⟩
              · rw [HME.out]; exact HR.out.kept fun _ _ => rfl
              · rw [HME.out, HC.out]; exact HL4.out.fin HG.out
end Go.Proofs.Qxb6616160a.Tick
