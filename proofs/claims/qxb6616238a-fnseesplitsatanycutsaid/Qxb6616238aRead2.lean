import Derived.Test.Qxb6616238aRead
namespace Go.Proofs.Qxb6616238a.Grow
set_option linter.unusedVariables false
set_option linter.unusedSimpArgs false
set_option maxRecDepth 100000
open Go.ChangeShapes Go.WideShapes Go.ChangeAt Go.RowKit Go.Lib

/-- A made row that is being filled. -/
def TOwn (B : Nat) (w : World) (g : Nat) (es : List (Bool × Int)) : Prop := B ≤ g ∧ (∀ x, w.frozen? ⟨g, x, none⟩ = false) ∧ ∀ i (h : i < es.length), w.cell? ⟨g, i * 2, none⟩ = some (.bool (es[i]).1) ∧ w.cell? ⟨g, i * 2 + 1, none⟩ = some (.int .i64 (es[i]).2)
def POwn (B : Nat) (w : World) (g : Nat) (ps : List Msg3) : Prop := B ≤ g ∧ (∀ x, w.frozen? ⟨g, x, none⟩ = false) ∧ ∀ i (h : i < ps.length), w.cell? ⟨g, i * 3, none⟩ = some (.int .u8 (ps[i]).1) ∧ w.cell? ⟨g, i * 3 + 1, none⟩ = some (.int .i64 (ps[i]).2.1) ∧ w.cell? ⟨g, i * 3 + 2, none⟩ = some (.int .i64 (ps[i]).2.2)

theorem TOwn.row {B : Nat} {w : World} {g : Nat} {es : List (Bool × Int)} (h : TOwn B w g es) : TRow w (some ⟨g, 0, none⟩) es := by
  intro i hi
  obtain ⟨h1, h2⟩ := h.2.2 i hi
  exact ⟨g, 0, rfl, by rw [Nat.zero_add]; exact h1, by rw [Nat.zero_add]; exact h2, World.block_lt_of_cell? w _ h1⟩
theorem POwn.row {B : Nat} {w : World} {g : Nat} {ps : List Msg3} (h : POwn B w g ps) : PRow w (some ⟨g, 0, none⟩) ps := by
  intro i hi
  obtain ⟨h1, h2, h3⟩ := h.2.2 i hi
  exact ⟨g, 0, rfl, by rw [Nat.zero_add]; exact h1, by rw [Nat.zero_add]; exact h2, by rw [Nat.zero_add]; exact h3, World.block_lt_of_cell? w _ h1⟩

theorem TOwn.kept {B : Nat} {w w' : World} {g : Nat} {es : List (Bool × Int)} (h : TOwn B w g es) (hg : w'.heap[g]? = w.heap[g]?) : TOwn B w' g es := by
  refine ⟨h.1, fun x => ?_, fun i hi => ?_⟩
  · rw [World.frozen?_of_block (w := w) (a := ⟨g, x, none⟩) hg]; exact h.2.1 x
  · rw [World.cell?_of_block (w := w) (a := ⟨g, i * 2, none⟩) hg, World.cell?_of_block (w := w) (a := ⟨g, i * 2 + 1, none⟩) hg]; exact h.2.2 i hi
theorem POwn.kept {B : Nat} {w w' : World} {g : Nat} {ps : List Msg3} (h : POwn B w g ps) (hg : w'.heap[g]? = w.heap[g]?) : POwn B w' g ps := by
  refine ⟨h.1, fun x => ?_, fun i hi => ?_⟩
  · rw [World.frozen?_of_block (w := w) (a := ⟨g, x, none⟩) hg]; exact h.2.1 x
  · rw [World.cell?_of_block (w := w) (a := ⟨g, i * 3, none⟩) hg, World.cell?_of_block (w := w) (a := ⟨g, i * 3 + 1, none⟩) hg, World.cell?_of_block (w := w) (a := ⟨g, i * 3 + 2, none⟩) hg]; exact h.2.2 i hi

theorem ne_addr {g x y : Nat} (h : x ≠ y) : (⟨g, x, none⟩ : Addr) ≠ ⟨g, y, none⟩ := fun e => h (by injection e)

theorem TOwn.set {B : Nat} {w : World} {g : Nat} {es : List (Bool × Int)} (h : TOwn B w g es) (i : Nat) (hi : i < es.length) (b : Bool) (r : Int) :
    TOwn B ((w.setCell ⟨g, i * 2, none⟩ (.bool b)).setCell ⟨g, i * 2 + 1, none⟩ (.int .i64 r)) g (es.set i (b, r)) := by
  refine ⟨h.1, fun x => by simpa using h.2.1 x, fun j hj => ?_⟩
  have hj' : j < es.length := by simpa using hj
  obtain ⟨h1, h2⟩ := h.2.2 j hj'
  by_cases e : i = j
  · subst e
    rw [World.cell?_setCell_other _ _ _ _ (ne_addr (by omega)), World.cell?_setCell_same _ _ _ h1, World.cell?_setCell_same _ _ _ (by rw [World.cell?_setCell_other _ _ _ _ (ne_addr (by omega))]; exact h2)]
    simp
  · rw [World.cell?_setCell_other _ _ _ _ (ne_addr (by omega)), World.cell?_setCell_other _ _ _ _ (ne_addr (by omega)), World.cell?_setCell_other _ _ _ _ (ne_addr (by omega)), World.cell?_setCell_other _ _ _ _ (ne_addr (by omega))]
    rw [List.getElem_set_ne e]
    exact ⟨h1, h2⟩
theorem POwn.set {B : Nat} {w : World} {g : Nat} {ps : List Msg3} (h : POwn B w g ps) (i : Nat) (hi : i < ps.length) (t a r : Int) :
    POwn B (((w.setCell ⟨g, i * 3, none⟩ (.int .u8 t)).setCell ⟨g, i * 3 + 1, none⟩ (.int .i64 a)).setCell ⟨g, i * 3 + 2, none⟩ (.int .i64 r)) g (ps.set i (t, a, r)) := by
  refine ⟨h.1, fun x => by simpa using h.2.1 x, fun j hj => ?_⟩
  have hj' : j < ps.length := by simpa using hj
  obtain ⟨h1, h2, h3⟩ := h.2.2 j hj'
  by_cases e : i = j
  · subst e
    refine ⟨?_, ?_, ?_⟩
    · rw [World.cell?_setCell_other _ _ _ _ (ne_addr (by omega)), World.cell?_setCell_other _ _ _ _ (ne_addr (by omega)), World.cell?_setCell_same _ _ _ h1]; simp
    · rw [World.cell?_setCell_other _ _ _ _ (ne_addr (by omega)), World.cell?_setCell_same _ _ _ (by rw [World.cell?_setCell_other _ _ _ _ (ne_addr (by omega))]; exact h2)]; simp
    · rw [World.cell?_setCell_same _ _ _ (by rw [World.cell?_setCell_other _ _ _ _ (ne_addr (by omega)), World.cell?_setCell_other _ _ _ _ (ne_addr (by omega))]; exact h3)]; simp
  · refine ⟨?_, ?_, ?_⟩ <;> rw [World.cell?_setCell_other _ _ _ _ (ne_addr (by omega)), World.cell?_setCell_other _ _ _ _ (ne_addr (by omega)), World.cell?_setCell_other _ _ _ _ (ne_addr (by omega)), List.getElem_set_ne e] <;> assumption

theorem info72 : (Try.prog.info? 72).map (fun i => (i.zero, i.size, i.bytes)) = some (some (Value.agg #[.bool false, .int .i64 0]), 2, 16) := by kernel_rfl
theorem info76 : (Try.prog.info? 76).map (fun i => (i.zero, i.size, i.bytes)) = some (some (Value.agg #[.int .u8 0, .int .i64 0, .int .i64 0]), 3, 24) := by kernel_rfl

theorem made_T {B g n : Nat} {w : World} (h : w.ownsRow B 72 2 (.slice (some ⟨g, 0, none⟩) n n) n (madeCells (Value.agg #[.bool false, .int .i64 0]).cells (n * 2)).toList) : TOwn B w g (List.replicate n (false, 0)) := by
  refine ⟨(h.lt g rfl).1, fun x => h.frozenAt x, fun i hi => ?_⟩
  have hi' : i < n := by simpa using hi
  rw [h.cellAt (i * 2) (by omega), h.cellAt (i * 2 + 1) (by omega)]
  simp only [madeCells, Value.cells, Array.getElem?_toList, Array.getElem?_map, Array.getElem?_range, List.getElem_replicate]
  rw [if_pos (by omega), if_pos (by omega)]
  simp only [List.size_toArray, List.length_cons, List.length_nil, Option.map_some]
  rw [show i * 2 % (0 + 1 + 1) = 0 by omega, show (i * 2 + 1) % (0 + 1 + 1) = 1 by omega]
  exact ⟨rfl, rfl⟩
theorem made_P {B g n : Nat} {w : World} (h : w.ownsRow B 76 3 (.slice (some ⟨g, 0, none⟩) n n) n (madeCells (Value.agg #[.int .u8 0, .int .i64 0, .int .i64 0]).cells (n * 3)).toList) : POwn B w g (List.replicate n (0, 0, 0)) := by
  refine ⟨(h.lt g rfl).1, fun x => h.frozenAt x, fun i hi => ?_⟩
  have hi' : i < n := by simpa using hi
  rw [h.cellAt (i * 3) (by omega), h.cellAt (i * 3 + 1) (by omega), h.cellAt (i * 3 + 2) (by omega)]
  simp only [madeCells, Value.cells, Array.getElem?_toList, Array.getElem?_map, Array.getElem?_range, List.getElem_replicate]
  rw [if_pos (by omega), if_pos (by omega), if_pos (by omega)]
  simp only [List.size_toArray, List.length_cons, List.length_nil, Option.map_some]
  rw [show i * 3 % (0 + 1 + 1 + 1) = 0 by omega, show (i * 3 + 1) % (0 + 1 + 1 + 1) = 1 by omega, show (i * 3 + 2) % (0 + 1 + 1 + 1) = 2 by omega]
  exact ⟨rfl, rfl, rfl⟩

theorem fill_set {α : Type} (xs : List α) (z : α) (k : Nat) (hk : k < xs.length) : (xs.take k ++ List.replicate (xs.length - k) z).set k xs[k] = xs.take (k + 1) ++ List.replicate (xs.length - (k + 1)) z := by
  have hl : (xs.take k).length = k := by rw [List.length_take]; omega
  rw [List.set_append_right _ _ (by omega), hl, Nat.sub_self, show xs.length - k = (xs.length - (k + 1)) + 1 by omega, List.replicate_succ, List.set_cons_zero, List.take_succ_eq_append_getElem hk, List.append_assoc]
  rfl
theorem fill_len {α : Type} (xs : List α) (z : α) (k : Nat) (hk : k ≤ xs.length) : (xs.take k ++ List.replicate (xs.length - k) z).length = xs.length := by
  rw [List.length_append, List.length_take, List.length_replicate]; omega
theorem fill_skip {α : Type} (xs : List α) (z : α) (k : Nat) (hk : k < xs.length) (he : xs[k] = z) : xs.take k ++ List.replicate (xs.length - k) z = xs.take (k + 1) ++ List.replicate (xs.length - (k + 1)) z := by
  rw [show xs.length - k = (xs.length - (k + 1)) + 1 by omega, List.replicate_succ, List.take_succ_eq_append_getElem hk, he]
  simp
theorem fill_at {α : Type} (xs : List α) (z : α) (k : Nat) (hk : k < xs.length) (h : k < (xs.take k ++ List.replicate (xs.length - k) z).length) : (xs.take k ++ List.replicate (xs.length - k) z)[k] = z := by
  have hl : (xs.take k).length = k := by rw [List.length_take]; omega
  rw [List.getElem_append_right (by omega)]
  simp

set_option maxHeartbeats 4000000 in
theorem read_any (B ib nb : Nat) (ci cn : Array Value) (ev pv : Value) (num seen lift : Int) (ts : List Pl) (ps : List Msg3) (w : World) (h : InstP B ib nb ci cn ev pv num seen lift ts ps w) (hts : ts.length ≤ 65536) (hps : ps.length ≤ 65536) :
    Calls Try.prog 16 #[.pointer (some ⟨ib, 0, none⟩)] w fun e w' => ∃ ga gp, e = .returned (.tuple #[.slice (some ⟨ga, 0, none⟩) ts.length ts.length, .slice (some ⟨gp, 0, none⟩) ps.length ps.length]) ∧ Ext w w' ∧ TRow w' (some ⟨ga, 0, none⟩) (ts.map fun t => toT (Option.map Prod.snd t)) ∧ PRow w' (some ⟨gp, 0, none⟩) ps := by
  obtain ⟨i0, hi, hz0, hz1, hz2⟩ := info_parts info72
  obtain ⟨j0, hj, hy0, hy1, hy2⟩ := info_parts info76
  have H : Hid (InstP B ib nb ci cn ev pv num seen lift ts ps w) := h
  clear h
  obtain ⟨es, hes⟩ : ∃ es : List (Bool × Int), Hid (es = ts.map fun t => toT (Option.map Prod.snd t)) := ⟨_, rfl⟩
  have hel : es.length = ts.length := by rw [hes.out, List.length_map]
  go_enter Try.func16, Try.ntmps16
  go_wp2_with fail
  refine (estCount_any B ib nb ci cn ev pv num seen lift ts ps w H.out).mono ?_
  rintro e w' ⟨rfl, hw⟩
  obtain rfl := hw.symm
  clear hw
  go_wp2_with (at_make; refine wpList_make_full _ rfl (.tmp 17) (.tmp 17) 29 rfl w.heap.size 72 i0 _ 2 Try.underlying29 hi hz0 hz1 .i64 .i64 _ _ ts.length rfl rfl rfl rfl (by rw [hz2]; omega) (by unfold maxLen; omega) (Nat.le_refl _) ?_; intro w2 hown2 hgrow2)
  have HX2 : Hid (Ext w w2) := Below.grown (Below.refl _ w) hgrow2 (Nat.le_refl _) (fun k hk => by cases hk)
  have HT2 : Hid (TOwn w.heap.size w2 w.heap.size (List.replicate es.length (false, 0))) := by rw [hel]; exact made_T hown2
  clear hown2 hgrow2
  generalize hga : w.heap.size = ga at HT2 ⊢
  have HGA : Hid (w.heap.size = ga) := hga
  clear hga
  go_loopw [6, 7, 8] (fun kv _ _ wr => ∃ k : Nat, k ≤ ts.length ∧ kv = .int .i64 k ∧ Hid (TOwn ga wr ga (es.take k ++ List.replicate (es.length - k) (false, 0))) ∧ Hid (Ext w wr)) (fun kv _ _ _ => ts.length - (intOf kv).toNat)
  case atStart => exact ⟨0, Nat.zero_le _, rfl, HT2.out, HX2.out⟩
  case round =>
    obtain ⟨k, hk, rfl, HT, HX⟩ := hrel
    clear HT2 HX2
    by_cases hlt : k < ts.length
    · have hlt' : (k : Int) < ts.length := by omega
      have hIr : InstP B ib nb ci cn ev pv num seen lift ts ps wr := H.out.kept HX.out.size (fun k hk => Below.block HX.out k hk)
      have hc := estAt_any B ib nb ci cn ev pv num seen lift ts ps wr hIr k hlt hts
      have hek : es[k]'(by omega) = toT (Option.map Prod.snd ts[k]) := by
        have := hes.out
        subst this
        simp
      rw [← hek] at hc
      have HS : Hid ((es.take k ++ List.replicate (es.length - k) (false, 0)).set k (es[k]'(by omega)) = es.take (k + 1) ++ List.replicate (es.length - (k + 1)) (false, 0)) := fill_set es _ k (by omega)
      have HS0 : Hid (es[k]'(by omega) = (false, 0) → es.take k ++ List.replicate (es.length - k) (false, 0) = es.take (k + 1) ++ List.replicate (es.length - (k + 1)) (false, 0)) := fun e => fill_skip es _ k (by omega) e
      have hz : (es[k]'(by omega)).1 = false → es[k]'(by omega) = (false, 0) := by
        rw [hek]
        cases ts[k] with
        | none => intro _; rfl
        | some p => intro h; cases h
      clear hIr hek
      generalize es[k]'(by omega) = x at *
      obtain ⟨b, rd⟩ := x
      have HZ : Hid (b = false → (b, rd) = (false, 0)) := hz
      clear hz
      go_wp2_with fail
      refine hc.mono ?_
      rintro e w3 ⟨rfl, hx3⟩
      have HX3 : Hid (Ext w w3) := Ext.trans HX.out hx3
      have hT3 : TOwn ga w3 ga (es.take k ++ List.replicate (es.length - k) (false, 0)) := HT.out.kept (by
        have hgl : ga < wr.heap.size := by
          obtain ⟨h1, _⟩ := HT.out.2.2 k (by rw [fill_len es _ k (by omega)]; omega)
          exact World.block_lt_of_cell? wr _ h1
        exact Below.block hx3 ga hgl)
      have hkl : k < (es.take k ++ List.replicate (es.length - k) (false, 0)).length := by rw [fill_len es _ k (by omega)]; omega
      obtain ⟨hc1, hc2⟩ := hT3.2.2 k hkl
      rw [fill_at es _ k (by omega)] at hc1 hc2
      have hf : ∀ x, w3.frozen? ⟨ga, x, none⟩ = false := hT3.2.1
      have HT4 : Hid (TOwn ga ((w3.setCell ⟨ga, k * 2, none⟩ (.bool b)).setCell ⟨ga, k * 2 + 1, none⟩ (.int .i64 rd)) ga (es.take (k + 1) ++ List.replicate (es.length - (k + 1)) (false, 0))) := by rw [← HS.out]; exact hT3.set k hkl b rd
      have HX4 : Hid (Ext w ((w3.setCell ⟨ga, k * 2, none⟩ (.bool b)).setCell ⟨ga, k * 2 + 1, none⟩ (.int .i64 rd))) := Below.setCell (p := ⟨ga, k * 2 + 1, none⟩) (Below.setCell (p := ⟨ga, k * 2, none⟩) HX3.out (Nat.le_of_eq HGA.out) _) (Nat.le_of_eq HGA.out) _
      have HT3 : Hid (TOwn ga w3 ga (es.take k ++ List.replicate (es.length - k) (false, 0))) := hT3
      clear hT3 hx3 HS hkl hc
      cases b with
      | true =>
        clear HS0 HZ HT3
        go_wp2_with fail
        go_roundw
        case rel => exact ⟨k + 1, by omega, by go_num, HT4.out, HX4.out⟩
        case measure => simp [intOf]; omega
      | false =>
        have HT5 : Hid (TOwn ga w3 ga (es.take (k + 1) ++ List.replicate (es.length - (k + 1)) (false, 0))) := by rw [← HS0.out (HZ.out rfl)]; exact HT3.out
        clear HS0 HZ HT3 HT4 HX4 hf hc1 hc2
        go_wp2_with fail
        go_roundw
        case rel => exact ⟨k + 1, by omega, by go_num, HT5.out, HX3.out⟩
        case measure => simp [intOf]; omega
    · have hke : k = ts.length := by omega
      subst hke
      have HTe : Hid (TOwn ga wr ga es) := by
        have := HT.out
        rwa [List.take_of_length_le (by omega), show es.length - ts.length = 0 by omega, List.replicate_zero, List.append_nil] at this
      clear HT
      have hIr : InstP B ib nb ci cn ev pv num seen lift ts ps wr := H.out.kept HX.out.size (fun k hk => Below.block HX.out k hk)
      have H1 : Hid (InstP B ib nb ci cn ev pv num seen lift ts ps wr) := hIr
      have HRT : Hid (TRow wr (some ⟨ga, 0, none⟩) es) := HTe.out.row
      clear hIr H HTe HGA hi hz0 hz1 hz2
      obtain ⟨w1, hw1⟩ : ∃ w1, w1 = wr := ⟨_, rfl⟩
      subst hw1
      go_wp2_with fail
      refine (pendCount_any B ib nb ci cn ev pv num seen lift ts ps w1 H1.out).mono ?_
      rintro e w' ⟨rfl, hw⟩
      obtain rfl := hw.symm
      clear hw
      go_wp2_with (at_make; refine wpList_make_full _ rfl (.tmp 38) (.tmp 38) 30 rfl w1.heap.size 76 j0 _ 3 Try.underlying30 hj hy0 hy1 .i64 .i64 _ _ ps.length rfl rfl rfl rfl (by rw [hy2]; omega) (by unfold maxLen; omega) (Nat.le_refl _) ?_; intro w2 hown2 hgrow2)
      have HX2 : Hid (Ext w1 w2) := Below.grown (Below.refl _ w1) hgrow2 (Nat.le_refl _) (fun k hk => by cases hk)
      have HT2 : Hid (POwn w1.heap.size w2 w1.heap.size (List.replicate ps.length (0, 0, 0))) := made_P hown2
      clear hown2 hgrow2
      generalize hga : w1.heap.size = gp at HT2 ⊢
      have HGA : Hid (w1.heap.size = gp) := hga
      clear hga
      go_loopw [11, 12, 13, 14] (fun kv _ _ _ wr => ∃ k : Nat, k ≤ ps.length ∧ kv = .int .i64 k ∧ Hid (POwn gp wr gp (ps.take k ++ List.replicate (ps.length - k) (0, 0, 0))) ∧ Hid (Ext w1 wr)) (fun kv _ _ _ _ => ps.length - (intOf kv).toNat)
      case atStart => exact ⟨0, Nat.zero_le _, rfl, HT2.out, HX2.out⟩
      case round =>
        obtain ⟨k, hk, rfl, HT, HX1⟩ := hrel
        clear HT2 HX2
        by_cases hlt : k < ps.length
        · have hlt' : (k : Int) < ps.length := by omega
          have hIr : InstP B ib nb ci cn ev pv num seen lift ts ps wr := H1.out.kept HX1.out.size (fun k hk => Below.block HX1.out k hk)
          have hc := pendAt_any B ib nb ci cn ev pv num seen lift ts ps wr hIr k hlt hps
          have HS : Hid ((ps.take k ++ List.replicate (ps.length - k) (0, 0, 0)).set k ps[k] = ps.take (k + 1) ++ List.replicate (ps.length - (k + 1)) (0, 0, 0)) := fill_set ps _ k (by omega)
          clear hIr
          generalize ps[k] = x at *
          obtain ⟨t, a, rd⟩ := x
          go_wp2_with fail
          refine hc.mono ?_
          rintro e w3 ⟨rfl, hx3⟩
          have HX3 : Hid (Ext w1 w3) := Ext.trans HX1.out hx3
          have hT3 : POwn gp w3 gp (ps.take k ++ List.replicate (ps.length - k) (0, 0, 0)) := HT.out.kept (by
            have hgl : gp < wr.heap.size := by
              obtain ⟨h1, _⟩ := HT.out.2.2 k (by rw [fill_len ps _ k (by omega)]; omega)
              exact World.block_lt_of_cell? wr _ h1
            exact Below.block hx3 gp hgl)
          have hkl : k < (ps.take k ++ List.replicate (ps.length - k) (0, 0, 0)).length := by rw [fill_len ps _ k (by omega)]; omega
          obtain ⟨hc1, hc2, hc3⟩ := hT3.2.2 k hkl
          rw [fill_at ps _ k (by omega)] at hc1 hc2 hc3
          have hf : ∀ x, w3.frozen? ⟨gp, x, none⟩ = false := hT3.2.1
          have HT4 : Hid (POwn gp (((w3.setCell ⟨gp, k * 3, none⟩ (.int .u8 t)).setCell ⟨gp, k * 3 + 1, none⟩ (.int .i64 a)).setCell ⟨gp, k * 3 + 2, none⟩ (.int .i64 rd)) gp (ps.take (k + 1) ++ List.replicate (ps.length - (k + 1)) (0, 0, 0))) := by rw [← HS.out]; exact hT3.set k hkl t a rd
          have HX4 : Hid (Ext w1 (((w3.setCell ⟨gp, k * 3, none⟩ (.int .u8 t)).setCell ⟨gp, k * 3 + 1, none⟩ (.int .i64 a)).setCell ⟨gp, k * 3 + 2, none⟩ (.int .i64 rd))) := Below.setCell (p := ⟨gp, k * 3 + 2, none⟩) (Below.setCell (p := ⟨gp, k * 3 + 1, none⟩) (Below.setCell (p := ⟨gp, k * 3, none⟩) HX3.out (Nat.le_of_eq HGA.out) _) (Nat.le_of_eq HGA.out) _) (Nat.le_of_eq HGA.out) _
          clear hT3 hx3 HS hkl hc
          go_wp2_with fail
          go_roundw
          case rel => exact ⟨k + 1, by omega, by go_num, HT4.out, HX4.out⟩
          case measure => simp [intOf]; omega
        · have hke : k = ps.length := by omega
          subst hke
          have HPe : Hid (PRow wr (some ⟨gp, 0, none⟩) ps) := by
            have := HT.out
            rw [List.take_length, Nat.sub_self, List.replicate_zero, List.append_nil] at this
            exact this.row
          have HRe : Hid (TRow wr (some ⟨ga, 0, none⟩) es) := HRT.out.kept HX1.out
          have HXe : Hid (Ext w wr) := Ext.trans HX.out HX1.out
          clear HT HRT HX1 HX H1 HGA
          go_wp2_with fail
          go_ret2
          exact ⟨ga, gp, rfl, HXe.out, by rw [← hes.out]; exact HRe.out, HPe.out⟩
end Go.Proofs.Qxb6616238a.Grow
