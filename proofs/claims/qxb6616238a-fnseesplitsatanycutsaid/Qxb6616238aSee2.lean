import Derived.Test.Qxb6616238aDel
namespace Go.Proofs.Qxb6616238a.Grow
set_option linter.unusedVariables false
set_option linter.unusedSimpArgs false
set_option maxRecDepth 100000
open Go.ChangeShapes Go.WideShapes Go.ChangeAt Go.RowKit Go.Lib

set_option maxHeartbeats 1000000 in
theorem del_nil (fv : Value) (w : World) : Calls Try.prog 55 #[.slice none 0 0, fv] w fun e w' => e = .returned (.slice none 0 0) ∧ w' = w := by
  go_enter Try.func55, Try.ntmps55
  go_wp2_with fail
  refine (index_nil fv w).mono ?_
  rintro e w1 ⟨rfl, rfl⟩
  go_wp2_with fail
  go_ret
  exact ⟨rfl, rfl⟩

/-- What a waiting message must be to be struck: a proposal of this number below the round. -/
def struck (num q : Int) (x : Msg3) : Bool := decide (x.1 = 2) && decide (x.2.1 = num) && decide (x.2.2 < q)
def left3 (num q : Int) (ps : List Msg3) : List Msg3 := ps.filter fun x => !struck num q x

/-- The waiting messages' row turned, and its value laid into the node. -/
theorem InstP.turnP {B ib nb : Nat} {ci cn : Array Value} {ev pv pv' : Value} {num seen lift : Int} {ts : List Pl} {ps ps' : List Msg3} {w w2 w3 : World} (h : InstP B ib nb ci cn ev pv num seen lift ts ps w) (hx : Ext w w2) (hg : w2.grownBy w3 pv.ownBlock)
    (hown : w3.ownsRow B 104 23 pv' ps'.length (ps'.flatMap pc)) (ho : pv'.ownBlock = pv.ownBlock) :
    InstP B ib nb ci (cn.setIfInBounds 14 pv') ev pv' num seen lift ts ps' (w3.setCell ⟨nb, 14, none⟩ pv') ∧ Below B w (w3.setCell ⟨nb, 14, none⟩ pv') := by
  have i1 := h.iSz
  have n1 := h.nSz
  have hxs := hx.size
  have hgs := hg.size
  have iB := h.iB
  have hoth : ∀ k, k ≠ nb → (w3.setCell ⟨nb, 14, none⟩ pv').heap[k]? = w3.heap[k]? := fun k hk => heap_setCell_other w3 ⟨nb, 14, none⟩ k _ hk
  have k3 : ∀ k, k < w.heap.size → some k ≠ pv.ownBlock → w3.heap[k]? = w.heap[k]? := fun k hk hne => (hg.block k (by omega) hne).trans (Below.block hx k hk)
  have hn3 : w3.heap[nb]? = some (.cells cn 69 (0, 0)) := by rw [k3 nb n1 (fun e => h.pn e.symm)]; exact h.hn
  refine ⟨h.upd (by simp; omega) ?_ h.cz rfl rfl h.c5 h.c8 h.c12 (heap_setCell_same w3 nb 14 cn 69 _ hn3) (by simp [h.nz]) (set_get_eq _ (by rw [h.nz]; decide)) ?_ ?_ ?_ (.inl rfl) (.inl ho) ?_ (fun b r hb => .inl hb), ?_⟩
  · rw [hoth ib h.ne, k3 ib i1 (fun e => h.pi e.symm)]; exact h.hi
  · intro k hk h1 h2 h3 h4
    rw [hoth k h2]; exact k3 k hk h4
  · refine own_kept h.he (fun x hx' => ?_)
    have hxn : x ≠ nb := fun e => h.en (by rw [← e]; exact hx')
    rw [hoth x hxn]
    exact k3 x (h.he.lt x hx').2 (fun e => h.ep x hx' e.symm)
  · refine own_kept hown (fun x hx' => ?_)
    have hxn : x ≠ nb := fun e => h.pn (by rw [← e, ← ho]; exact hx')
    exact hoth x hxn
  · intro x hx' e
    exact h.ep x hx' (by rw [← ho]; exact e)
  · refine Below.setCell (p := ⟨nb, 14, none⟩) ?_ h.nB _
    exact (Below.mono hx (by omega)).grown hg (by omega) (fun k hk => (h.hp.lt k hk).1)

/-- A place of the estimates emptied. -/
theorem InstP.clearE {B ib nb : Nat} {ci cn : Array Value} {pv : Value} {num seen lift : Int} {g cap : Nat} {ts : List Pl} {ps : List Msg3} {w : World} (h : InstP B ib nb ci cn (.slice (some ⟨g, 0, none⟩) ts.length cap) pv num seen lift ts ps w) (k : Nat) (hk : k < ts.length) :
    InstP B ib nb ci cn (.slice (some ⟨g, 0, none⟩) ts.length cap) pv num seen lift (ts.set k none) ps (w.setCell ⟨g, k, none⟩ (.pointer none)) ∧ Below B w (w.setCell ⟨g, k, none⟩ (.pointer none)) := by
  have hgi : ib ≠ g := fun e => h.ei (by rw [e]; rfl)
  have hgn : nb ≠ g := fun e => h.en (by rw [e]; rfl)
  have hB := (h.he.lt g rfl).1
  have hoth : ∀ x, x ≠ g → (w.setCell ⟨g, k, none⟩ (.pointer none)).heap[x]? = w.heap[x]? := fun x hx => heap_setCell_other w ⟨g, k, none⟩ x _ hx
  refine ⟨h.upd (by simp) ?_ h.cz rfl rfl h.c5 h.c8 h.c12 ?_ h.nz h.n14 ?_ ?_ ?_ (.inl rfl) (.inl rfl) h.ep ?_, Below.setCell (p := ⟨g, k, none⟩) (Below.refl B w) hB _⟩
  · rw [hoth ib hgi]; exact h.hi
  · rw [hoth nb hgn]; exact h.hn
  · intro x hx h1 h2 h3 h4
    exact hoth x (fun e => h3 (by rw [e]; rfl))
  · have := h.he.stored k (.pointer none)
    have e : (ts.set k none).map plv = (ts.map plv).set k (.pointer none) := by rw [List.map_set]; rfl
    rw [e, List.length_set]
    exact this.1
  · refine own_kept h.hp (fun x hx => hoth x (fun e => ?_))
    exact h.ep g rfl (by rw [← e]; exact hx)
  · intro b r hb
    left
    rcases List.mem_or_eq_of_mem_set hb with hb | hb
    · exact hb
    · cases hb

theorem own_pv {w : World} {B : Nat} {v : Value} {ps : List Msg3} (h : w.ownsRow B 104 23 v ps.length (ps.flatMap pc)) : (v = .slice none 0 0 ∧ ps = []) ∨ ∃ g cap, v = .slice (some ⟨g, 0, none⟩) ps.length cap ∧ RowD w g cap ps.toArray ∧ B ≤ g ∧ cap ≤ maxLen := by
  have h' := h
  rcases h'.2 with ⟨rfl, h0⟩ | ⟨g, cap, cur, rfl, _⟩
  · exact .inl ⟨rfl, List.length_eq_zero_iff.1 h0⟩
  · exact .inr ⟨g, cap, rfl, RowD.of h⟩

theorem del_own (B : Nat) (pv : Value) (ps : List Msg3) (c1 c2 : Nat) (p : Msg3 → Bool) (w : World) (hp : w.ownsRow B 104 23 pv ps.length (ps.flatMap pc)) (hps : ps.length ≤ 65536)
    (hcall : ∀ (g : Nat), pv.ownBlock = some g → ∀ (W : World) (x : Msg3), w.grownBy W (some g) → Calls Try.prog 56 #[.agg (pc x).toArray, .pointer (some ⟨c1, 0, none⟩), .pointer (some ⟨c2, 0, none⟩)] W fun e w' => e = .returned (.bool (p x)) ∧ Ext W w') :
    Calls Try.prog 55 #[pv, .func (.func 56) #[] #[.pointer (some ⟨c1, 0, none⟩), .pointer (some ⟨c2, 0, none⟩)]] w fun e w' => ∃ pv', e = .returned pv' ∧ w.grownBy w' pv.ownBlock ∧ w'.ownsRow B 104 23 pv' (ps.filter fun x => !p x).length ((ps.filter fun x => !p x).flatMap pc) ∧ pv'.ownBlock = pv.ownBlock := by
  rcases own_pv hp with ⟨rfl, rfl⟩ | ⟨g, cap, rfl, hR, hB, hm⟩
  · refine (del_nil _ w).mono ?_
    rintro e w' ⟨rfl, rfl⟩
    exact ⟨_, rfl, grown_refl _ _, by simpa using hp, rfl⟩
  · have := del_any g cap c1 c2 ps.toArray p w hR (by simpa using hps) hm (hcall g rfl)
    rw [List.size_toArray] at this
    refine this.mono ?_
    rintro e w' ⟨n, rfl, hg, hn, hR'⟩
    have ho := hR'.owns hB hm
    simp only [List.size_toArray] at ho hn
    subst hn
    exact ⟨_, rfl, hg, ho, rfl⟩

set_option maxHeartbeats 4000000 in
theorem drop_any (B ib nb : Nat) (ci cn : Array Value) (ev pv : Value) (num seen lift : Int) (ts : List Pl) (ps : List Msg3) (w : World) (h : InstP B ib nb ci cn ev pv num seen lift ts ps w) (hps : ps.length ≤ 65536)
    (rb : Nat) (q : Int) (hq : w.cell? ⟨rb, 0, none⟩ = some (.int .i64 q)) (hrb : rb < w.heap.size) (hrp : pv.ownBlock ≠ some rb) :
    Calls Try.prog 44 #[.pointer (some ⟨ib, 0, none⟩), .func (.func 45) #[] #[.pointer (some ⟨rb, 0, none⟩)]] w fun e w' => e = .returned (.tuple #[]) ∧ ∃ cn' pv', InstP B ib nb ci cn' ev pv' num seen lift ts (left3 num q ps) w' ∧ Below B w w' := by
  have i1 := h.iSz
  have n1 := h.nSz
  obtain ⟨wa, hwa⟩ : ∃ wa, wa = (w.alloc (.cells #[.pointer (some ⟨ib, 0, none⟩)] 32)).alloc (.cells #[.func (.func 45) #[] #[.pointer (some ⟨rb, 0, none⟩)]] 106) := ⟨_, rfl⟩
  have hxa : Ext w wa := by rw [hwa]; exact Ext.trans (Ext.alloc w _) (Ext.alloc _ _)
  have hsa : wa.heap.size = w.heap.size + 2 := by rw [hwa]; simp
  have hIa : InstP B ib nb ci cn ev pv num seen lift ts ps wa := h.kept hxa.size (fun k hk => Below.block hxa k hk)
  have hc1 : wa.cell? ⟨w.heap.size, 0, none⟩ = some (.pointer (some ⟨ib, 0, none⟩)) := by rw [hwa]; simp
  have hc2 : wa.cell? ⟨w.heap.size + 1, 0, none⟩ = some (.func (.func 45) #[] #[.pointer (some ⟨rb, 0, none⟩)]) := by rw [hwa]; simp
  have ha0 : wa.cell? ⟨ib, 0, none⟩ = some (.pointer (some ⟨nb, 0, none⟩)) := by rw [hIa.icell]; exact hIa.c0
  have ha14 : wa.cell? ⟨nb, 14, none⟩ = some pv := by rw [hIa.ncell]; exact hIa.n14
  have hqa : wa.cell? ⟨rb, 0, none⟩ = some (.int .i64 q) := by rw [Below.cell hxa hrb]; exact hq
  have hna : wa.cell? ⟨ib, 1, none⟩ = some (.int .i64 num) := by rw [hIa.icell]; exact hIa.c1
  have HIa : Hid (InstP B ib nb ci cn ev pv num seen lift ts ps wa) := hIa
  have HXa : Hid (Ext w wa) := hxa
  have hn14 : ∀ w3 : World, w3.heap[nb]? = some (.cells cn 69 (0, 0)) → (w3.cell? ⟨nb, 14, none⟩).isSome = true ∧ w3.frozen? ⟨nb, 14, none⟩ = false := fun w3 e => ⟨by rw [cell_of_row w3 nb 14 cn _ _ e, h.n14]; rfl, frozen_of_row w3 nb 14 cn _ e⟩
  have HN : Hid (∀ w3 : World, w3.heap[nb]? = some (.cells cn 69 (0, 0)) → w3.cell? ⟨nb, 14, none⟩ = some pv ∧ w3.frozen? ⟨nb, 14, none⟩ = false) := fun w3 e => ⟨by rw [cell_of_row w3 nb 14 cn _ _ e]; exact h.n14, frozen_of_row w3 nb 14 cn _ e⟩
  have HC : Hid (∀ (g : Nat), pv.ownBlock = some g → ∀ (W : World) (x : Msg3), wa.grownBy W (some g) → Calls Try.prog 56 #[.agg (pc x).toArray, .pointer (some ⟨w.heap.size, 0, none⟩), .pointer (some ⟨w.heap.size + 1, 0, none⟩)] W fun e w' => e = .returned (.bool (struck num q x)) ∧ Ext W w') := by
    intro g hg W x hW
    have hgl := (h.hp.lt g hg).2
    have kp : ∀ (b o : Nat), b < wa.heap.size → b ≠ g → W.cell? ⟨b, o, none⟩ = wa.cell? ⟨b, o, none⟩ := fun b o hb hne => World.cell?_of_block (w := wa) (a := ⟨b, o, none⟩) (hW.block b hb (fun e => hne (by simpa using e)))
    have hWs := hW.size
    have hgi : ib ≠ g := fun e => h.pi (by rw [e]; exact hg)
    have hgr : rb ≠ g := fun e => hrp (by rw [e]; exact hg)
    obtain ⟨t, i, r⟩ := x
    exact drop1_any t i r w.heap.size (w.heap.size + 1) ib rb num q W (by rw [kp _ _ (by omega) (by omega)]; exact hc1) (by rw [kp _ _ (by omega) (by omega)]; exact hc2) (by rw [kp _ _ (by omega) hgi]; exact hna) (by rw [kp _ _ (by omega) hgr]; exact hqa) (by omega) (by omega) (by omega) (by omega)
  clear hn14 hqa hna hc2 h hIa hxa hq hrp
  subst hwa
  go_enter Try.func44, Try.ntmps44
  go_wp2_with fail
  generalize (w.alloc (.cells #[.pointer (some ⟨ib, 0, none⟩)] 32)).alloc (.cells #[.func (.func 45) #[] #[.pointer (some ⟨rb, 0, none⟩)]] 106) = wa at *
  refine (del_own B pv ps _ _ (struck num q) wa HIa.out.hp hps HC.out).mono ?_
  rintro e w3 ⟨pv', rfl, hg, hown, ho⟩
  obtain ⟨pa, pcap, rfl⟩ := own_slice hown
  have hIa := HIa.out
  have hn3 : w3.heap[nb]? = some (.cells cn 69 (0, 0)) := by rw [hg.block nb hIa.nSz (fun e => hIa.pn e.symm)]; exact hIa.hn
  obtain ⟨hc3, hf3⟩ := HN.out w3 hn3
  obtain ⟨hI3, hB3⟩ := hIa.turnP (Ext.refl wa) hg hown ho
  generalize (ps.filter fun x => !struck num q x).length = pn at *
  have HI3 : Hid (InstP B ib nb ci (cn.setIfInBounds 14 (.slice pa pn pcap)) ev (.slice pa pn pcap) num seen lift ts (left3 num q ps) (w3.setCell ⟨nb, 14, none⟩ (.slice pa pn pcap))) := hI3
  have HB3 : Hid (Below B w (w3.setCell ⟨nb, 14, none⟩ (.slice pa pn pcap))) := (Below.mono HXa.out (by have := hIa.iB; omega)).trans hB3
  clear hg hown ho hIa hn3 hI3 hB3 HC HN HIa hc1 ha0 ha14 hsa
  go_wp2_with fail
  go_end0
  exact ⟨rfl, _, _, HI3.out, HB3.out⟩

/-- A tally that is of use above the base. -/
def keepT (base : Int) (t : Pl) : Pl := match t with | none => none | some p => if p.2 ≤ base then none else some p

theorem set_keep (base : Int) (ts : List Pl) (k : Nat) (hk : k < ts.length) : ((ts.take k).map (keepT base) ++ ts.drop k).set k (keepT base ts[k]) = (ts.take (k + 1)).map (keepT base) ++ ts.drop (k + 1) := by
  have hl : ((ts.take k).map (keepT base)).length = k := by rw [List.length_map, List.length_take]; omega
  rw [List.set_append_right _ _ (by omega), hl, Nat.sub_self, List.drop_eq_getElem_cons hk, List.set_cons_zero, List.take_succ_eq_append_getElem hk, List.map_append]
  simp
theorem at_keep (base : Int) (ts : List Pl) (k : Nat) (hk : k < ts.length) : ((ts.take k).map (keepT base) ++ ts.drop k)[k]? = some ts[k] := by
  have hl : ((ts.take k).map (keepT base)).length = k := by rw [List.length_map, List.length_take]; omega
  rw [List.getElem?_append_right (by omega), hl, Nat.sub_self, List.drop_eq_getElem_cons hk]
  rfl
theorem len_keep (base : Int) (ts : List Pl) (k : Nat) (hk : k ≤ ts.length) : ((ts.take k).map (keepT base) ++ ts.drop k).length = ts.length := by
  rw [List.length_append, List.length_map, List.length_take, List.length_drop]; omega

theorem set_self_of {l : List Pl} {k : Nat} {x : Pl} (h : l[k]? = some x) : l.set k x = l := by
  obtain ⟨hk, e⟩ := List.getElem?_eq_some_iff.1 h
  rw [← e, List.set_getElem_self]

/-- The field 'seen' laid. -/
theorem InstP.setSeen {B ib nb : Nat} {ci cn : Array Value} {ev pv : Value} {num seen lift : Int} {ts : List Pl} {ps : List Msg3} {w : World} (h : InstP B ib nb ci cn ev pv num seen lift ts ps w) (r : Int) :
    InstP B ib nb (ci.setIfInBounds 5 (.int .i64 r)) cn ev pv num r lift ts ps (w.setCell ⟨ib, 5, none⟩ (.int .i64 r)) ∧ Below B w (w.setCell ⟨ib, 5, none⟩ (.int .i64 r)) := by
  have hoth : ∀ x, x ≠ ib → (w.setCell ⟨ib, 5, none⟩ (.int .i64 r)).heap[x]? = w.heap[x]? := fun x hx => heap_setCell_other w ⟨ib, 5, none⟩ x _ hx
  refine ⟨h.upd (by simp) (heap_setCell_same w ib 5 ci 88 _ h.hi) (by simp [h.cz]) (set_get_ne _ (by decide)) (set_get_ne _ (by decide)) (set_get_eq _ (by rw [h.cz]; decide)) (by rw [set_get_ne _ (by decide)]; exact h.c8) (by rw [set_get_ne _ (by decide)]; exact h.c12) ?_ h.nz h.n14 ?_ ?_ ?_ (.inl rfl) (.inl rfl) h.ep (fun b r hb => .inl hb), Below.setCell (p := ⟨ib, 5, none⟩) (Below.refl B w) h.iB _⟩
  · rw [hoth nb (Ne.symm h.ne)]; exact h.hn
  · intro x hx h1 h2 h3 h4
    exact hoth x h1
  · exact own_kept h.he (fun x hx => hoth x (fun e => h.ei (by rw [← e]; exact hx)))
  · exact own_kept h.hp (fun x hx => hoth x (fun e => h.pi (by rw [← e]; exact hx)))

set_option maxHeartbeats 4000000 in
theorem see_any (B ib nb : Nat) (ci cn : Array Value) (ev pv : Value) (num seen lift : Int) (ts : List Pl) (ps : List Msg3) (w : World) (h : InstP B ib nb ci cn ev pv num seen lift ts ps w) (hts : ts.length ≤ 65536) (hps : ps.length ≤ 65536) (h0 : 0 ≤ lift) (h1 : lift ≤ 9223372036854775807) (r : Int) :
    Calls Try.prog 36 #[.pointer (some ⟨ib, 0, none⟩), .int .i64 r] w fun e w' => e = .returned (.tuple #[]) ∧ ∃ ci' cn' pv', InstP B ib nb ci' cn' ev pv' num r lift (ts.map (keepT (mx r (lift - 1)))) (left3 num r ps) w' ∧ Below B w w' := by
  have hBs : B ≤ w.heap.size := Nat.le_trans h.iB (Nat.le_of_lt h.iSz)
  have hIa : InstP B ib nb ci cn ev pv num seen lift ts ps (w.alloc (.cells #[.int .i64 r] 3)) := h.kept (by simp) (fun k hk => heap_alloc_old w _ hk)
  have hBa : Below B w (w.alloc (.cells #[.int .i64 r] 3)) := (Below.refl B w).alloc hBs _
  obtain ⟨hI1, hB1⟩ := hIa.setSeen r
  have HI1 : Hid (InstP B ib nb (ci.setIfInBounds 5 (.int .i64 r)) cn ev pv num r lift ts ps ((w.alloc (.cells #[.int .i64 r] 3)).setCell ⟨ib, 5, none⟩ (.int .i64 r))) := hI1
  have HB1 : Hid (Below B w ((w.alloc (.cells #[.int .i64 r] 3)).setCell ⟨ib, 5, none⟩ (.int .i64 r))) := hBa.trans hB1
  have c5 : (w.alloc (.cells #[.int .i64 r] 3)).cell? ⟨ib, 5, none⟩ = some (.int .i64 seen) := by rw [hIa.icell]; exact hIa.c5
  have f5 : (w.alloc (.cells #[.int .i64 r] 3)).frozen? ⟨ib, 5, none⟩ = false := hIa.ifr 5
  have hne : ib ≠ w.heap.size := by have := h.iSz; omega
  have hrc : ((w.alloc (.cells #[.int .i64 r] 3)).setCell ⟨ib, 5, none⟩ (.int .i64 r)).cell? ⟨w.heap.size, 0, none⟩ = some (.int .i64 r) := by rw [World.cell?_setCell_other _ _ _ _ (by intro e; injection e with e1; exact hne e1)]; simp
  have HL : Hid (ib < w.heap.size ∧ nb < w.heap.size ∧ (∀ g, ev.ownBlock = some g → g < w.heap.size) ∧ ∀ g, pv.ownBlock = some g → g < w.heap.size) := ⟨h.iSz, h.nSz, fun g hg => (h.he.lt g hg).2, fun g hg => (h.hp.lt g hg).2⟩
  obtain ⟨va, vc, rfl⟩ := own_slice h.he
  clear hI1 hB1 hBa hIa h
  go_enter Try.func36, Try.ntmps36
  go_wp2_with fail
  generalize (w.alloc (.cells #[.int .i64 r] 3)).setCell ⟨ib, 5, none⟩ (.int .i64 r) = w1 at *
  refine (base_any B ib nb _ cn _ pv num r lift ts ps w1 HI1.out h0 h1).mono ?_
  rintro e w2 ⟨rfl, rfl⟩
  have HI2 : Hid (InstP B ib nb (ci.setIfInBounds 5 (.int .i64 r)) cn (.slice va ts.length vc) pv num r lift ts ps w1.drew) := HI1.out.kept (Nat.le_refl _) (fun _ _ => rfl)
  have HB2 : Hid (Below B w w1.drew) := Below.drew HB1.out
  have HR2 : Hid (w1.drew.cell? ⟨w.heap.size, 0, none⟩ = some (.int .i64 r) ∧ w.heap.size < w1.drew.heap.size) := ⟨hrc, World.block_lt_of_cell? w1 _ hrc⟩
  clear HI1 HB1 hrc c5 f5
  generalize w1.drew = w2 at *
  generalize ci.setIfInBounds 5 (.int .i64 r) = ci1 at *
  generalize hbase : mx r (lift - 1) = base at *
  have HBA : Hid (mx r (lift - 1) = base) := hbase
  clear hbase
  have c8 : w2.cell? ⟨ib, 8, none⟩ = some (.slice va ts.length vc) := by rw [HI2.out.icell]; exact HI2.out.c8
  go_wp2_with fail
  go_loopw [5, 6, 18] (fun _ _ iv wr => ∃ k : Nat, k ≤ ts.length ∧ iv = .int .i64 k ∧ Hid (InstP B ib nb ci1 cn (.slice va ts.length vc) pv num r lift ((ts.take k).map (keepT base) ++ ts.drop k) ps wr) ∧ Hid (Below B w wr) ∧ Hid (wr.cell? ⟨w.heap.size, 0, none⟩ = some (.int .i64 r) ∧ w.heap.size < wr.heap.size)) (fun _ _ iv _ => ts.length - (intOf iv).toNat)
  case atStart => exact ⟨0, Nat.zero_le _, rfl, HI2.out, HB2.out, HR2.out⟩
  case round =>
    obtain ⟨k, hk, rfl, HI, HB, HR⟩ := hrel
    clear HI2 HB2 HR2 c8
    have hlk := len_keep base ts k hk
    by_cases hlt : k < ts.length
    · have hlt' : (k : Int) < ts.length := by omega
      obtain ⟨g, rfl⟩ : ∃ g, va = some ⟨g, 0, none⟩ := by
        rcases HI.out.he.2 with ⟨e, _⟩ | ⟨g, cap, cur, e, _⟩
        · simp only [Value.slice.injEq] at e
          omega
        · simp only [Value.slice.injEq] at e
          exact ⟨g, e.1⟩
      have hHI : InstP B ib nb ci1 cn (.slice (some ⟨g, 0, none⟩) ((ts.take k).map (keepT base) ++ ts.drop k).length vc) pv num r lift ((ts.take k).map (keepT base) ++ ts.drop k) ps wr := by rw [hlk]; exact HI.out
      have hcell : wr.cell? ⟨g, k, none⟩ = some (plv ts[k]) := by
        have := hHI.he.cellAt k (by rw [hlk]; omega)
        rw [this, List.getElem?_map, at_keep base ts k hlt]
        rfl
      have hfr : wr.frozen? ⟨g, k, none⟩ = false := hHI.he.frozenAt k
      have h8 : wr.cell? ⟨ib, 8, none⟩ = some (.slice (some ⟨g, 0, none⟩) ts.length vc) := by rw [HI.out.icell]; exact HI.out.c8
      have hgl : g < w.heap.size := HL.out.2.2.1 g rfl
      have htl : ∀ b rd, ts[k] = some (b, rd) → wr.cell? ⟨b, 1, none⟩ = some (.int .i64 rd) := by
        intro b rd e
        refine (HI.out.tl b rd ?_).2.2.2.2.2.2
        exact List.mem_append_right _ (by rw [List.drop_eq_getElem_cons hlt, e]; exact List.mem_cons_self)
      have HS : Hid (((ts.take k).map (keepT base) ++ ts.drop k).set k (keepT base ts[k]) = (ts.take (k + 1)).map (keepT base) ++ ts.drop (k + 1)) := set_keep base ts k hlt
      have HS0 : Hid (keepT base ts[k] = ts[k] → (ts.take k).map (keepT base) ++ ts.drop k = (ts.take (k + 1)).map (keepT base) ++ ts.drop (k + 1)) := fun e => by
        rw [← HS.out, e]
        exact (set_self_of (at_keep base ts k hlt)).symm
      have HCE : Hid (keepT base ts[k] = none → InstP B ib nb ci1 cn (.slice (some ⟨g, 0, none⟩) ts.length vc) pv num r lift ((ts.take (k + 1)).map (keepT base) ++ ts.drop (k + 1)) ps (wr.setCell ⟨g, k, none⟩ (.pointer none)) ∧ Below B wr (wr.setCell ⟨g, k, none⟩ (.pointer none))) := fun e => by
        have := hHI.clearE k (by omega)
        rw [← HS.out, e]
        rwa [hlk] at this
      have HRs : Hid ((wr.setCell ⟨g, k, none⟩ (.pointer none)).cell? ⟨w.heap.size, 0, none⟩ = some (.int .i64 r) ∧ w.heap.size < (wr.setCell ⟨g, k, none⟩ (.pointer none)).heap.size) := by
        refine ⟨?_, by simpa using HR.out.2⟩
        rw [World.cell?_setCell_other _ _ _ _ (by intro e; injection e with e1; omega)]
        exact HR.out.1
      clear hHI hgl hlk hne
      generalize ts[k] = t at *
      cases t with
      | none =>
        have HI2 : Hid (InstP B ib nb ci1 cn (.slice (some ⟨g, 0, none⟩) ts.length vc) pv num r lift ((ts.take (k + 1)).map (keepT base) ++ ts.drop (k + 1)) ps wr) := by rw [← HS0.out rfl]; exact HI.out
        have hcell' : wr.cell? ⟨g, k, none⟩ = some (.pointer none) := hcell
        clear HI HCE HS HS0 htl hcell HRs
        go_wp2_with fail
        go_roundw
        case rel => exact ⟨k + 1, by omega, by go_num, HI2.out, HB.out, HR.out⟩
        case measure => simp [intOf]; omega
      | some p =>
        obtain ⟨b, rd⟩ := p
        have hcell' : wr.cell? ⟨g, k, none⟩ = some (.pointer (some ⟨b, 0, none⟩)) := hcell
        have hrd := htl b rd rfl
        clear hcell htl
        by_cases hle : rd ≤ base
        · have hke : keepT base (some (b, rd)) = none := by simp [keepT, hle]
          obtain ⟨hI2, hB2⟩ := HCE.out hke
          have HI2 : Hid (InstP B ib nb ci1 cn (.slice (some ⟨g, 0, none⟩) ts.length vc) pv num r lift ((ts.take (k + 1)).map (keepT base) ++ ts.drop (k + 1)) ps (wr.setCell ⟨g, k, none⟩ (.pointer none))) := hI2
          have HB2 : Hid (Below B w (wr.setCell ⟨g, k, none⟩ (.pointer none))) := Below.trans HB.out hB2
          clear HI HCE HS HS0 hI2 hB2 hke
          go_wp2_with fail
          go_roundw
          case rel => exact ⟨k + 1, by omega, by go_num, HI2.out, HB2.out, HRs.out⟩
          case measure => simp [intOf]; omega
        · have hke : keepT base (some (b, rd)) = some (b, rd) := by simp [keepT, hle]
          have HI2 : Hid (InstP B ib nb ci1 cn (.slice (some ⟨g, 0, none⟩) ts.length vc) pv num r lift ((ts.take (k + 1)).map (keepT base) ++ ts.drop (k + 1)) ps wr) := by rw [← HS0.out hke]; exact HI.out
          clear HI HCE HS HS0 HRs hke
          go_wp2_with fail
          go_roundw
          case rel => exact ⟨k + 1, by omega, by go_num, HI2.out, HB.out, HR.out⟩
          case measure => simp [intOf]; omega
    · have hke : k = ts.length := by omega
      subst hke
      have HI2 : Hid (InstP B ib nb ci1 cn (.slice va ts.length vc) pv num r lift (ts.map (keepT base)) ps wr) := by
        have := HI.out
        rwa [List.take_length, List.drop_length, List.append_nil] at this
      clear HI hlk
      go_wp2_with fail
      refine (drop_any B ib nb ci1 cn _ pv num r lift _ ps wr HI2.out hps w.heap.size r HR.out.1 HR.out.2 (fun e => Nat.lt_irrefl _ (HL.out.2.2.2 _ e))).mono ?_
      rintro e w3 ⟨rfl, cn', pv', hI3, hB3⟩
      have HI3 : Hid (InstP B ib nb ci1 cn' (.slice va ts.length vc) pv' num r lift (ts.map (keepT base)) (left3 num r ps) w3) := hI3
      have HB3 : Hid (Below B w w3) := Below.trans HB.out hB3
      clear hI3 hB3 HI2
      go_wp2_with fail
      go_end0
      exact ⟨rfl, _, _, _, by rw [HBA.out]; exact HI3.out, HB3.out⟩

set_option maxHeartbeats 1000000 in
theorem zzsee_any (B ib nb : Nat) (ci cn : Array Value) (ev pv : Value) (num seen lift : Int) (ts : List Pl) (ps : List Msg3) (w : World) (h : InstP B ib nb ci cn ev pv num seen lift ts ps w) (hts : ts.length ≤ 65536) (hps : ps.length ≤ 65536) (h0 : 0 ≤ lift) (h1 : lift ≤ 9223372036854775807) (r : Int) :
    Calls Try.prog 15 #[.pointer (some ⟨ib, 0, none⟩), .int .i64 r] w fun e w' => e = .returned (.tuple #[]) ∧ ∃ ci' cn' pv', InstP B ib nb ci' cn' ev pv' num r lift (ts.map (keepT (mx r (lift - 1)))) (left3 num r ps) w' ∧ Below B w w' := by
  have hc := see_any B ib nb ci cn ev pv num seen lift ts ps w h hts hps h0 h1 r
  clear h
  go_enter Try.func15, Try.ntmps15
  go_wp2_with fail
  refine hc.mono ?_
  rintro e w3 ⟨rfl, hI⟩
  have HI : Hid (∃ ci' cn' pv', InstP B ib nb ci' cn' ev pv' num r lift (ts.map (keepT (mx r (lift - 1)))) (left3 num r ps) w3 ∧ Below B w w3) := hI
  clear hI hc
  go_wp2_with fail
  go_end0
  exact ⟨rfl, HI.out⟩
end Go.Proofs.Qxb6616238a.Grow
